import JvmDerived
import JvmDerived.Pilot.@@N@@Statement
import JvmDerived.Pilot.@@N@@Code
set_option linter.unusedVariables false
set_option linter.unusedSimpArgs false
set_option maxRecDepth 65536
set_option maxHeartbeats 4000000
namespace Jvm.Pilot.@@N@@
open Jvm Jvm.ClassFile Sem Op Lib Jvm.Free Jvm.Stand Jvm.LawKit Jvm.RoadKit Bundle Jvm.Pilot.@@N@@.Jvm.D
section Own
variable {p : Program} {l : Launch} {e : Env} {R : Room} {s : State} {m : MethodId} {args : Array Value} {below : List Frame} {meth : Method} {c : Code} {T : State} {locs : List Loc} {cells slots : Nat} {K J : Nat} {EE : Outcome → State → List Loc → Prop} {Q : Option Value → Heap → List Loc → Prop} {Z : State} {a0 : Array Value} {h : Heap}
/-- from U the run comes to its end, and what it leaves is Q's -/
def Ends (p : Program) (e : Env) (below : List Frame) (EE : Outcome → State → List Loc → Prop) (Q : Option Value → Heap → List Loc → Prop) (U : State) : Prop :=
  ∃ s₂ o, Steps p.tables e below U s₂ ∧ s₂.status = .running ∧ Ended s₂ below o ∧ ∃ v L, o = .returned v ∧ Q v s₂.heap L ∧ EE o s₂ L
/-- the end's frame: tables warmed alone; or strings interned too -/
abbrev EF (s : State) (K J : Nat) : Outcome → State → List Loc → Prop := fun o t L => FrameEnd s o t L K J
abbrev EW (s : State) (K J : Nat) : Outcome → State → List Loc → Prop := fun o t L => ReturnedEndW s o t L K J
theorem Ends.via {A B : State} (h : ∀ t, Steps p.tables e below A t → Steps p.tables e below B t) (k : Ends p e below EE Q A) : Ends p e below EE Q B := by
  obtain ⟨s2, o, h1, h2⟩ := k
  exact ⟨s2, o, h _ h1, h2⟩
theorem Ends.tr {A B : State} (h : Steps p.tables e below B A) (k : Ends p e below EE Q A) : Ends p e below EE Q B := by
  obtain ⟨s2, o, h1, h2⟩ := k
  exact ⟨s2, o, h.trans h1, h2⟩
theorem Ends.cast {g g' : JFrame} (q : g = g') (k : Ends p e below EE Q (T.setTop g')) : Ends p e below EE Q (T.setTop g) := q ▸ k
theorem own_iadd (X : Stand p l e R s m args below meth c T locs cells slots) (hx : p.tables.exec = Jvm.exec) {pc n : Nat} {Ls : Array Slot} {st : List Value} {x y : Int32} (hd : decode c.code pc = .ok (.iadd, 1))  (hn : pc + 1 = n) (k : Ends p e below EE Q (T.setTop (mkF m n Ls (.int (x + y) :: st)))) : Ends p e below EE Q (T.setTop (mkF m pc Ls (.int y :: .int x :: st))) := by
  subst hn
  exact Ends.via (fun t h => XS.iadd X.here hx rfl hd rfl h) k
theorem own_isub (X : Stand p l e R s m args below meth c T locs cells slots) (hx : p.tables.exec = Jvm.exec) {pc n : Nat} {Ls : Array Slot} {st : List Value} {x y : Int32} (hd : decode c.code pc = .ok (.isub, 1))  (hn : pc + 1 = n) (k : Ends p e below EE Q (T.setTop (mkF m n Ls (.int (x - y) :: st)))) : Ends p e below EE Q (T.setTop (mkF m pc Ls (.int y :: .int x :: st))) := by
  subst hn
  exact Ends.via (fun t h => XS.isub X.here hx rfl hd rfl h) k
theorem own_imul (X : Stand p l e R s m args below meth c T locs cells slots) (hx : p.tables.exec = Jvm.exec) {pc n : Nat} {Ls : Array Slot} {st : List Value} {x y : Int32} (hd : decode c.code pc = .ok (.imul, 1))  (hn : pc + 1 = n) (k : Ends p e below EE Q (T.setTop (mkF m n Ls (.int (x * y) :: st)))) : Ends p e below EE Q (T.setTop (mkF m pc Ls (.int y :: .int x :: st))) := by
  subst hn
  exact Ends.via (fun t h => XS.imul X.here hx rfl hd rfl h) k
theorem own_iand (X : Stand p l e R s m args below meth c T locs cells slots) (hx : p.tables.exec = Jvm.exec) {pc n : Nat} {Ls : Array Slot} {st : List Value} {x y : Int32} (hd : decode c.code pc = .ok (.iand, 1))  (hn : pc + 1 = n) (k : Ends p e below EE Q (T.setTop (mkF m n Ls (.int (x &&& y) :: st)))) : Ends p e below EE Q (T.setTop (mkF m pc Ls (.int y :: .int x :: st))) := by
  subst hn
  exact Ends.via (fun t h => XS.iand X.here hx rfl hd rfl h) k
theorem own_ladd (X : Stand p l e R s m args below meth c T locs cells slots) (hx : p.tables.exec = Jvm.exec) {pc n : Nat} {Ls : Array Slot} {st : List Value} {x y : Int64} (hd : decode c.code pc = .ok (.ladd, 1))  (hn : pc + 1 = n) (k : Ends p e below EE Q (T.setTop (mkF m n Ls (.long (x + y) :: st)))) : Ends p e below EE Q (T.setTop (mkF m pc Ls (.long y :: .long x :: st))) := by
  subst hn
  exact Ends.via (fun t h => XS.ladd X.here hx rfl hd rfl h) k
theorem own_lsub (X : Stand p l e R s m args below meth c T locs cells slots) (hx : p.tables.exec = Jvm.exec) {pc n : Nat} {Ls : Array Slot} {st : List Value} {x y : Int64} (hd : decode c.code pc = .ok (.lsub, 1))  (hn : pc + 1 = n) (k : Ends p e below EE Q (T.setTop (mkF m n Ls (.long (x - y) :: st)))) : Ends p e below EE Q (T.setTop (mkF m pc Ls (.long y :: .long x :: st))) := by
  subst hn
  exact Ends.via (fun t h => XS.lsub X.here hx rfl hd rfl h) k
theorem own_lmul (X : Stand p l e R s m args below meth c T locs cells slots) (hx : p.tables.exec = Jvm.exec) {pc n : Nat} {Ls : Array Slot} {st : List Value} {x y : Int64} (hd : decode c.code pc = .ok (.lmul, 1))  (hn : pc + 1 = n) (k : Ends p e below EE Q (T.setTop (mkF m n Ls (.long (x * y) :: st)))) : Ends p e below EE Q (T.setTop (mkF m pc Ls (.long y :: .long x :: st))) := by
  subst hn
  exact Ends.via (fun t h => XS.lmul X.here hx rfl hd rfl h) k
theorem own_land (X : Stand p l e R s m args below meth c T locs cells slots) (hx : p.tables.exec = Jvm.exec) {pc n : Nat} {Ls : Array Slot} {st : List Value} {x y : Int64} (hd : decode c.code pc = .ok (.land, 1))  (hn : pc + 1 = n) (k : Ends p e below EE Q (T.setTop (mkF m n Ls (.long (x &&& y) :: st)))) : Ends p e below EE Q (T.setTop (mkF m pc Ls (.long y :: .long x :: st))) := by
  subst hn
  exact Ends.via (fun t h => XS.land X.here hx rfl hd rfl h) k
theorem own_iushr (X : Stand p l e R s m args below meth c T locs cells slots) (hx : p.tables.exec = Jvm.exec) {pc n : Nat} {Ls : Array Slot} {st : List Value} {x y : Int32} (hd : decode c.code pc = .ok (.iushr, 1))  (hn : pc + 1 = n) (k : Ends p e below EE Q (T.setTop (mkF m n Ls (.int ((x.toUInt32 >>> (y &&& 31).toUInt32).toInt32) :: st)))) : Ends p e below EE Q (T.setTop (mkF m pc Ls (.int y :: .int x :: st))) := by
  subst hn
  exact Ends.via (fun t h => XS.iushr X.here hx rfl hd rfl h) k
theorem own_lshr (X : Stand p l e R s m args below meth c T locs cells slots) (hx : p.tables.exec = Jvm.exec) {pc n : Nat} {Ls : Array Slot} {st : List Value} {x : Int64} {y : Int32} (hd : decode c.code pc = .ok (.lshr, 1))  (hn : pc + 1 = n) (k : Ends p e below EE Q (T.setTop (mkF m n Ls (.long (x >>> (y &&& 0x3f).toInt64) :: st)))) : Ends p e below EE Q (T.setTop (mkF m pc Ls (.int y :: .long x :: st))) := by
  subst hn
  exact Ends.via (fun t h => XS.lshr X.here hx rfl hd rfl h) k
theorem own_irem (X : Stand p l e R s m args below meth c T locs cells slots) (hx : p.tables.exec = Jvm.exec) {pc n : Nat} {Ls : Array Slot} {st : List Value} {x y : Int32} (hd : decode c.code pc = .ok (.irem, 1)) (hy : y ≠ 0) (hn : pc + 1 = n) (k : Ends p e below EE Q (T.setTop (mkF m n Ls (.int (x % y) :: st)))) : Ends p e below EE Q (T.setTop (mkF m pc Ls (.int y :: .int x :: st))) := by
  subst hn
  exact Ends.via (fun t h => iremM X hx rfl hd rfl hy h) k
theorem own_ineg (X : Stand p l e R s m args below meth c T locs cells slots) (hx : p.tables.exec = Jvm.exec) {pc n : Nat} {Ls : Array Slot} {st : List Value} {x : Int32} (hd : decode c.code pc = .ok (.ineg, 1))  (hn : pc + 1 = n) (k : Ends p e below EE Q (T.setTop (mkF m n Ls (.int (-x) :: st)))) : Ends p e below EE Q (T.setTop (mkF m pc Ls (.int x :: st))) := by
  subst hn
  exact Ends.via (fun t h => XS.ineg X.here hx rfl hd rfl h) k
theorem own_lneg (X : Stand p l e R s m args below meth c T locs cells slots) (hx : p.tables.exec = Jvm.exec) {pc n : Nat} {Ls : Array Slot} {st : List Value} {x : Int64} (hd : decode c.code pc = .ok (.lneg, 1))  (hn : pc + 1 = n) (k : Ends p e below EE Q (T.setTop (mkF m n Ls (.long (-x) :: st)))) : Ends p e below EE Q (T.setTop (mkF m pc Ls (.long x :: st))) := by
  subst hn
  exact Ends.via (fun t h => XS.lneg X.here hx rfl hd rfl h) k
theorem own_i2l (X : Stand p l e R s m args below meth c T locs cells slots) (hx : p.tables.exec = Jvm.exec) {pc n : Nat} {Ls : Array Slot} {st : List Value} {x : Int32} (hd : decode c.code pc = .ok (.i2l, 1))  (hn : pc + 1 = n) (k : Ends p e below EE Q (T.setTop (mkF m n Ls (.long x.toInt64 :: st)))) : Ends p e below EE Q (T.setTop (mkF m pc Ls (.int x :: st))) := by
  subst hn
  exact Ends.via (fun t h => XS.i2l X.here hx rfl hd rfl h) k
theorem own_lcmp (X : Stand p l e R s m args below meth c T locs cells slots) (hx : p.tables.exec = Jvm.exec) {pc n : Nat} {Ls : Array Slot} {st : List Value} {x y : Int64} (hd : decode c.code pc = .ok (.lcmp, 1))  (hn : pc + 1 = n) (k : Ends p e below EE Q (T.setTop (mkF m n Ls (.int (lcmpW x y) :: st)))) : Ends p e below EE Q (T.setTop (mkF m pc Ls (.long y :: .long x :: st))) := by
  subst hn
  exact Ends.via (fun t h => XS.lcmp X.here hx rfl hd rfl h) k
theorem own_pop (X : Stand p l e R s m args below meth c T locs cells slots) (hx : p.tables.exec = Jvm.exec) {pc n : Nat} {Ls : Array Slot} {st : List Value} {x : Value} (hd : decode c.code pc = .ok (.pop, 1)) (hc : x.category = 1) (hn : pc + 1 = n) (k : Ends p e below EE Q (T.setTop (mkF m n Ls (st)))) : Ends p e below EE Q (T.setTop (mkF m pc Ls (x :: st))) := by
  subst hn
  exact Ends.via (fun t h => XS.pop X.here hx rfl hd rfl hc h) k
theorem own_dup (X : Stand p l e R s m args below meth c T locs cells slots) (hx : p.tables.exec = Jvm.exec) {pc n : Nat} {Ls : Array Slot} {st : List Value} {x : Value} (hd : decode c.code pc = .ok (.dup, 1)) (hc : x.category = 1) (hn : pc + 1 = n) (k : Ends p e below EE Q (T.setTop (mkF m n Ls (x :: x :: st)))) : Ends p e below EE Q (T.setTop (mkF m pc Ls (x :: st))) := by
  subst hn
  exact Ends.via (fun t h => XS.dup X.here hx rfl hd rfl hc h) k
theorem own_dup2 (X : Stand p l e R s m args below meth c T locs cells slots) (hx : p.tables.exec = Jvm.exec) {pc n : Nat} {Ls : Array Slot} {st : List Value} {x y : Value} (hd : decode c.code pc = .ok (.dup2, 1)) (hc : x.category = 1) (hc' : y.category = 1) (hn : pc + 1 = n) (k : Ends p e below EE Q (T.setTop (mkF m n Ls (x :: y :: x :: y :: st)))) : Ends p e below EE Q (T.setTop (mkF m pc Ls (x :: y :: st))) := by
  subst hn
  exact Ends.via (fun t h => Jvm.Free.XT.dup2 X.here hx rfl hd rfl hc hc' h) k
theorem own_aconst_null (X : Stand p l e R s m args below meth c T locs cells slots) (hx : p.tables.exec = Jvm.exec) {pc n : Nat} {Ls : Array Slot} {st : List Value}  (hd : decode c.code pc = .ok (.aconst_null, 1))  (hn : pc + 1 = n) (k : Ends p e below EE Q (T.setTop (mkF m n Ls (.null :: st)))) : Ends p e below EE Q (T.setTop (mkF m pc Ls (st))) := by
  subst hn
  exact Ends.via (fun t h => XS.aconstNull X.here hx rfl hd  h) k
theorem own_iconst (X : Stand p l e R s m args below meth c T locs cells slots) (hx : p.tables.exec = Jvm.exec) {pc n : Nat} {Ls : Array Slot} {st : List Value} {i : Int} (v : Int32) (hd : decode c.code pc = .ok (.iconst i, 1)) (hv : Int32.ofInt i = v) (hn : pc + 1 = n) (k : Ends p e below EE Q (T.setTop (mkF m n Ls (.int v :: st)))) : Ends p e below EE Q (T.setTop (mkF m pc Ls st)) := by
  subst hn hv
  exact Ends.via (fun t h => XS.iconst X.here hx rfl hd h) k
theorem own_bipush (X : Stand p l e R s m args below meth c T locs cells slots) (hx : p.tables.exec = Jvm.exec) {pc n : Nat} {Ls : Array Slot} {st : List Value} {i : Int} (v : Int32) (hd : decode c.code pc = .ok (.bipush i, 2)) (hv : (Int8.ofInt i).toInt32 = v) (hn : pc + 2 = n) (k : Ends p e below EE Q (T.setTop (mkF m n Ls (.int v :: st)))) : Ends p e below EE Q (T.setTop (mkF m pc Ls st)) := by
  subst hn hv
  exact Ends.via (fun t h => XS.bipush X.here hx rfl hd h) k
theorem own_lconst (X : Stand p l e R s m args below meth c T locs cells slots) (hx : p.tables.exec = Jvm.exec) {pc n : Nat} {Ls : Array Slot} {st : List Value} {i : Fin 2} (v : Int64) (hd : decode c.code pc = .ok (.lconst i, 1)) (hv : Int64.ofNat i = v) (hn : pc + 1 = n) (k : Ends p e below EE Q (T.setTop (mkF m n Ls (.long v :: st)))) : Ends p e below EE Q (T.setTop (mkF m pc Ls st)) := by
  subst hn hv
  exact Ends.via (fun t h => XS.lconst X.here hx rfl hd h) k
theorem own_iload (X : Stand p l e R s m args below meth c T locs cells slots) (hx : p.tables.exec = Jvm.exec) {pc n : Nat} {Ls : Array Slot} {st : List Value} {i : Nat} {v : Int32} (hd : decode c.code pc = .ok (.iload i, 2)) (hl : Ls[i]? = some (.val (.int v))) (hn : pc + 2 = n) (k : Ends p e below EE Q (T.setTop (mkF m n Ls (.int v :: st)))) : Ends p e below EE Q (T.setTop (mkF m pc Ls (st))) := by
  subst hn
  exact Ends.via (fun t h => XS.iload X.here hx rfl hd hl h) k
theorem own_iloadN (X : Stand p l e R s m args below meth c T locs cells slots) (hx : p.tables.exec = Jvm.exec) {pc n : Nat} {Ls : Array Slot} {st : List Value} {i : Fin 4} {v : Int32} (hd : decode c.code pc = .ok (.iload_n i, 1)) (hl : Ls[i.val]? = some (.val (.int v))) (hn : pc + 1 = n) (k : Ends p e below EE Q (T.setTop (mkF m n Ls (.int v :: st)))) : Ends p e below EE Q (T.setTop (mkF m pc Ls (st))) := by
  subst hn
  exact Ends.via (fun t h => XS.iloadN X.here hx rfl hd hl h) k
theorem own_istore (X : Stand p l e R s m args below meth c T locs cells slots) (hx : p.tables.exec = Jvm.exec) {pc n : Nat} {Ls : Array Slot} {st : List Value} {i : Nat} {v : Int32} {l' : Array Slot} (hd : decode c.code pc = .ok (.istore i, 2)) (hl : storeLocals Ls i (.int v) = some l') (hn : pc + 2 = n) (k : Ends p e below EE Q (T.setTop (mkF m n l' (st)))) : Ends p e below EE Q (T.setTop (mkF m pc Ls (.int v :: st))) := by
  subst hn
  exact Ends.via (fun t h => XS.istore X.here hx rfl hd rfl hl h) k
theorem own_istoreN (X : Stand p l e R s m args below meth c T locs cells slots) (hx : p.tables.exec = Jvm.exec) {pc n : Nat} {Ls : Array Slot} {st : List Value} {i : Fin 4} {v : Int32} {l' : Array Slot} (hd : decode c.code pc = .ok (.istore_n i, 1)) (hl : storeLocals Ls i.val (.int v) = some l') (hn : pc + 1 = n) (k : Ends p e below EE Q (T.setTop (mkF m n l' (st)))) : Ends p e below EE Q (T.setTop (mkF m pc Ls (.int v :: st))) := by
  subst hn
  exact Ends.via (fun t h => XS.istoreN X.here hx rfl hd rfl hl h) k
theorem own_lload (X : Stand p l e R s m args below meth c T locs cells slots) (hx : p.tables.exec = Jvm.exec) {pc n : Nat} {Ls : Array Slot} {st : List Value} {i : Nat} {v : Int64} (hd : decode c.code pc = .ok (.lload i, 2)) (hl : Ls[i]? = some (.val (.long v))) (hn : pc + 2 = n) (k : Ends p e below EE Q (T.setTop (mkF m n Ls (.long v :: st)))) : Ends p e below EE Q (T.setTop (mkF m pc Ls (st))) := by
  subst hn
  exact Ends.via (fun t h => XS.lload X.here hx rfl hd hl h) k
theorem own_lloadN (X : Stand p l e R s m args below meth c T locs cells slots) (hx : p.tables.exec = Jvm.exec) {pc n : Nat} {Ls : Array Slot} {st : List Value} {i : Fin 4} {v : Int64} (hd : decode c.code pc = .ok (.lload_n i, 1)) (hl : Ls[i.val]? = some (.val (.long v))) (hn : pc + 1 = n) (k : Ends p e below EE Q (T.setTop (mkF m n Ls (.long v :: st)))) : Ends p e below EE Q (T.setTop (mkF m pc Ls (st))) := by
  subst hn
  exact Ends.via (fun t h => XS.lloadN X.here hx rfl hd hl h) k
theorem own_lstore (X : Stand p l e R s m args below meth c T locs cells slots) (hx : p.tables.exec = Jvm.exec) {pc n : Nat} {Ls : Array Slot} {st : List Value} {i : Nat} {v : Int64} {l' : Array Slot} (hd : decode c.code pc = .ok (.lstore i, 2)) (hl : storeLocals Ls i (.long v) = some l') (hn : pc + 2 = n) (k : Ends p e below EE Q (T.setTop (mkF m n l' (st)))) : Ends p e below EE Q (T.setTop (mkF m pc Ls (.long v :: st))) := by
  subst hn
  exact Ends.via (fun t h => XS.lstore X.here hx rfl hd rfl hl h) k
theorem own_aload (X : Stand p l e R s m args below meth c T locs cells slots) (hx : p.tables.exec = Jvm.exec) {pc n : Nat} {Ls : Array Slot} {st : List Value} {i : Nat} {v : Value} (hd : decode c.code pc = .ok (.aload i, 2)) (hl : Ls[i]? = some (.val v)) (hv : v.isRef = true) (hn : pc + 2 = n) (k : Ends p e below EE Q (T.setTop (mkF m n Ls (v :: st)))) : Ends p e below EE Q (T.setTop (mkF m pc Ls (st))) := by
  subst hn
  exact Ends.via (fun t h => XS.aload X.here hx rfl hd hl hv h) k
theorem own_aloadN (X : Stand p l e R s m args below meth c T locs cells slots) (hx : p.tables.exec = Jvm.exec) {pc n : Nat} {Ls : Array Slot} {st : List Value} {i : Fin 4} {v : Value} (hd : decode c.code pc = .ok (.aload_n i, 1)) (hl : Ls[i.val]? = some (.val v)) (hv : v.isRef = true) (hn : pc + 1 = n) (k : Ends p e below EE Q (T.setTop (mkF m n Ls (v :: st)))) : Ends p e below EE Q (T.setTop (mkF m pc Ls (st))) := by
  subst hn
  exact Ends.via (fun t h => XS.aloadN X.here hx rfl hd hl hv h) k
theorem own_astore (X : Stand p l e R s m args below meth c T locs cells slots) (hx : p.tables.exec = Jvm.exec) {pc n : Nat} {Ls : Array Slot} {st : List Value} {i : Nat} {v : Value} {l' : Array Slot} (hd : decode c.code pc = .ok (.astore i, 2)) (hv : v.isRef = true) (hl : storeLocals Ls i v = some l') (hn : pc + 2 = n) (k : Ends p e below EE Q (T.setTop (mkF m n l' (st)))) : Ends p e below EE Q (T.setTop (mkF m pc Ls (v :: st))) := by
  subst hn
  exact Ends.via (fun t h => XS.astore X.here hx rfl hd rfl hv hl h) k
theorem own_astoreN (X : Stand p l e R s m args below meth c T locs cells slots) (hx : p.tables.exec = Jvm.exec) {pc n : Nat} {Ls : Array Slot} {st : List Value} {i : Fin 4} {v : Value} {l' : Array Slot} (hd : decode c.code pc = .ok (.astore_n i, 1)) (hv : v.isRef = true) (hl : storeLocals Ls i.val v = some l') (hn : pc + 1 = n) (k : Ends p e below EE Q (T.setTop (mkF m n l' (st)))) : Ends p e below EE Q (T.setTop (mkF m pc Ls (v :: st))) := by
  subst hn
  exact Ends.via (fun t h => XS.astoreN X.here hx rfl hd rfl hv hl h) k
theorem own_iinc (X : Stand p l e R s m args below meth c T locs cells slots) (hx : p.tables.exec = Jvm.exec) {pc n : Nat} {Ls : Array Slot} {st : List Value} {i : Nat} {cst : Int} {x v : Int32} {l' : Array Slot} (hd : decode c.code pc = .ok (.iinc i cst, 3)) (hl : Ls[i]? = some (.val (.int x))) (hv : Int32.ofInt cst = v) (hl' : storeLocals Ls i (.int (x + v)) = some l') (hn : pc + 3 = n) (k : Ends p e below EE Q (T.setTop (mkF m n l' st))) : Ends p e below EE Q (T.setTop (mkF m pc Ls st)) := by
  subst hn hv
  exact Ends.via (fun t h => XS.iinc X.here hx rfl hd hl hl' h) k
theorem own_goto (X : Stand p l e R s m args below meth c T locs cells slots) (hx : p.tables.exec = Jvm.exec) {pc n : Nat} {Ls : Array Slot} {st : List Value} {o : Int} (hd : decode c.code pc = .ok (.goto o, 3)) (ho : 0 ≤ (pc : Int) + o) (hp : ((pc : Int) + o).toNat = n) (k : Ends p e below EE Q (T.setTop (mkF m n Ls st))) : Ends p e below EE Q (T.setTop (mkF m pc Ls st)) :=
  Ends.via (fun t h => XS.goto X.here hx rfl (pc0 := pc) rfl hd ho hp h) k
theorem own_ifYes (X : Stand p l e R s m args below meth c T locs cells slots) (hx : p.tables.exec = Jvm.exec) {pc n : Nat} {Ls : Array Slot} {st : List Value} {o : Int} {cd : ClassFile.Cond} {x : Int32} (hd : decode c.code pc = .ok (.ifCond cd o, 3)) (hc : ifCond.holds cd x = true) (ho : 0 ≤ (pc : Int) + o) (hp : ((pc : Int) + o).toNat = n) (k : Ends p e below EE Q (T.setTop (mkF m n Ls st))) : Ends p e below EE Q (T.setTop (mkF m pc Ls (.int x :: st))) :=
  Ends.via (fun t h => XS.ifYes X.here hx rfl (pc0 := pc) rfl hd rfl hc ho hp h) k
theorem own_ifNo (X : Stand p l e R s m args below meth c T locs cells slots) (hx : p.tables.exec = Jvm.exec) {pc n : Nat} {Ls : Array Slot} {st : List Value} {o : Int} {cd : ClassFile.Cond} {x : Int32} (hd : decode c.code pc = .ok (.ifCond cd o, 3)) (hc : ifCond.holds cd x = false) (hn : pc + 3 = n) (k : Ends p e below EE Q (T.setTop (mkF m n Ls st))) : Ends p e below EE Q (T.setTop (mkF m pc Ls (.int x :: st))) := by
  subst hn
  exact Ends.via (fun t h => XS.ifNo X.here hx rfl hd rfl hc h) k
theorem own_icmpYes (X : Stand p l e R s m args below meth c T locs cells slots) (hx : p.tables.exec = Jvm.exec) {pc n : Nat} {Ls : Array Slot} {st : List Value} {o : Int} {cd : ClassFile.Cond} {x y : Int32} (hd : decode c.code pc = .ok (.if_icmp cd o, 3)) (hc : if_icmp.holds cd x y = true) (ho : 0 ≤ (pc : Int) + o) (hp : ((pc : Int) + o).toNat = n) (k : Ends p e below EE Q (T.setTop (mkF m n Ls st))) : Ends p e below EE Q (T.setTop (mkF m pc Ls (.int y :: .int x :: st))) :=
  Ends.via (fun t h => XS.icmpYes X.here hx rfl (pc0 := pc) rfl hd rfl hc ho hp h) k
theorem own_icmpNo (X : Stand p l e R s m args below meth c T locs cells slots) (hx : p.tables.exec = Jvm.exec) {pc n : Nat} {Ls : Array Slot} {st : List Value} {o : Int} {cd : ClassFile.Cond} {x y : Int32} (hd : decode c.code pc = .ok (.if_icmp cd o, 3)) (hc : if_icmp.holds cd x y = false) (hn : pc + 3 = n) (k : Ends p e below EE Q (T.setTop (mkF m n Ls st))) : Ends p e below EE Q (T.setTop (mkF m pc Ls (.int y :: .int x :: st))) := by
  subst hn
  exact Ends.via (fun t h => XS.icmpNo X.here hx rfl hd rfl hc h) k
theorem lw_eq_t {x y : Int64} (h : x = y) : ifCond.holds .eq (lcmpW x y) = true := Jvm.Free.XT.ll_eq_t h
theorem lw_eq_f {x y : Int64} (h : ¬ x = y) : ifCond.holds .eq (lcmpW x y) = false := Jvm.Free.XT.ll_eq_f h
theorem lw_ne_t {x y : Int64} (h : ¬ x = y) : ifCond.holds .ne (lcmpW x y) = true := Jvm.Free.XT.ll_ne_t h
theorem lw_ne_f {x y : Int64} (h : x = y) : ifCond.holds .ne (lcmpW x y) = false := Jvm.Free.XT.ll_ne_f h
theorem lw_lt_t {x y : Int64} (h : x < y) : ifCond.holds .lt (lcmpW x y) = true := Jvm.Free.XT.ll_lt_t h
theorem lw_lt_f {x y : Int64} (h : ¬ x < y) : ifCond.holds .lt (lcmpW x y) = false := Jvm.Free.XT.ll_lt_f h
theorem lw_ge_t {x y : Int64} (h : ¬ x < y) : ifCond.holds .ge (lcmpW x y) = true := Jvm.Free.XT.ll_ge_t h
theorem lw_ge_f {x y : Int64} (h : x < y) : ifCond.holds .ge (lcmpW x y) = false := Jvm.Free.XT.ll_ge_f h
theorem lw_gt_t {x y : Int64} (h : y < x) : ifCond.holds .gt (lcmpW x y) = true := Jvm.Free.XT.ll_gt_t h
theorem lw_gt_f {x y : Int64} (h : ¬ y < x) : ifCond.holds .gt (lcmpW x y) = false := Jvm.Free.XT.ll_gt_f h
theorem lw_le_t {x y : Int64} (h : ¬ y < x) : ifCond.holds .le (lcmpW x y) = true := Jvm.Free.XT.ll_le_t h
theorem lw_le_f {x y : Int64} (h : y < x) : ifCond.holds .le (lcmpW x y) = false := Jvm.Free.XT.ll_le_f h
theorem own_ldc (X : Stand p l e R s m args below meth c T locs cells slots) (hx : p.tables.exec = Jvm.exec) (hZ : Z.Warmed39 s.vm) {own : String} (hown : s.vm.findClass own = some m.cls) {pc n : Nat} {Ls : Array Slot} {st : List Value} {i : Nat} {v : Int32} (w : (Cond.constant own i v).before a0 Z = true) (hd : decode c.code pc = .ok (.ldc i, 2)) (hn : pc + 2 = n) (k : Ends p e below EE Q (T.setTop (mkF m n Ls (.int v :: st)))) : Ends p e below EE Q (T.setTop (mkF m pc Ls st)) := by
  subst hn
  exact Ends.via (fun t h => X.ldcI hx hown (mvT hZ w) rfl hd h) k
theorem own_ldc2_w (X : Stand p l e R s m args below meth c T locs cells slots) (hx : p.tables.exec = Jvm.exec) (hZ : Z.Warmed39 s.vm) {own : String} (hown : s.vm.findClass own = some m.cls) {pc n : Nat} {Ls : Array Slot} {st : List Value} {i : Nat} {v : Int64} (w : (Cond.constantLong own i v).before a0 Z = true) (hd : decode c.code pc = .ok (.ldc2_w i, 3)) (hn : pc + 3 = n) (k : Ends p e below EE Q (T.setTop (mkF m n Ls (.long v :: st)))) : Ends p e below EE Q (T.setTop (mkF m pc Ls st)) := by
  subst hn
  exact Ends.via (fun t h => X.ldc2J hx hown (mvT hZ w) rfl hd h) k
theorem own_i2d (X : Stand p l e R s m args below meth c T locs cells slots) (hx : p.tables.exec = Jvm.exec) {pc n : Nat} {Ls : Array Slot} {st : List Value} {x : Int32} (hd : decode c.code pc = .ok (.i2d, 1))  (hn : pc + 1 = n) (k : Ends p e below EE Q (T.setTop (mkF m n Ls (.double (FP.i2d x) :: st)))) : Ends p e below EE Q (T.setTop (mkF m pc Ls (.int x :: st))) := by
  subst hn
  exact Ends.via (fun t h => XS.i2dS X.here hx rfl hd rfl rfl h) k
theorem own_l2d (X : Stand p l e R s m args below meth c T locs cells slots) (hx : p.tables.exec = Jvm.exec) {pc n : Nat} {Ls : Array Slot} {st : List Value} {x : Int64} (hd : decode c.code pc = .ok (.l2d, 1))  (hn : pc + 1 = n) (k : Ends p e below EE Q (T.setTop (mkF m n Ls (.double (FP.l2d x) :: st)))) : Ends p e below EE Q (T.setTop (mkF m pc Ls (.long x :: st))) := by
  subst hn
  exact Ends.via (fun t h => XS.l2dS X.here hx rfl hd rfl rfl h) k
theorem own_dcmp (X : Stand p l e R s m args below meth c T locs cells slots) (hx : p.tables.exec = Jvm.exec) {pc n : Nat} {Ls : Array Slot} {st : List Value} {x y : UInt64} {o : CmpOp} (hd : decode c.code pc = .ok (.dcmp o, 1))  (hn : pc + 1 = n) (k : Ends p e below EE Q (T.setTop (mkF m n Ls (.int (cmpValue (FP.dcmp x y) o) :: st)))) : Ends p e below EE Q (T.setTop (mkF m pc Ls (.double y :: .double x :: st))) := by
  subst hn
  exact Ends.via (fun t h => XS.dcmpS X.here hx rfl hd rfl rfl h) k
theorem own_dadd (X : Stand p l e R s m args below meth c T locs cells slots) (hx : p.tables.exec = Jvm.exec) {pc n : Nat} {Ls : Array Slot} {st : List Value} {x y : UInt64} (hd : decode c.code pc = .ok (.dadd, 1)) (hnn : Jvm.Free.Fl.NoNaN64 (FP.dadd x y)) (hn : pc + 1 = n) (k : Ends p e below EE Q (T.setTop (mkF m n Ls (.double (FP.dadd x y) :: st)))) : Ends p e below EE Q (T.setTop (mkF m pc Ls (.double y :: .double x :: st))) := by
  subst hn
  exact Ends.via (fun t h => XS.daddS X.here hx rfl hd rfl hnn rfl h) k
theorem own_dsub (X : Stand p l e R s m args below meth c T locs cells slots) (hx : p.tables.exec = Jvm.exec) {pc n : Nat} {Ls : Array Slot} {st : List Value} {x y : UInt64} (hd : decode c.code pc = .ok (.dsub, 1)) (hnn : Jvm.Free.Fl.NoNaN64 (FP.dsub x y)) (hn : pc + 1 = n) (k : Ends p e below EE Q (T.setTop (mkF m n Ls (.double (FP.dsub x y) :: st)))) : Ends p e below EE Q (T.setTop (mkF m pc Ls (.double y :: .double x :: st))) := by
  subst hn
  exact Ends.via (fun t h => XS.dsubS X.here hx rfl hd rfl hnn rfl h) k
theorem own_dmul (X : Stand p l e R s m args below meth c T locs cells slots) (hx : p.tables.exec = Jvm.exec) {pc n : Nat} {Ls : Array Slot} {st : List Value} {x y : UInt64} (hd : decode c.code pc = .ok (.dmul, 1)) (hnn : Jvm.Free.Fl.NoNaN64 (FP.dmul x y)) (hn : pc + 1 = n) (k : Ends p e below EE Q (T.setTop (mkF m n Ls (.double (FP.dmul x y) :: st)))) : Ends p e below EE Q (T.setTop (mkF m pc Ls (.double y :: .double x :: st))) := by
  subst hn
  exact Ends.via (fun t h => XS.dmulS X.here hx rfl hd rfl hnn rfl h) k
theorem own_ddiv (X : Stand p l e R s m args below meth c T locs cells slots) (hx : p.tables.exec = Jvm.exec) {pc n : Nat} {Ls : Array Slot} {st : List Value} {x y : UInt64} (hd : decode c.code pc = .ok (.ddiv, 1)) (hnn : Jvm.Free.Fl.NoNaN64 (FP.ddiv x y)) (hn : pc + 1 = n) (k : Ends p e below EE Q (T.setTop (mkF m n Ls (.double (FP.ddiv x y) :: st)))) : Ends p e below EE Q (T.setTop (mkF m pc Ls (.double y :: .double x :: st))) := by
  subst hn
  exact Ends.via (fun t h => XS.ddivS X.here hx rfl hd rfl hnn rfl h) k
theorem own_dconst0 (X : Stand p l e R s m args below meth c T locs cells slots) (hx : p.tables.exec = Jvm.exec) {pc n : Nat} {Ls : Array Slot} {st : List Value}  (hd : decode c.code pc = .ok (.dconst 0, 1))  (hn : pc + 1 = n) (k : Ends p e below EE Q (T.setTop (mkF m n Ls (.double 0 :: st)))) : Ends p e below EE Q (T.setTop (mkF m pc Ls (st))) := by
  subst hn
  exact Ends.via (fun t h => XS.dconst0 X.here hx rfl hd (show FP.dconst0 = 0 by decide +kernel) h) k
theorem own_dconst1 (X : Stand p l e R s m args below meth c T locs cells slots) (hx : p.tables.exec = Jvm.exec) {pc n : Nat} {Ls : Array Slot} {st : List Value}  (hd : decode c.code pc = .ok (.dconst 1, 1))  (hn : pc + 1 = n) (k : Ends p e below EE Q (T.setTop (mkF m n Ls (.double 4607182418800017408 :: st)))) : Ends p e below EE Q (T.setTop (mkF m pc Ls (st))) := by
  subst hn
  exact Ends.via (fun t h => XS.dconst1 X.here hx rfl hd (show FP.dconst1 = 4607182418800017408 by decide +kernel) h) k
theorem own_dload (X : Stand p l e R s m args below meth c T locs cells slots) (hx : p.tables.exec = Jvm.exec) {pc n : Nat} {Ls : Array Slot} {st : List Value} {i : Nat} {v : UInt64} (hd : decode c.code pc = .ok (.dload i, 2)) (hl : Ls[i]? = some (.val (.double v))) (hn : pc + 2 = n) (k : Ends p e below EE Q (T.setTop (mkF m n Ls (.double v :: st)))) : Ends p e below EE Q (T.setTop (mkF m pc Ls (st))) := by
  subst hn
  exact Ends.via (fun t h => XS.dload X.here hx rfl hd hl h) k
theorem own_dloadN (X : Stand p l e R s m args below meth c T locs cells slots) (hx : p.tables.exec = Jvm.exec) {pc n : Nat} {Ls : Array Slot} {st : List Value} {i : Fin 4} {v : UInt64} (hd : decode c.code pc = .ok (.dload_n i, 1)) (hl : Ls[i.val]? = some (.val (.double v))) (hn : pc + 1 = n) (k : Ends p e below EE Q (T.setTop (mkF m n Ls (.double v :: st)))) : Ends p e below EE Q (T.setTop (mkF m pc Ls (st))) := by
  subst hn
  exact Ends.via (fun t h => XS.dloadN X.here hx rfl hd hl h) k
theorem own_dstore (X : Stand p l e R s m args below meth c T locs cells slots) (hx : p.tables.exec = Jvm.exec) {pc n : Nat} {Ls : Array Slot} {st : List Value} {i : Nat} {v : UInt64} {l' : Array Slot} (hd : decode c.code pc = .ok (.dstore i, 2)) (hl : storeLocals Ls i (.double v) = some l') (hn : pc + 2 = n) (k : Ends p e below EE Q (T.setTop (mkF m n l' (st)))) : Ends p e below EE Q (T.setTop (mkF m pc Ls (.double v :: st))) := by
  subst hn
  exact Ends.via (fun t h => XS.dstore X.here hx rfl hd rfl hl h) k
theorem own_dstoreN (X : Stand p l e R s m args below meth c T locs cells slots) (hx : p.tables.exec = Jvm.exec) {pc n : Nat} {Ls : Array Slot} {st : List Value} {i : Fin 4} {v : UInt64} {l' : Array Slot} (hd : decode c.code pc = .ok (.dstore_n i, 1)) (hl : storeLocals Ls i.val (.double v) = some l') (hn : pc + 1 = n) (k : Ends p e below EE Q (T.setTop (mkF m n l' (st)))) : Ends p e below EE Q (T.setTop (mkF m pc Ls (.double v :: st))) := by
  subst hn
  exact Ends.via (fun t h => XS.dstoreN X.here hx rfl hd rfl hl h) k
theorem own_ldcD (X : Stand p l e R s m args below meth c T locs cells slots) (hx : p.tables.exec = Jvm.exec) (hZ : Z.Warmed39 s.vm) {own : String} (hown : s.vm.findClass own = some m.cls) {pc n : Nat} {Ls : Array Slot} {st : List Value} {i : Nat} {v : UInt64} (w : (Cond.constantDouble own i v).before a0 Z = true) (hd : decode c.code pc = .ok (.ldc2_w i, 3)) (hn : pc + 3 = n) (k : Ends p e below EE Q (T.setTop (mkF m n Ls (.double v :: st)))) : Ends p e below EE Q (T.setTop (mkF m pc Ls st)) := by
  subst hn
  exact Ends.via (fun t h => X.ldc2DoubleC hx hown (mvT hZ w) (g := mkF m pc Ls st) rfl hd t h) k
theorem own_retI (X : Stand p l e R s m args below meth c T locs cells slots) (hx : p.tables.exec = Jvm.exec) (lk : meth.locks = false) {pc : Nat} {Ls : Array Slot} {rest : List Value} {z : Int32} (hret : meth.sig.returnType = some .int)  (hd : decode c.code pc = .ok (.ireturn, 1)) (hK : cells ≤ K) (hJ : slots ≤ J) (hq : Q (some (.int z)) T.heap locs) : Ends p e below (EF s K J) Q (T.setTop (mkF m pc Ls (.int z :: rest))) := by
  obtain ⟨fs, hr, hrun, hended, hW, hsame⟩ := X.leave (v := (some (.int z))) (fun h => by rw [hret] at h; cases h) lk
  exact ⟨_, _, retOut X hx (w := .int z) (t := .int) hret rfl (Or.inl ⟨rfl, Or.inl rfl, z, rfl⟩) hd hr, hrun, hended, _, _, rfl, hq, ⟨_, rfl⟩, hW, hsame.mono hK hJ⟩
theorem own_retN (X : Stand p l e R s m args below meth c T locs cells slots) (hx : p.tables.exec = Jvm.exec) (lk : meth.locks = false) {pc : Nat} {Ls : Array Slot} {rest : List Value} {z : Int32} {t : FieldType}  (hret : meth.sig.returnType = some t) (ht : t = .boolean ∨ t = .byte ∨ t = .char ∨ t = .short) (hd : decode c.code pc = .ok (.ireturn, 1)) (hK : cells ≤ K) (hJ : slots ≤ J) (hq : Q (some (.int (nar t z))) T.heap locs) : Ends p e below (EF s K J) Q (T.setTop (mkF m pc Ls (.int z :: rest))) := by
  obtain ⟨fs, hr, hrun, hended, hW, hsame⟩ := X.leave (v := (some (.int (nar t z)))) (fun h => by rw [hret] at h; cases h) lk
  exact ⟨_, _, Jvm.RoadKit.retN X hx hret ht hd hr, hrun, hended, _, _, rfl, hq, ⟨_, rfl⟩, hW, hsame.mono hK hJ⟩
theorem own_retJ (X : Stand p l e R s m args below meth c T locs cells slots) (hx : p.tables.exec = Jvm.exec) (lk : meth.locks = false) {pc : Nat} {Ls : Array Slot} {rest : List Value} {z : Int64} (hret : meth.sig.returnType = some .long)  (hd : decode c.code pc = .ok (.lreturn, 1)) (hK : cells ≤ K) (hJ : slots ≤ J) (hq : Q (some (.long z)) T.heap locs) : Ends p e below (EF s K J) Q (T.setTop (mkF m pc Ls (.long z :: rest))) := by
  obtain ⟨fs, hr, hrun, hended, hW, hsame⟩ := X.leave (v := (some (.long z))) (fun h => by rw [hret] at h; cases h) lk
  exact ⟨_, _, retOut X hx (w := .long z) (t := .long) hret rfl (Or.inr (Or.inl ⟨rfl, rfl, z, rfl⟩)) hd hr, hrun, hended, _, _, rfl, hq, ⟨_, rfl⟩, hW, hsame.mono hK hJ⟩
theorem own_retV (X : Stand p l e R s m args below meth c T locs cells slots) (hx : p.tables.exec = Jvm.exec) (lk : meth.locks = false) {pc : Nat} {Ls : Array Slot}  (hret : meth.sig.returnType = none)  (hd : decode c.code pc = .ok (.return_, 1)) (hK : cells ≤ K) (hJ : slots ≤ J) (hq : Q none T.heap locs) : Ends p e below (EF s K J) Q (T.setTop (mkF m pc Ls ([]))) := by
  obtain ⟨fs, hr, hrun, hended, hW, hsame⟩ := X.leave (v := none) (fun h => by rfl) lk
  exact ⟨_, _, X.returnOut hx hret hd hr, hrun, hended, _, _, rfl, hq, ⟨_, rfl⟩, hW, hsame.mono hK hJ⟩
theorem own_retA (X : Stand p l e R s m args below meth c T locs cells slots) (hx : p.tables.exec = Jvm.exec) (lk : meth.locks = false) {pc : Nat} {Ls : Array Slot} {rest : List Value} {w : Value} {t : FieldType}  (hret : meth.sig.returnType = some t) (ht : t.isReference = true) (hw : w.isRef = true) (hd : decode c.code pc = .ok (.areturn, 1)) (hK : cells ≤ K) (hJ : slots ≤ J) (hq : Q (some w) T.heap locs) : Ends p e below (EF s K J) Q (T.setTop (mkF m pc Ls (w :: rest))) := by
  obtain ⟨fs, hr, hrun, hended, hW, hsame⟩ := X.leave (v := (some w)) (fun h => by rw [hret] at h; cases h) lk
  exact ⟨_, _, retOut X hx (w := w) (t := t) hret (by rcases ref_cases hw with rfl | ⟨_, rfl⟩ <;> cases t <;> rfl) (Or.inr (Or.inr (Or.inr (Or.inr ⟨rfl, ht, hw⟩)))) hd hr, hrun, hended, _, _, rfl, hq, ⟨_, rfl⟩, hW, hsame.mono hK hJ⟩
theorem own_callS (X : Stand p l e R s m args below meth c T locs cells slots) (hx : p.tables.exec = Jvm.exec) (hZ : Z.Warmed39 s.vm) {own : String} {index : Nat} {y : MethodName} {bytes : ByteArray} {maxL : Nat} {ret : Option FieldType} (hown : s.vm.findClass own = some m.cls) (wl : (Cond.methodLink own index y).before a0 Z = true) (ws : (Cond.static y).before a0 Z = true) (wz : (Cond.initialized y.cls).before a0 Z = true) (wc : (Cond.code y bytes maxL ret).before a0 Z = true) (hy : y.cls ≠ "java/lang/invoke/MethodHandle" ∧ y.cls ≠ "java/lang/invoke/VarHandle") (eT : T.heap = h)
    {rm : Room} {Qc : Option Value → Heap → List Loc → Prop} {as' : Array Value} (hM : MetFree l y (head1 [Cond.code y bytes maxL ret] rm) (fun a U => a = as' ∧ Z.Warmed39 U.vm ∧ U.heap = h) (fun _ _ _ _ _ => True) (fun _ U o U' => ∃ v L, o = .returned v ∧ Qc v U'.heap L ∧ FrameEnd U o U' L rm.cells rm.slots)) {W : Nat} (hf : rm.frames + 1 ≤ R.frames) (hl : W + (maxL + 11) + rm.locals ≤ R.locals) (hc : cells + rm.cells ≤ R.cells) (hsl : slots + rm.slots ≤ R.slots) {pc n : Nat} {Ls : Array Slot} (hsize : Ls.size = c.maxLocals) {argsL rest : List Value} {ps : List FieldType} {r : Option FieldType} (hpd : parseMethodDescriptor y.desc = some ⟨ps, r⟩) (hlen : argsL.length = ps.length) (has : argsL.toArray = as') (hW : 0 + (rest.map fun v => v.category).sum ≤ W) (hd : decode c.code pc = .ok (.invokestatic index, 3)) (hn : pc + 3 = n) {st : List Value} (hst : st = argsL.reverse ++ rest)
    (k : ∀ v T' h' L', Stand p l e R s m args below meth c T' (locs ++ L') (cells + rm.cells) (slots + rm.slots) → T'.heap = h' → Qc v h' L' → Ends p e below EE Q (T'.setTop (mkF m n Ls (v.toList ++ rest)))) : Ends p e below EE Q (T.setTop (mkF m pc Ls st)) := by
  subst hn
  obtain ⟨v, _, ⟨T18, L18, k18, n18⟩, -, X18, ⟨Lc18, hQ18, l18, y18, z18⟩, st18⟩ := Jvm.LawKit.callS X hx hown (mvT hZ wl) (mvT hZ ws) (mvT hZ wz) (mvT hZ wc) hy (backOf (W := W) hM hZ wc wz hf hl) (g := mkF m pc Ls st) rfl hsize (argsL := argsL) (rest := rest) (lenOf hpd hlen) hst hW hd (fun _ _ => ⟨has, eT, hc, hsl⟩)
  dsimp only [Pt.U, Pt.locs, Pt.cells, Pt.slots] at X18 l18 y18 z18 st18 hQ18
  subst l18 y18 z18
  exact Ends.via (fun t h => st18 t h) (k v T18 _ Lc18 X18 rfl hQ18)
theorem own_callN (X : Stand p l e R s m args below meth c T locs cells slots) (hx : p.tables.exec = Jvm.exec) (hZ : Z.Warmed39 s.vm) {own : String} {index : Nat} {y : MethodName} {bytes : ByteArray} {maxL : Nat} (hy1 : y.name = "<init>") (hown : s.vm.findClass own = some m.cls) (wl : (Cond.methodLink own index y).before a0 Z = true) (wi : (Cond.instanceMethod y).before a0 Z = true) (wz : (Cond.initialized y.cls).before a0 Z = true) (wc : (Cond.code y bytes maxL none).before a0 Z = true) (hy : y.cls ≠ "java/lang/invoke/MethodHandle" ∧ y.cls ≠ "java/lang/invoke/VarHandle") (eT : T.heap = h)
    {rm : Room} {Qc : Option Value → Heap → List Loc → Prop} {as' : Array Value} (hM : MetFree l y (head1 [Cond.code y bytes maxL none] rm) (fun a U => a = as' ∧ Z.Warmed39 U.vm ∧ U.heap = h) (fun _ _ _ _ _ => True) (fun _ U o U' => ∃ v L, o = .returned v ∧ Qc v U'.heap L ∧ FrameEnd U o U' L rm.cells rm.slots)) {W : Nat} (hf : rm.frames + 1 ≤ R.frames) (hl : W + (maxL + 11) + rm.locals ≤ R.locals) (hc : cells + rm.cells ≤ R.cells) (hsl : slots + rm.slots ≤ R.slots) {pc n : Nat} {Ls : Array Slot} (hsize : Ls.size = c.maxLocals) {argsL rest : List Value} {ps : List FieldType} {r : Option FieldType} (hpd : parseMethodDescriptor y.desc = some ⟨ps, r⟩) (hlen : argsL.length = ps.length) {a : Addr} (has : (.ref a :: argsL).toArray = as') (hW : 0 + (rest.map fun v => v.category).sum ≤ W) (hd : decode c.code pc = .ok (.invokespecial index, 3)) (hn : pc + 3 = n) {st : List Value} (hst : st = argsL.reverse ++ .ref a :: rest)
    (k : ∀ v T' h' L', Stand p l e R s m args below meth c T' (locs ++ L') (cells + rm.cells) (slots + rm.slots) → T'.heap = h' → Qc v h' L' → Ends p e below EE Q (T'.setTop (mkF m n Ls (v.toList ++ rest)))) : Ends p e below EE Q (T.setTop (mkF m pc Ls st)) := by
  subst hn
  obtain ⟨v, _, ⟨T18, L18, k18, n18⟩, -, X18, ⟨Lc18, hQ18, l18, y18, z18⟩, st18⟩ := X.specialBack hx hy1 hown (mvT hZ wl) (mvT hZ wi) (mvT hZ wc) hy (backOf (W := W) hM hZ wc wz hf hl) (g := mkF m pc Ls st) rfl hsize (Steps.refl _) (a := a) (argsL := argsL) (rest := rest) (lenOf hpd hlen) hst hW hd (fun _ _ => ⟨has, eT, hc, hsl⟩)
  dsimp only [Pt.U, Pt.locs, Pt.cells, Pt.slots] at X18 l18 y18 z18 st18 hQ18
  subst l18 y18 z18
  exact Ends.tr st18 (k v T18 _ Lc18 X18 rfl hQ18)
theorem own_callV (X : Stand p l e R s m args below meth c T locs cells slots) (hx : p.tables.exec = Jvm.exec) (hZ : Z.Warmed39 s.vm) {own C : String} {index : Nat} {y : MethodName} {bytes : ByteArray} {maxL : Nat} {ret : Option FieldType} (hown : s.vm.findClass own = some m.cls) (wl : (Cond.methodLink own index y).before a0 Z = true) (wd : (Cond.declares y).before a0 Z = true) (wsel : (Cond.selects C y y).before a0 Z = true) (wi : (Cond.instanceMethod y).before a0 Z = true) (wz : (Cond.initialized y.cls).before a0 Z = true) (wc : (Cond.code y bytes maxL ret).before a0 Z = true) (hy : y.cls ≠ "java/lang/invoke/MethodHandle" ∧ y.cls ≠ "java/lang/invoke/VarHandle") (eT : T.heap = h) {a : Addr} (EX : Exa Z h a C)
    {rm : Room} {Qc : Option Value → Heap → List Loc → Prop} {as' : Array Value} (hM : MetFree l y (head1 [Cond.code y bytes maxL ret] rm) (fun a U => a = as' ∧ Z.Warmed39 U.vm ∧ U.heap = h) (fun _ _ _ _ _ => True) (fun _ U o U' => ∃ v L, o = .returned v ∧ Qc v U'.heap L ∧ FrameEnd U o U' L rm.cells rm.slots)) {W : Nat} (hf : rm.frames + 1 ≤ R.frames) (hl : W + (maxL + 11) + rm.locals ≤ R.locals) (hc : cells + rm.cells ≤ R.cells) (hsl : slots + rm.slots ≤ R.slots) {pc n : Nat} {Ls : Array Slot} (hsize : Ls.size = c.maxLocals) {argsL rest : List Value} {ps : List FieldType} {r : Option FieldType} (hpd : parseMethodDescriptor y.desc = some ⟨ps, r⟩) (hlen : argsL.length = ps.length) (has : (.ref a :: argsL).toArray = as') (hW : 0 + (rest.map fun v => v.category).sum ≤ W) (hd : decode c.code pc = .ok (.invokevirtual index, 3)) (hn : pc + 3 = n) {st : List Value} (hst : st = argsL.reverse ++ .ref a :: rest)
    (k : ∀ v T' h' L', Stand p l e R s m args below meth c T' (locs ++ L') (cells + rm.cells) (slots + rm.slots) → T'.heap = h' → Qc v h' L' → Ends p e below EE Q (T'.setTop (mkF m n Ls (v.toList ++ rest)))) : Ends p e below EE Q (T.setTop (mkF m pc Ls st)) := by
  subst hn
  obtain ⟨cq, kq, qa, qb, qc⟩ := isOf hZ eT EX
  obtain ⟨v, _, ⟨T18, L18, k18, n18⟩, -, X18, ⟨Lc18, hQ18, l18, y18, z18⟩, st18⟩ := X.virtualBack hx hown (mvT hZ wl) (mvT hZ wd) (notFace_of_selects (args := #[]) (mvT hZ wsel)) (mvT hZ wsel) (mvT hZ wi) hy (backOf (W := W) hM hZ wc wz hf hl) qa qc (g := mkF m pc Ls st) rfl hsize (Steps.refl _) (argsL := argsL) (rest := rest) (lenOf hpd hlen) hst hW hd (fun _ _ => ⟨has, eT, hc, hsl⟩)
  dsimp only [Pt.U, Pt.locs, Pt.cells, Pt.slots] at X18 l18 y18 z18 st18 hQ18
  subst l18 y18 z18
  exact Ends.tr st18 (k v T18 _ Lc18 X18 rfl hQ18)
theorem own_callP (X : Stand p l e R s m args below meth c T locs cells slots) (hx : p.tables.exec = Jvm.exec) (hZ : Z.Warmed39 s.vm) {own : String} {index : Nat} {y y0 : MethodName} {bytes : ByteArray} {maxL : Nat} {ret : Option FieldType} (hown : s.vm.findClass own = some m.cls) (wl : (Cond.methodLink own index y).before a0 Z = true) (wi : (Cond.instanceMethod y).before a0 Z = true) (wp : (Cond.privateMethod y).before a0 Z = true) (wsel : (Cond.selects y.cls y0 y0).before a0 Z = true) (hcl : y0.cls = y.cls) (wz : (Cond.initialized y.cls).before a0 Z = true) (wc : (Cond.code y bytes maxL ret).before a0 Z = true) (hy : y.cls ≠ "java/lang/invoke/MethodHandle" ∧ y.cls ≠ "java/lang/invoke/VarHandle") (eT : T.heap = h) {a : Addr} {C : String} (EX : Exa Z h a C)
    {rm : Room} {Qc : Option Value → Heap → List Loc → Prop} {as' : Array Value} (hM : MetFree l y (head1 [Cond.code y bytes maxL ret] rm) (fun a U => a = as' ∧ Z.Warmed39 U.vm ∧ U.heap = h) (fun _ _ _ _ _ => True) (fun _ U o U' => ∃ v L, o = .returned v ∧ Qc v U'.heap L ∧ FrameEnd U o U' L rm.cells rm.slots)) {W : Nat} (hf : rm.frames + 1 ≤ R.frames) (hl : W + (maxL + 11) + rm.locals ≤ R.locals) (hc : cells + rm.cells ≤ R.cells) (hsl : slots + rm.slots ≤ R.slots) {pc n : Nat} {Ls : Array Slot} (hsize : Ls.size = c.maxLocals) {argsL rest : List Value} {ps : List FieldType} {r : Option FieldType} (hpd : parseMethodDescriptor y.desc = some ⟨ps, r⟩) (hlen : argsL.length = ps.length) (has : (.ref a :: argsL).toArray = as') (hW : 0 + (rest.map fun v => v.category).sum ≤ W) (hd : decode c.code pc = .ok (.invokevirtual index, 3)) (hn : pc + 3 = n) {st : List Value} (hst : st = argsL.reverse ++ .ref a :: rest)
    (k : ∀ v T' h' L', Stand p l e R s m args below meth c T' (locs ++ L') (cells + rm.cells) (slots + rm.slots) → T'.heap = h' → Qc v h' L' → Ends p e below EE Q (T'.setTop (mkF m n Ls (v.toList ++ rest)))) : Ends p e below EE Q (T.setTop (mkF m pc Ls st)) := by
  subst hn
  have hpriv : s.PrivateAt y := Cond.privateMethod_at (mvP hZ wp (args := #[]))
  have wsel' : (Cond.selects y.cls y y).before args s = true := by
    obtain ⟨c1, r1, m1, f1, -, f3, -, mk, f5, f6⟩ := Cond.selects_spec (mvT (args := args) hZ wsel)
    have f7 := findClass_of_methodNamed f3
    rw [hcl] at f7
    exact selects_self_of_private f7 f5 f6 hpriv (mvT hZ wi) hy
  obtain ⟨cq, qa, qb⟩ := EX.cell
  obtain ⟨v, _, ⟨T18, L18, k18, n18⟩, -, X18, ⟨Lc18, hQ18, l18, y18, z18⟩, st18⟩ := X.privateBack hx hown (mvT hZ wl) (mvT hZ wi) wsel' hpriv (mvT hZ wc) hy (backOf (W := W) hM hZ wc wz hf hl) (g := mkF m pc Ls st) rfl hsize (Steps.refl _) (a := a) (cell := cq) (by rw [eT]; exact qa) qb (argsL := argsL) (rest := rest) (lenOf hpd hlen) hst hW hd (fun _ _ => ⟨has, eT, hc, hsl⟩)
  dsimp only [Pt.U, Pt.locs, Pt.cells, Pt.slots] at X18 l18 y18 z18 st18 hQ18
  subst l18 y18 z18
  exact Ends.tr st18 (k v T18 _ Lc18 X18 rfl hQ18)
theorem own_getF (X : Stand p l e R s m args below meth c T locs cells slots) (hx : p.tables.exec = Jvm.exec) (hZ : Z.Warmed39 s.vm) {own C f d : String} {index : Nat} (hown : s.vm.findClass own = some m.cls) (w : (Cond.fieldLink own index C f d).before a0 Z = true) (eT : T.heap = h) {a : Addr} {v : Value} (F : Fld Z h a C f d v) {pc n : Nat} {Ls : Array Slot} {st : List Value} (hd : decode c.code pc = .ok (.getfield index, 3)) (hn : pc + 3 = n)
    (k : ∀ T', Stand p l e R s m args below meth c T' locs cells slots → T'.heap = h → Ends p e below EE Q (T'.setTop (mkF m n Ls (v :: st)))) : Ends p e below EE Q (T.setTop (mkF m pc Ls (.ref a :: st))) := by
  subst hn
  obtain ⟨T', X', e', st'⟩ := Jvm.RoadKit.getF X hx hZ hown (host := "") (Or.inl w) Via.refl eT F (g := mkF m pc Ls (.ref a :: st)) rfl rfl hd
  exact Ends.via (fun t h => st' t h) (k T' X' e')
theorem own_putF (X : Stand p l e R s m args below meth c T locs cells slots) (hx : p.tables.exec = Jvm.exec) (hZ : Z.Warmed39 s.vm) {own C f d CC : String} {index kk : Nat} {ty : FieldType} (hown : s.vm.findClass own = some m.cls) (w : (Cond.fieldLink own index C f d).before a0 Z = true) (eT : T.heap = h) {a : Addr} {v old : Value} (F : Fld Z h a C f d old) (EX : Exa Z h a CC) (Lw : (Cond.lays CC C f d).before a0 Z = true ∨ ((Cond.laysFinal CC C f d).before a0 Z = true ∧ own = C ∧ meth.name = "<init>")) (wi : (Cond.instantiable CC kk).before a0 Z = true) (hty : parseFieldDescriptor d = some ty) (hnw : narrow ty v = v) (hft : fits ty v = true) {pc n : Nat} {Ls : Array Slot} {st : List Value} (hd : decode c.code pc = .ok (.putfield index, 3)) (hn : pc + 3 = n)
    (k : ∀ T' h', Stand p l e R s m args below meth c T' (locs ++ [⟨a, Jvm.RoadKit.slotOf Z C f d⟩]) cells slots → T'.heap = h' → Wr h h' a (Jvm.RoadKit.slotOf Z C f d) v → Ends p e below EE Q (T'.setTop (mkF m n Ls st))) : Ends p e below EE Q (T.setTop (mkF m pc Ls (v :: .ref a :: st))) := by
  subst hn
  obtain ⟨T', h', X', e', W', st'⟩ := Jvm.RoadKit.putF X hx hZ hown (host := "") (Or.inl w) Via.refl eT F EX Lw wi hty hnw hft (g := mkF m pc Ls (v :: .ref a :: st)) rfl rfl hd
  exact Ends.via (fun t h => st' t h) (k T' h' X' e' W')
theorem own_newO (X : Stand p l e R s m args below meth c T locs cells slots) (hx : p.tables.exec = Jvm.exec) (hZ : Z.Warmed39 s.vm) {own C : String} {index i : Nat} (hown : s.vm.findClass own = some m.cls) (w : (Cond.classLink own index C).before a0 Z = true) (wi : (Cond.instantiable C i).before a0 Z = true) (wz : (Cond.initialized C).before a0 Z = true) (eT : T.heap = h) (hc : cells + 1 ≤ R.cells) (hl : slots + i ≤ R.slots) {pc n : Nat} {Ls : Array Slot} {st : List Value} (hd : decode c.code pc = .ok (.new index, 3)) (hn : pc + 3 = n)
    (k : ∀ T' h' b, Stand p l e R s m args below meth c T' locs (cells + 1) (slots + i) → T'.heap = h' → b = h.size → Ext h h' → Exa Z h' b C → (∀ {O nm d : String} {ty : FieldType}, Laid Z a0 C O nm d → parseFieldDescriptor d = some ty → Fld Z h' b O nm d (defaultValue ty)) → Ends p e below EE Q (T'.setTop (mkF m n Ls (.ref b :: st)))) : Ends p e below EE Q (T.setTop (mkF m pc Ls st)) := by
  subst hn
  obtain ⟨T', h', X', e', E', A', D', -, st'⟩ := Jvm.RoadKit.newO X hx hZ hown w wi wz eT (g := mkF m pc Ls st) rfl hd hc hl
  exact Ends.via (fun t h => st' t h) (k T' h' _ X' e' rfl E' A' D')
theorem own_initO (X : Stand p l e R s m args below meth c T locs cells slots) (hx : p.tables.exec = Jvm.exec) (hZ : Z.Warmed39 s.vm) {own : String} {index : Nat} (hown : s.vm.findClass own = some m.cls) (w1 : (Cond.methodLink own index Lib.objectInit).before a0 Z = true) (w2 : (Cond.instanceMethod Lib.objectInit).before a0 Z = true) (w3 : (Cond.code Lib.objectInit ⟨#[0xb1]⟩ 1 none).before a0 Z = true) (eT : T.heap = h) {a : Addr} {pc n : Nat} {Ls : Array Slot} {st : List Value} (hsize : Ls.size = c.maxLocals) (hd : decode c.code pc = .ok (.invokespecial index, 3)) (hn : pc + 3 = n) (hf : 1 ≤ R.frames) {W : Nat} (hW : 0 + (st.map fun v => v.category).sum ≤ W) (hl : W + 12 ≤ R.locals)
    (k : ∀ T', Stand p l e R s m args below meth c T' locs cells slots → T'.heap = h → Ends p e below EE Q (T'.setTop (mkF m n Ls (st)))) : Ends p e below EE Q (T.setTop (mkF m pc Ls (.ref a :: st))) := by
  subst hn
  obtain ⟨T', X', e', st'⟩ := Jvm.RoadKit.initO X hx hZ hown w1 w2 w3 eT (g := mkF m pc Ls (.ref a :: st)) rfl hsize rfl hd hf (W := W) hW hl
  exact Ends.via (fun t h => st' t h) (k T' X' e')
/-- an array of n places: the j-th holds f j -/
def VA (Z : State) (h : Heap) (a : Addr) (ty : FieldType) (n : Nat) (f : Nat → Value) : Prop := n < 2 ^ 31 ∧ ∃ c : Cell, Arr Z h a c ty ∧ c.slots.size = n ∧ ∀ j, j < n → c.slots[j]? = some (f j)
theorem VA.ext {h' : Heap} {a : Addr} {ty : FieldType} {n : Nat} {f : Nat → Value} (F : VA Z h a ty n f) (E : Ext h h') : VA Z h' a ty n f := by obtain ⟨q, c, A, r⟩ := F; exact ⟨q, c, A.ext E, r⟩
theorem VA.keep {h' : Heap} {a : Addr} {ty : FieldType} {n : Nat} {f : Nat → Value} {ws : List Addr} (F : VA Z h a ty n f) (K : Keep h h' ws) (q : a ∉ ws) : VA Z h' a ty n f := by obtain ⟨r0, c, A, r⟩ := F; exact ⟨r0, c, ⟨K.2.1 a c A.1 q, A.2⟩, r⟩
theorem VA.wrO {h' : Heap} {a b : Addr} {sl : Nat} {w : Value} {ty : FieldType} {n : Nat} {f : Nat → Value} (F : VA Z h a ty n f) (W : Wr h h' b sl w) (q : a ≠ b) : VA Z h' a ty n f := by obtain ⟨r0, c, A, r⟩ := F; exact ⟨r0, c, A.other W q, r⟩
theorem VA.lt {a : Addr} {ty : FieldType} {n : Nat} {f : Nat → Value} (F : VA Z h a ty n f) : a < h.size := by obtain ⟨-, c, A, -⟩ := F; exact A.lt
theorem VA.set {h' : Heap} {a : Addr} {ty : FieldType} {n i : Nat} {f : Nat → Value} {w : Value} (F : VA Z h a ty n f) (W : Wr h h' a i w) (hi : i < n) : VA Z h' a ty n (fun j => if j = i then w else f j) := by
  obtain ⟨q, c, A, r1, r2⟩ := F
  refine ⟨q, _, A.same W, (sz_set c i w).trans r1, fun j hj => ?_⟩
  by_cases e : j = i
  · subst e
    simp [Cell.setSlot, r1, hj]
  · show (c.setSlot i w).slots[j]? = some (if j = i then w else f j)
    rw [if_neg e, ← r2 j hj]
    exact Array.getElem?_setIfInBounds_ne (fun z => e z.symm)
theorem VA.congr {a : Addr} {ty : FieldType} {n : Nat} {f g : Nat → Value} (F : VA Z h a ty n f) (e : ∀ j, j < n → f j = g j) : VA Z h a ty n g := by obtain ⟨q, c, A, r1, r2⟩ := F; exact ⟨q, c, A, r1, fun j hj => (r2 j hj).trans (congrArg some (e j hj))⟩
def IA (Z : State) (h : Heap) (a : Addr) (n : Nat) (g : Nat → Int32) : Prop := VA Z h a .int n (fun j => .int (g j))
theorem IA.ext {h' : Heap} {a : Addr} {n : Nat} {g : Nat → Int32} (F : IA Z h a n g) (E : Ext h h') : IA Z h' a n g := VA.ext F E
theorem IA.keep {h' : Heap} {a : Addr} {n : Nat} {g : Nat → Int32} {ws : List Addr} (F : IA Z h a n g) (K : Keep h h' ws) (q : a ∉ ws) : IA Z h' a n g := VA.keep F K q
theorem IA.wrO {h' : Heap} {a b : Addr} {sl : Nat} {w : Value} {n : Nat} {g : Nat → Int32} (F : IA Z h a n g) (W : Wr h h' b sl w) (q : a ≠ b) : IA Z h' a n g := VA.wrO F W q
theorem IA.lt {a : Addr} {n : Nat} {g : Nat → Int32} (F : IA Z h a n g) : a < h.size := VA.lt F
theorem IA.set {h' : Heap} {a : Addr} {n i : Nat} {g : Nat → Int32} {x : Int32} (F : IA Z h a n g) (W : Wr h h' a i (.int x)) (hi : i < n) : IA Z h' a n (fun j => if j = i then x else g j) :=
  VA.congr (VA.set F W hi) fun j _ => by by_cases e : j = i <;> simp [e]
theorem IA.congr {a : Addr} {n : Nat} {f g : Nat → Int32} (F : IA Z h a n f) (e : ∀ j, j < n → f j = g j) : IA Z h a n g := VA.congr F fun j hj => by rw [e j hj]
theorem own_clamp {j : Int32} {i : Nat} (hj : j.toInt = (i : Int)) : j.toNatClampNeg = i ∧ ¬ j < 0 := by
  refine ⟨by simp only [Int32.toNatClampNeg, hj]; rfl, fun q => ?_⟩
  rw [Int32.lt_iff_toInt_lt, hj] at q
  have o : (0 : Int32).toInt = 0 := rfl
  omega
theorem own_in {j : Int32} {i n : Nat} {c : Cell} (hj : j.toInt = (i : Int)) (hi : i < n) (S : c.slots.size = n) : ¬ (j < 0 ∨ c.slots.size ≤ j.toNatClampNeg) := by
  obtain ⟨q1, q2⟩ := own_clamp hj
  rintro (z | z)
  · exact q2 z
  · rw [q1, S] at z; omega
theorem own_newI (X : Stand p l e R s m args below meth c T locs cells slots) (hx : p.tables.exec = Jvm.exec) (hZ : Z.Warmed39 s.vm) (w : (Cond.arrayClass .int).before a0 Z = true) (eT : T.heap = h) {N : Int32} {i cap : Nat} (hN : N.toInt = (i : Int)) (hcap : i ≤ cap) (hb : cap * 8 ≤ 536870912) (hc : cells + 1 ≤ R.cells) (hl : slots + cap ≤ R.slots) {pc n : Nat} {Ls : Array Slot} {st : List Value} (hd : decode c.code pc = .ok (.newarray .int, 2)) (hn : pc + 2 = n)
    (k : ∀ T' h' b, Stand p l e R s m args below meth c T' locs (cells + 1) (slots + cap) → T'.heap = h' → b = h.size → Ext h h' → IA Z h' b i (fun _ => 0) → Ends p e below EE Q (T'.setTop (mkF m n Ls (.ref b :: st)))) : Ends p e below EE Q (T.setTop (mkF m pc Ls (.int N :: st))) := by
  subst hn
  obtain ⟨q1, q2⟩ := own_clamp hN
  obtain ⟨T', h', cA, X', e', E', A', st'⟩ := newP X hx hZ (aty := .int) w eT (g := mkF m pc Ls (.int N :: st)) rfl hd rfl q2 (cap := cap) (by rw [q1]; exact hcap) hb hc hl
  have b1 := rng32 N
  refine Ends.via (fun t h => st' t h) (k T' h' _ X' e' rfl E' ⟨by omega, _, A', (sz_new _ _ _).trans q1, fun j hj => ?_⟩)
  simp [newA, q1, hj]
  rfl
theorem own_iastore (X : Stand p l e R s m args below meth c T locs cells slots) (hx : p.tables.exec = Jvm.exec) (hZ : Z.Warmed39 s.vm) (eT : T.heap = h) {a : Addr} {N : Nat} {g : Nat → Int32} (F : IA Z h a N g) {j x : Int32} {i : Nat} (hj : j.toInt = (i : Int)) (hi : i < N) {pc n : Nat} {Ls : Array Slot} {st : List Value} (hd : decode c.code pc = .ok (.iastore, 1)) (hn : pc + 1 = n)
    (k : ∀ T' h', Stand p l e R s m args below meth c T' (locs ++ [⟨a, i⟩]) cells slots → T'.heap = h' → Wr h h' a i (.int x) → IA Z h' a N (fun y => if y = i then x else g y) → Ends p e below EE Q (T'.setTop (mkF m n Ls st))) : Ends p e below EE Q (T.setTop (mkF m pc Ls (.int x :: .int j :: .ref a :: st))) := by
  subst hn
  have F' := F
  obtain ⟨q, cl, A, S, H⟩ := F
  obtain ⟨q1, q2⟩ := own_clamp hj
  obtain ⟨T', h', X', e', W', st'⟩ := stI X hx hZ eT A (j := j) (own_in hj hi S) (g := mkF m pc Ls (.int x :: .int j :: .ref a :: st)) rfl rfl hd
  rw [q1] at X' W'
  exact Ends.via (fun t h => st' t h) (k T' h' X' e' W' (IA.set F' W' hi))
theorem own_iaload (X : Stand p l e R s m args below meth c T locs cells slots) (hx : p.tables.exec = Jvm.exec) (hZ : Z.Warmed39 s.vm) (eT : T.heap = h) {a : Addr} {N : Nat} {g : Nat → Int32} (F : IA Z h a N g) {j : Int32} {i : Nat} (hj : j.toInt = (i : Int)) (hi : i < N) {pc n : Nat} {Ls : Array Slot} {st : List Value} (hd : decode c.code pc = .ok (.iaload, 1)) (hn : pc + 1 = n)
    (k : Ends p e below EE Q (T.setTop (mkF m n Ls (.int (g i) :: st)))) : Ends p e below EE Q (T.setTop (mkF m pc Ls (.int j :: .ref a :: st))) := by
  subst hn
  obtain ⟨q, cl, A, S, H⟩ := F
  obtain ⟨q1, q2⟩ := own_clamp hj
  exact Ends.via (fun t h => X.iaload hx (j := j) (v := .int (g i)) (by rw [eT]; exact A.1) (State.isArrayOf_alike hZ.alike A.2.1) A.2.2 (own_in hj hi S) (by rw [q1]; exact H i hi) (g := mkF m pc Ls (.int j :: .ref a :: st)) rfl rfl hd _ h) k
theorem own_arraylength (X : Stand p l e R s m args below meth c T locs cells slots) (hx : p.tables.exec = Jvm.exec) (hZ : Z.Warmed39 s.vm) (eT : T.heap = h) {a : Addr} {ty : FieldType} {N : Nat} {g : Nat → Value} (F : VA Z h a ty N g) {v : Int32} (hv : v.toInt = (N : Int)) {pc n : Nat} {Ls : Array Slot} {st : List Value} (hd : decode c.code pc = .ok (.arraylength, 1)) (hn : pc + 1 = n)
    (k : Ends p e below EE Q (T.setTop (mkF m n Ls (.int v :: st)))) : Ends p e below EE Q (T.setTop (mkF m pc Ls (.ref a :: st))) := by
  subst hn
  obtain ⟨q, cl, A, S, H⟩ := F
  have e1 : cl.slots.size.toInt32 = v := Int32.toInt_inj.mp (by rw [len_toInt (by omega), hv, S])
  rw [← e1] at k
  exact Ends.via (fun t h => X.arraylength hx (by rw [eT]; exact A.1) (State.isArrayOf_alike hZ.alike A.2.1) (g := mkF m pc Ls (.ref a :: st)) rfl rfl hd _ h) k
/-- an array of references to C's -/
def RA (Z : State) (h : Heap) (a : Addr) (C : String) (n : Nat) (g : Nat → Value) : Prop := n < 2 ^ 31 ∧ ∃ c : Cell, Arr Z h a c (.object C) ∧ Ovr Z c.cls C ∧ c.slots.size = n ∧ ∀ j, j < n → c.slots[j]? = some (g j)
theorem RA.va {a : Addr} {C : String} {n : Nat} {g : Nat → Value} (F : RA Z h a C n g) : VA Z h a (.object C) n g := by obtain ⟨q, c, A, -, r⟩ := F; exact ⟨q, c, A, r⟩
theorem RA.ext {h' : Heap} {a : Addr} {C : String} {n : Nat} {g : Nat → Value} (F : RA Z h a C n g) (E : Ext h h') : RA Z h' a C n g := by obtain ⟨q, c, A, r⟩ := F; exact ⟨q, c, A.ext E, r⟩
theorem RA.keep {h' : Heap} {a : Addr} {C : String} {n : Nat} {g : Nat → Value} {ws : List Addr} (F : RA Z h a C n g) (K : Keep h h' ws) (q : a ∉ ws) : RA Z h' a C n g := by obtain ⟨r0, c, A, r⟩ := F; exact ⟨r0, c, ⟨K.2.1 a c A.1 q, A.2⟩, r⟩
theorem RA.wrO {h' : Heap} {a b : Addr} {sl : Nat} {w : Value} {C : String} {n : Nat} {g : Nat → Value} (F : RA Z h a C n g) (W : Wr h h' b sl w) (q : a ≠ b) : RA Z h' a C n g := by obtain ⟨r0, c, A, r⟩ := F; exact ⟨r0, c, A.other W q, r⟩
theorem RA.lt {a : Addr} {C : String} {n : Nat} {g : Nat → Value} (F : RA Z h a C n g) : a < h.size := by obtain ⟨-, c, A, -⟩ := F; exact A.lt
theorem RA.set {h' : Heap} {a : Addr} {C : String} {n i : Nat} {g : Nat → Value} {w : Value} (F : RA Z h a C n g) (W : Wr h h' a i w) (hi : i < n) : RA Z h' a C n (fun j => if j = i then w else g j) := by
  obtain ⟨q, c, A, O, r1, r2⟩ := F
  refine ⟨q, _, A.same W, O, (sz_set c i w).trans r1, fun j hj => ?_⟩
  by_cases e : j = i
  · subst e
    simp [Cell.setSlot, r1, hj]
  · show (c.setSlot i w).slots[j]? = some (if j = i then w else g j)
    rw [if_neg e, ← r2 j hj]
    exact Array.getElem?_setIfInBounds_ne (fun z => e z.symm)
theorem own_newR (X : Stand p l e R s m args below meth c T locs cells slots) (hx : p.tables.exec = Jvm.exec) (hZ : Z.Warmed39 s.vm) {own C : String} {index : Nat} (hown : s.vm.findClass own = some m.cls) (w1 : (Cond.classLink own index C).before a0 Z = true) (w2 : (Cond.arrayOver (.object C)).before a0 Z = true) (eT : T.heap = h) {N : Int32} {i cap : Nat} (hN : N.toInt = (i : Int)) (hcap : i ≤ cap) (hb : cap * 8 ≤ 536870912) (hc : cells + 1 ≤ R.cells) (hl : slots + cap ≤ R.slots) {pc n : Nat} {Ls : Array Slot} {st : List Value} (hd : decode c.code pc = .ok (.anewarray index, 3)) (hn : pc + 3 = n)
    (k : ∀ T' h' b, Stand p l e R s m args below meth c T' locs (cells + 1) (slots + cap) → T'.heap = h' → b = h.size → Ext h h' → RA Z h' b C i (fun _ => .null) → Ends p e below EE Q (T'.setTop (mkF m n Ls (.ref b :: st)))) : Ends p e below EE Q (T.setTop (mkF m pc Ls (.int N :: st))) := by
  subst hn
  obtain ⟨q1, q2⟩ := own_clamp hN
  obtain ⟨T', h', cA, X', e', E', A', O', st'⟩ := newR X hx hZ hown w1 w2 eT (g := mkF m pc Ls (.int N :: st)) rfl hd rfl q2 (cap := cap) (by rw [q1]; exact hcap) hb hc hl
  have b1 := rng32 N
  refine Ends.via (fun t h => st' t h) (k T' h' _ X' e' rfl E' ⟨by omega, _, A', O', (sz_new _ _ _).trans q1, fun j hj => ?_⟩)
  simp [newA, q1, hj]
  rfl
theorem own_aastore (X : Stand p l e R s m args below meth c T locs cells slots) (hx : p.tables.exec = Jvm.exec) (hZ : Z.Warmed39 s.vm) (eT : T.heap = h) {a y : Addr} {C : String} {N : Nat} {g : Nat → Value} (F : RA Z h a C N g) (I : Ins Z h y C true) {j : Int32} {i : Nat} (hj : j.toInt = (i : Int)) (hi : i < N) {pc n : Nat} {Ls : Array Slot} {st : List Value} (hd : decode c.code pc = .ok (.aastore, 1)) (hn : pc + 1 = n)
    (k : ∀ T' h', Stand p l e R s m args below meth c T' (locs ++ [⟨a, i⟩]) cells slots → T'.heap = h' → Wr h h' a i (.ref y) → RA Z h' a C N (fun z => if z = i then .ref y else g z) → Ends p e below EE Q (T'.setTop (mkF m n Ls st))) : Ends p e below EE Q (T.setTop (mkF m pc Ls (.ref y :: .int j :: .ref a :: st))) := by
  subst hn
  have F' := F
  obtain ⟨q, cl, A, O, S, H⟩ := F
  obtain ⟨q1, q2⟩ := own_clamp hj
  obtain ⟨T', h', X', e', W', st'⟩ := stR X hx hZ eT A (j := j) (own_in hj hi S) rfl (Sto.of A O I) (g := mkF m pc Ls (.ref y :: .int j :: .ref a :: st)) rfl rfl hd
  rw [q1] at X' W'
  exact Ends.via (fun t h => st' t h) (k T' h' X' e' W' (RA.set F' W' hi))
theorem own_aaload (X : Stand p l e R s m args below meth c T locs cells slots) (hx : p.tables.exec = Jvm.exec) (hZ : Z.Warmed39 s.vm) (eT : T.heap = h) {a : Addr} {C : String} {N : Nat} {g : Nat → Value} (F : RA Z h a C N g) {j : Int32} {i : Nat} (hj : j.toInt = (i : Int)) (hi : i < N) {v : Value} (hv : g i = v) {pc n : Nat} {Ls : Array Slot} {st : List Value} (hd : decode c.code pc = .ok (.aaload, 1)) (hn : pc + 1 = n)
    (k : Ends p e below EE Q (T.setTop (mkF m n Ls (v :: st)))) : Ends p e below EE Q (T.setTop (mkF m pc Ls (.int j :: .ref a :: st))) := by
  subst hn hv
  obtain ⟨q, cl, A, O, S, H⟩ := F
  obtain ⟨q1, q2⟩ := own_clamp hj
  exact Ends.via (fun t h => X.aaload hx (j := j) (v := g i) (by rw [eT]; exact A.1) (State.isArrayOf_alike hZ.alike A.2.1) rfl A.2.2 (own_in hj hi S) (by rw [q1]; exact H i hi) (g := mkF m pc Ls (.int j :: .ref a :: st)) rfl rfl hd _ h) k
/-- an array of ints of a narrow kind (byte, char) -/
def PA (Z : State) (h : Heap) (a : Addr) (ty : FieldType) (n : Nat) (g : Nat → Int32) : Prop := VA Z h a ty n (fun j => .int (g j))
theorem PA.ext {h' : Heap} {a : Addr} {ty : FieldType} {n : Nat} {g : Nat → Int32} (F : PA Z h a ty n g) (E : Ext h h') : PA Z h' a ty n g := VA.ext F E
theorem PA.keep {h' : Heap} {a : Addr} {ty : FieldType} {n : Nat} {g : Nat → Int32} {ws : List Addr} (F : PA Z h a ty n g) (K : Keep h h' ws) (q : a ∉ ws) : PA Z h' a ty n g := VA.keep F K q
theorem PA.wrO {h' : Heap} {a b : Addr} {sl : Nat} {w : Value} {ty : FieldType} {n : Nat} {g : Nat → Int32} (F : PA Z h a ty n g) (W : Wr h h' b sl w) (q : a ≠ b) : PA Z h' a ty n g := VA.wrO F W q
theorem PA.lt {a : Addr} {ty : FieldType} {n : Nat} {g : Nat → Int32} (F : PA Z h a ty n g) : a < h.size := VA.lt F
theorem PA.set {h' : Heap} {a : Addr} {ty : FieldType} {n i : Nat} {g : Nat → Int32} {x : Int32} (F : PA Z h a ty n g) (W : Wr h h' a i (.int x)) (hi : i < n) : PA Z h' a ty n (fun j => if j = i then x else g j) :=
  VA.congr (VA.set F W hi) fun j _ => by by_cases e : j = i <;> simp [e]
theorem own_newarr (X : Stand p l e R s m args below meth c T locs cells slots) (hx : p.tables.exec = Jvm.exec) (hZ : Z.Warmed39 s.vm) {aty : ArrayType} {ty : FieldType} (hty : newarray.typeOf aty = ty) (hdf : defaultValue ty = .int 0) (w : (Cond.arrayClass ty).before a0 Z = true) (eT : T.heap = h) {N : Int32} {i cap : Nat} (hN : N.toInt = (i : Int)) (hcap : i ≤ cap) (hb : cap * 8 ≤ 536870912) (hc : cells + 1 ≤ R.cells) (hl : slots + cap ≤ R.slots) {pc n : Nat} {Ls : Array Slot} {st : List Value} (hd : decode c.code pc = .ok (.newarray aty, 2)) (hn : pc + 2 = n)
    (k : ∀ T' h' b, Stand p l e R s m args below meth c T' locs (cells + 1) (slots + cap) → T'.heap = h' → b = h.size → Ext h h' → PA Z h' b ty i (fun _ => 0) → Ends p e below EE Q (T'.setTop (mkF m n Ls (.ref b :: st)))) : Ends p e below EE Q (T.setTop (mkF m pc Ls (.int N :: st))) := by
  subst hn hty
  obtain ⟨q1, q2⟩ := own_clamp hN
  obtain ⟨T', h', cA, X', e', E', A', st'⟩ := newP X hx hZ (aty := aty) w eT (g := mkF m pc Ls (.int N :: st)) rfl hd rfl q2 (cap := cap) (by rw [q1]; exact hcap) hb hc hl
  have b1 := rng32 N
  refine Ends.via (fun t h => st' t h) (k T' h' _ X' e' rfl E' ⟨by omega, _, A', (sz_new _ _ _).trans q1, fun j hj => ?_⟩)
  simp [newA, q1, hj, hdf]
theorem own_castore (X : Stand p l e R s m args below meth c T locs cells slots) (hx : p.tables.exec = Jvm.exec) (hZ : Z.Warmed39 s.vm) (eT : T.heap = h) {a : Addr} {N : Nat} {g : Nat → Int32} (F : PA Z h a .char N g) {j x : Int32} {i : Nat} (hj : j.toInt = (i : Int)) (hi : i < N) {pc n : Nat} {Ls : Array Slot} {st : List Value} (hd : decode c.code pc = .ok (.castore, 1)) (hn : pc + 1 = n)
    (k : ∀ T' h', Stand p l e R s m args below meth c T' (locs ++ [⟨a, i⟩]) cells slots → T'.heap = h' → Wr h h' a i (.int (nar .char x)) → PA Z h' a .char N (fun y => if y = i then nar .char x else g y) → Ends p e below EE Q (T'.setTop (mkF m n Ls st))) : Ends p e below EE Q (T.setTop (mkF m pc Ls (.int x :: .int j :: .ref a :: st))) := by
  subst hn
  have F' := F
  obtain ⟨q, cl, A, S, H⟩ := F
  obtain ⟨q1, q2⟩ := own_clamp hj
  obtain ⟨T', h', X', e', W', st'⟩ := stC X hx hZ eT A (j := j) (own_in hj hi S) (g := mkF m pc Ls (.int x :: .int j :: .ref a :: st)) rfl rfl hd
  rw [q1] at X' W'
  exact Ends.via (fun t h => st' t h) (k T' h' X' e' W' (PA.set F' W' hi))
theorem own_bastore (X : Stand p l e R s m args below meth c T locs cells slots) (hx : p.tables.exec = Jvm.exec) (hZ : Z.Warmed39 s.vm) (eT : T.heap = h) {a : Addr} {N : Nat} {g : Nat → Int32} (F : PA Z h a .byte N g) {j x : Int32} {i : Nat} (hj : j.toInt = (i : Int)) (hi : i < N) {pc n : Nat} {Ls : Array Slot} {st : List Value} (hd : decode c.code pc = .ok (.bastore, 1)) (hn : pc + 1 = n)
    (k : ∀ T' h', Stand p l e R s m args below meth c T' (locs ++ [⟨a, i⟩]) cells slots → T'.heap = h' → Wr h h' a i (.int (nar .byte x)) → PA Z h' a .byte N (fun y => if y = i then nar .byte x else g y) → Ends p e below EE Q (T'.setTop (mkF m n Ls st))) : Ends p e below EE Q (T.setTop (mkF m pc Ls (.int x :: .int j :: .ref a :: st))) := by
  subst hn
  have F' := F
  obtain ⟨q, cl, A, S, H⟩ := F
  obtain ⟨q1, q2⟩ := own_clamp hj
  obtain ⟨T', h', X', e', W', st'⟩ := stB X hx hZ eT A (j := j) (own_in hj hi S) (g := mkF m pc Ls (.int x :: .int j :: .ref a :: st)) rfl rfl hd
  rw [q1] at X' W'
  exact Ends.via (fun t h => st' t h) (k T' h' X' e' W' (PA.set F' W' hi))
theorem own_caload (X : Stand p l e R s m args below meth c T locs cells slots) (hx : p.tables.exec = Jvm.exec) (hZ : Z.Warmed39 s.vm) (eT : T.heap = h) {a : Addr} {N : Nat} {g : Nat → Int32} (F : PA Z h a .char N g) {j : Int32} {i : Nat} (hj : j.toInt = (i : Int)) (hi : i < N) {pc n : Nat} {Ls : Array Slot} {st : List Value} (hd : decode c.code pc = .ok (.caload, 1)) (hn : pc + 1 = n)
    (k : Ends p e below EE Q (T.setTop (mkF m n Ls (.int (g i) :: st)))) : Ends p e below EE Q (T.setTop (mkF m pc Ls (.int j :: .ref a :: st))) := by
  subst hn
  obtain ⟨q, cl, A, S, H⟩ := F
  obtain ⟨q1, q2⟩ := own_clamp hj
  exact Ends.via (fun t h => X.caload hx (j := j) (v := .int (g i)) (by rw [eT]; exact A.1) (State.isArrayOf_alike hZ.alike A.2.1) A.2.2 (own_in hj hi S) (by rw [q1]; exact H i hi) (g := mkF m pc Ls (.int j :: .ref a :: st)) rfl rfl hd _ h) k
theorem own_baload (X : Stand p l e R s m args below meth c T locs cells slots) (hx : p.tables.exec = Jvm.exec) (hZ : Z.Warmed39 s.vm) (eT : T.heap = h) {a : Addr} {N : Nat} {g : Nat → Int32} (F : PA Z h a .byte N g) {j : Int32} {i : Nat} (hj : j.toInt = (i : Int)) (hi : i < N) {pc n : Nat} {Ls : Array Slot} {st : List Value} (hd : decode c.code pc = .ok (.baload, 1)) (hn : pc + 1 = n)
    (k : Ends p e below EE Q (T.setTop (mkF m n Ls (.int (g i) :: st)))) : Ends p e below EE Q (T.setTop (mkF m pc Ls (.int j :: .ref a :: st))) := by
  subst hn
  obtain ⟨q, cl, A, S, H⟩ := F
  obtain ⟨q1, q2⟩ := own_clamp hj
  exact Ends.via (fun t h => X.baloadBytes hx (j := j) (v := .int (g i)) (by rw [eT]; exact A.1) (State.isArrayOf_alike hZ.alike A.2.1) A.2.2 (own_in hj hi S) (by rw [q1]; exact H i hi) (g := mkF m pc Ls (.int j :: .ref a :: st)) rfl rfl hd _ h) k
/-- a cell's kind: of the class named, or an array over the type -/
def InS (Z : State) (t : String ⊕ FieldType) (c : ClassId) : Prop := match t with
  | .inl C => Z.vm.findClass C = some c
  | .inr ty => ∃ (k : Class) (comp : ClassId), Z.vm.classes[c]? = some k ∧ k.kind = .array comp ty
/-- from h to h' only cells of the kinds L were written -/
def Kc (Z : State) (h h' : Heap) (L : List (String ⊕ FieldType)) : Prop := h.size ≤ h'.size ∧ (∀ (x : Addr) (c : Cell), h[x]? = some c → (∀ t ∈ L, ¬ InS Z t c.cls) → h'[x]? = some c) ∧ ∀ (x : Addr) (c : Cell), h[x]? = some c → ∃ c' : Cell, h'[x]? = some c' ∧ c'.cls = c.cls ∧ c'.vm = c.vm ∧ c'.slots.size = c.slots.size
theorem Kc.refl (h : Heap) (L : List (String ⊕ FieldType)) : Kc Z h h L := ⟨Nat.le_refl _, fun _ _ q _ => q, fun _ c q => ⟨c, q, rfl, rfl, rfl⟩⟩
theorem Kc.trans {h' h'' : Heap} {L L' : List (String ⊕ FieldType)} (K : Kc Z h h' L) (K' : Kc Z h' h'' L') (q : ∀ t ∈ L', t ∈ L) : Kc Z h h'' L := by
  refine ⟨Nat.le_trans K.1 K'.1, fun x c e r => K'.2.1 x c (K.2.1 x c e r) fun t ht => r t (q t ht), fun x c e => ?_⟩
  obtain ⟨c1, e1, a1, a2, a3⟩ := K.2.2 x c e
  obtain ⟨c2, e2, b1, b2, b3⟩ := K'.2.2 x c1 e1
  exact ⟨c2, e2, b1.trans a1, b2.trans a2, b3.trans a3⟩
theorem Kc.ext {h' h'' : Heap} {L : List (String ⊕ FieldType)} (K : Kc Z h h' L) (E : Ext h' h'') : Kc Z h h'' L := K.trans (L' := []) ⟨E.1, fun x c q _ => E.2 x c q, fun x c q => ⟨c, E.2 x c q, rfl, rfl, rfl⟩⟩ (fun _ q => nomatch q)
theorem Kc.ofKeep {h' : Heap} {ws : List Addr} {L : List (String ⊕ FieldType)} (K : Keep h h' ws) (q : ∀ x ∈ ws, ∃ t ∈ L, ∀ c : Cell, h[x]? = some c → InS Z t c.cls) : Kc Z h h' L :=
  ⟨K.1, fun x c e r => K.2.1 x c e fun hx => by obtain ⟨t, ht, z⟩ := q x hx; exact r t ht (z c e), K.2.2⟩
theorem kin0 {L : List (String ⊕ FieldType)} : ∀ x ∈ ([] : List Addr), ∃ t ∈ L, ∀ c : Cell, h[x]? = some c → InS Z t c.cls := fun _ q => nomatch q
theorem kinS {L : List (String ⊕ FieldType)} {a : Addr} {ws : List Addr} {t : String ⊕ FieldType} (ht : t ∈ L) (z : ∀ c : Cell, h[a]? = some c → InS Z t c.cls) (r : ∀ x ∈ ws, ∃ t ∈ L, ∀ c : Cell, h[x]? = some c → InS Z t c.cls) : ∀ x ∈ a :: ws, ∃ t ∈ L, ∀ c : Cell, h[x]? = some c → InS Z t c.cls := fun x hx => by
  rcases List.mem_cons.mp hx with rfl | hx
  · exact ⟨t, ht, z⟩
  · exact r x hx
theorem exaSort {a : Addr} {C : String} (F : Exa Z h a C) (c : Cell) (e : h[a]? = some c) : InS Z (.inl C) c.cls := by
  obtain ⟨cell, k, h1, h2, -⟩ := F
  cases h1.symm.trans e
  exact h2
theorem VA.sort {a : Addr} {ty : FieldType} {n : Nat} {f : Nat → Value} (F : VA Z h a ty n f) (c : Cell) (e : h[a]? = some c) : InS Z (.inr ty) c.cls := by
  obtain ⟨-, cell, A, -⟩ := F
  cases A.1.symm.trans e
  obtain ⟨-, k, q1, comp, q2⟩ := A.2.1
  exact ⟨k, comp, q1, q2⟩
def NoS (Z : State) (t0 : String ⊕ FieldType) (L : List (String ⊕ FieldType)) : Prop := ∀ t ∈ L, ∀ c, InS Z t0 c → ¬ InS Z t c
theorem no0 {t0 : String ⊕ FieldType} : NoS Z t0 [] := fun _ q => nomatch q
theorem noS {t0 t : String ⊕ FieldType} {L : List (String ⊕ FieldType)} (z : ∀ c, InS Z t0 c → ¬ InS Z t c) (r : NoS Z t0 L) : NoS Z t0 (t :: L) := fun u hu => by
  rcases List.mem_cons.mp hu with rfl | hu
  · exact z
  · exact r u hu
theorem noCC {C C' : String} (q : C ≠ C') : ∀ c, InS Z (.inl C) c → ¬ InS Z (.inl C') c := fun _ h1 h2 => ids_ne h1 h2 q rfl
theorem noCA {C : String} {ty : FieldType} {kk : Nat} (w : (Cond.instantiable C kk).before a0 Z = true) : ∀ c, InS Z (.inl C) c → ¬ InS Z (.inr ty) c := fun c h1 h2 => by
  obtain ⟨t, k', g1, g2, g3, -⟩ := Cond.instantiable_spec w
  obtain ⟨k, comp, q1, q2⟩ := h2
  cases (show Z.vm.findClass C = some c from h1).symm.trans g1
  cases g2.symm.trans q1
  rw [g3] at q2; cases q2
theorem noAC {C : String} {ty : FieldType} {kk : Nat} (w : (Cond.instantiable C kk).before a0 Z = true) : ∀ c, InS Z (.inr ty) c → ¬ InS Z (.inl C) c := fun c h1 h2 => noCA w c h2 h1
theorem noAA {ty ty' : FieldType} (q : ty ≠ ty') : ∀ c, InS Z (.inr ty) c → ¬ InS Z (.inr ty') c := fun c h1 h2 => by
  obtain ⟨k, comp, q1, q2⟩ := h1
  obtain ⟨k', comp', r1, r2⟩ := h2
  cases q1.symm.trans r1
  rw [q2] at r2
  injection r2 with _ z
  exact q z
theorem exaKc {h' : Heap} {a : Addr} {C : String} {L : List (String ⊕ FieldType)} (F : Exa Z h a C) (K : Kc Z h h' L) : Exa Z h' a C := by
  obtain ⟨cell, k, h1, h2, h3, h4, h5⟩ := F
  obtain ⟨c', q, r1, r2, r3⟩ := K.2.2 a cell h1
  exact ⟨c', k, q, r1 ▸ h2, r1 ▸ h3, r2 ▸ h4, r3 ▸ h5⟩
theorem fldKc {h' : Heap} {a : Addr} {CC C n d : String} {v : Value} {L : List (String ⊕ FieldType)} (F : Fld Z h a C n d v) (E : Exa Z h a CC) (K : Kc Z h h' L) (q : NoS Z (.inl CC) L) : Fld Z h' a C n d v := by
  obtain ⟨cell, cf, k, i, f, h1, r⟩ := F
  exact ⟨cell, cf, k, i, f, K.2.1 a cell h1 fun t ht => q t ht _ (exaSort E cell h1), r⟩
theorem VA.kc {h' : Heap} {a : Addr} {ty : FieldType} {n : Nat} {f : Nat → Value} {L : List (String ⊕ FieldType)} (F : VA Z h a ty n f) (K : Kc Z h h' L) (q : NoS Z (.inr ty) L) : VA Z h' a ty n f := by
  have F' := F
  obtain ⟨r0, c, A, r⟩ := F
  exact ⟨r0, c, ⟨K.2.1 a c A.1 fun t ht => q t ht _ (F'.sort c A.1), A.2⟩, r⟩
theorem RA.kc {h' : Heap} {a : Addr} {C : String} {n : Nat} {g : Nat → Value} {L : List (String ⊕ FieldType)} (F : RA Z h a C n g) (K : Kc Z h h' L) (q : NoS Z (.inr (.object C)) L) : RA Z h' a C n g := by
  have F' := F.va
  obtain ⟨r0, c, A, r⟩ := F
  exact ⟨r0, c, ⟨K.2.1 a c A.1 fun t ht => q t ht _ (F'.sort c A.1), A.2⟩, r⟩
theorem PA.kc {h' : Heap} {a : Addr} {ty : FieldType} {n : Nat} {g : Nat → Int32} {L : List (String ⊕ FieldType)} (F : PA Z h a ty n g) (K : Kc Z h h' L) (q : NoS Z (.inr ty) L) : PA Z h' a ty n g := VA.kc F K q
theorem IA.kc {h' : Heap} {a : Addr} {n : Nat} {g : Nat → Int32} {L : List (String ⊕ FieldType)} (F : IA Z h a n g) (K : Kc Z h h' L) (q : NoS Z (.inr .int) L) : IA Z h' a n g := VA.kc F K q
theorem own_neOA {a b : Addr} {C : String} {kk : Nat} {ty : FieldType} {n : Nat} {f : Nat → Value} (F : Exa Z h a C) (w : (Cond.instantiable C kk).before a0 Z = true) (G : VA Z h b ty n f) : a ≠ b := by
  obtain ⟨-, c, A, -⟩ := G
  exact ne_arr F w A
theorem own_neAA {a b : Addr} {ty ty' : FieldType} {n n' : Nat} {f f' : Nat → Value} (F : VA Z h a ty n f) (G : VA Z h b ty' n' f') (q : ty ≠ ty') : a ≠ b := fun e => by
  subst e
  have G' := G
  obtain ⟨-, c, A, -⟩ := G
  exact noAA q _ (F.sort c A.1) (G'.sort c A.1)
def JA (Z : State) (h : Heap) (a : Addr) (n : Nat) (g : Nat → Int64) : Prop := VA Z h a .long n (fun j => .long (g j))
theorem JA.ext {h' : Heap} {a : Addr} {n : Nat} {g : Nat → Int64} (F : JA Z h a n g) (E : Ext h h') : JA Z h' a n g := VA.ext F E
theorem JA.keep {h' : Heap} {a : Addr} {n : Nat} {g : Nat → Int64} {ws : List Addr} (F : JA Z h a n g) (K : Keep h h' ws) (q : a ∉ ws) : JA Z h' a n g := VA.keep F K q
theorem JA.wrO {h' : Heap} {a b : Addr} {sl : Nat} {w : Value} {n : Nat} {g : Nat → Int64} (F : JA Z h a n g) (W : Wr h h' b sl w) (q : a ≠ b) : JA Z h' a n g := VA.wrO F W q
theorem JA.lt {a : Addr} {n : Nat} {g : Nat → Int64} (F : JA Z h a n g) : a < h.size := VA.lt F
theorem JA.set {h' : Heap} {a : Addr} {n i : Nat} {g : Nat → Int64} {x : Int64} (F : JA Z h a n g) (W : Wr h h' a i (.long x)) (hi : i < n) : JA Z h' a n (fun j => if j = i then x else g j) :=
  VA.congr (VA.set F W hi) fun j _ => by by_cases e : j = i <;> simp [e]
theorem JA.congr {a : Addr} {n : Nat} {f g : Nat → Int64} (F : JA Z h a n f) (e : ∀ j, j < n → f j = g j) : JA Z h a n g := VA.congr F fun j hj => by rw [e j hj]
theorem own_newJA (X : Stand p l e R s m args below meth c T locs cells slots) (hx : p.tables.exec = Jvm.exec) (hZ : Z.Warmed39 s.vm) (w : (Cond.arrayClass .long).before a0 Z = true) (eT : T.heap = h) {N : Int32} {i cap : Nat} (hN : N.toInt = (i : Int)) (hcap : i ≤ cap) (hb : cap * 8 ≤ 536870912) (hc : cells + 1 ≤ R.cells) (hl : slots + cap ≤ R.slots) {pc n : Nat} {Ls : Array Slot} {st : List Value} (hd : decode c.code pc = .ok (.newarray .long, 2)) (hn : pc + 2 = n)
    (k : ∀ T' h' b, Stand p l e R s m args below meth c T' locs (cells + 1) (slots + cap) → T'.heap = h' → b = h.size → Ext h h' → JA Z h' b i (fun _ => 0) → Ends p e below EE Q (T'.setTop (mkF m n Ls (.ref b :: st)))) : Ends p e below EE Q (T.setTop (mkF m pc Ls (.int N :: st))) := by
  subst hn
  obtain ⟨q1, q2⟩ := own_clamp hN
  obtain ⟨T', h', cA, X', e', E', A', st'⟩ := newP X hx hZ (aty := .long) w eT (g := mkF m pc Ls (.int N :: st)) rfl hd rfl q2 (cap := cap) (by rw [q1]; exact hcap) hb hc hl
  have b1 := rng32 N
  refine Ends.via (fun t h => st' t h) (k T' h' _ X' e' rfl E' ⟨by omega, _, A', (sz_new _ _ _).trans q1, fun j hj => ?_⟩)
  simp [newA, q1, hj]
  rfl
theorem own_lastore (X : Stand p l e R s m args below meth c T locs cells slots) (hx : p.tables.exec = Jvm.exec) (hZ : Z.Warmed39 s.vm) (eT : T.heap = h) {a : Addr} {N : Nat} {g : Nat → Int64} (F : JA Z h a N g) {j : Int32} {x : Int64} {i : Nat} (hj : j.toInt = (i : Int)) (hi : i < N) {pc n : Nat} {Ls : Array Slot} {st : List Value} (hd : decode c.code pc = .ok (.lastore, 1)) (hn : pc + 1 = n)
    (k : ∀ T' h', Stand p l e R s m args below meth c T' (locs ++ [⟨a, i⟩]) cells slots → T'.heap = h' → Wr h h' a i (.long x) → JA Z h' a N (fun y => if y = i then x else g y) → Ends p e below EE Q (T'.setTop (mkF m n Ls st))) : Ends p e below EE Q (T.setTop (mkF m pc Ls (.long x :: .int j :: .ref a :: st))) := by
  subst hn
  have F' := F
  obtain ⟨q, cl, A, S, H⟩ := F
  obtain ⟨q1, q2⟩ := own_clamp hj
  obtain ⟨T', h', X', e', W', st'⟩ := stJ X hx hZ eT A (j := j) (own_in hj hi S) (g := mkF m pc Ls (.long x :: .int j :: .ref a :: st)) rfl rfl hd
  rw [q1] at X' W'
  exact Ends.via (fun t h => st' t h) (k T' h' X' e' W' (JA.set F' W' hi))
theorem own_laload (X : Stand p l e R s m args below meth c T locs cells slots) (hx : p.tables.exec = Jvm.exec) (hZ : Z.Warmed39 s.vm) (eT : T.heap = h) {a : Addr} {N : Nat} {g : Nat → Int64} (F : JA Z h a N g) {j : Int32} {i : Nat} (hj : j.toInt = (i : Int)) (hi : i < N) {pc n : Nat} {Ls : Array Slot} {st : List Value} (hd : decode c.code pc = .ok (.laload, 1)) (hn : pc + 1 = n)
    (k : Ends p e below EE Q (T.setTop (mkF m n Ls (.long (g i) :: st)))) : Ends p e below EE Q (T.setTop (mkF m pc Ls (.int j :: .ref a :: st))) := by
  subst hn
  obtain ⟨q, cl, A, S, H⟩ := F
  obtain ⟨q1, q2⟩ := own_clamp hj
  exact Ends.via (fun t h => X.laload hx (j := j) (v := .long (g i)) (by rw [eT]; exact A.1) (State.isArrayOf_alike hZ.alike A.2.1) A.2.2 (own_in hj hi S) (by rw [q1]; exact H i hi) (g := mkF m pc Ls (.int j :: .ref a :: st)) rfl rfl hd _ h) k
def DA (Z : State) (h : Heap) (a : Addr) (n : Nat) (g : Nat → UInt64) : Prop := VA Z h a .double n (fun j => .double (g j))
theorem DA.ext {h' : Heap} {a : Addr} {n : Nat} {g : Nat → UInt64} (F : DA Z h a n g) (E : Ext h h') : DA Z h' a n g := VA.ext F E
theorem DA.keep {h' : Heap} {a : Addr} {n : Nat} {g : Nat → UInt64} {ws : List Addr} (F : DA Z h a n g) (K : Keep h h' ws) (q : a ∉ ws) : DA Z h' a n g := VA.keep F K q
theorem DA.wrO {h' : Heap} {a b : Addr} {sl : Nat} {w : Value} {n : Nat} {g : Nat → UInt64} (F : DA Z h a n g) (W : Wr h h' b sl w) (q : a ≠ b) : DA Z h' a n g := VA.wrO F W q
theorem DA.lt {a : Addr} {n : Nat} {g : Nat → UInt64} (F : DA Z h a n g) : a < h.size := VA.lt F
theorem DA.set {h' : Heap} {a : Addr} {n i : Nat} {g : Nat → UInt64} {x : UInt64} (F : DA Z h a n g) (W : Wr h h' a i (.double x)) (hi : i < n) : DA Z h' a n (fun j => if j = i then x else g j) :=
  VA.congr (VA.set F W hi) fun j _ => by by_cases e : j = i <;> simp [e]
theorem DA.congr {a : Addr} {n : Nat} {f g : Nat → UInt64} (F : DA Z h a n f) (e : ∀ j, j < n → f j = g j) : DA Z h a n g := VA.congr F fun j hj => by rw [e j hj]
theorem own_newDA (X : Stand p l e R s m args below meth c T locs cells slots) (hx : p.tables.exec = Jvm.exec) (hZ : Z.Warmed39 s.vm) (w : (Cond.arrayClass .double).before a0 Z = true) (eT : T.heap = h) {N : Int32} {i cap : Nat} (hN : N.toInt = (i : Int)) (hcap : i ≤ cap) (hb : cap * 8 ≤ 536870912) (hc : cells + 1 ≤ R.cells) (hl : slots + cap ≤ R.slots) {pc n : Nat} {Ls : Array Slot} {st : List Value} (hd : decode c.code pc = .ok (.newarray .double, 2)) (hn : pc + 2 = n)
    (k : ∀ T' h' b, Stand p l e R s m args below meth c T' locs (cells + 1) (slots + cap) → T'.heap = h' → b = h.size → Ext h h' → DA Z h' b i (fun _ => 0) → Ends p e below EE Q (T'.setTop (mkF m n Ls (.ref b :: st)))) : Ends p e below EE Q (T.setTop (mkF m pc Ls (.int N :: st))) := by
  subst hn
  obtain ⟨q1, q2⟩ := own_clamp hN
  obtain ⟨T', h', cA, X', e', E', A', st'⟩ := newP X hx hZ (aty := .double) w eT (g := mkF m pc Ls (.int N :: st)) rfl hd rfl q2 (cap := cap) (by rw [q1]; exact hcap) hb hc hl
  have b1 := rng32 N
  refine Ends.via (fun t h => st' t h) (k T' h' _ X' e' rfl E' ⟨by omega, _, A', (sz_new _ _ _).trans q1, fun j hj => ?_⟩)
  simp [newA, q1, hj]
  rfl
theorem own_dastore (X : Stand p l e R s m args below meth c T locs cells slots) (hx : p.tables.exec = Jvm.exec) (hZ : Z.Warmed39 s.vm) (eT : T.heap = h) {a : Addr} {N : Nat} {g : Nat → UInt64} (F : DA Z h a N g) {j : Int32} {x : UInt64} {i : Nat} (hj : j.toInt = (i : Int)) (hi : i < N) {pc n : Nat} {Ls : Array Slot} {st : List Value} (hd : decode c.code pc = .ok (.dastore, 1)) (hn : pc + 1 = n)
    (k : ∀ T' h', Stand p l e R s m args below meth c T' (locs ++ [⟨a, i⟩]) cells slots → T'.heap = h' → Wr h h' a i (.double x) → DA Z h' a N (fun y => if y = i then x else g y) → Ends p e below EE Q (T'.setTop (mkF m n Ls st))) : Ends p e below EE Q (T.setTop (mkF m pc Ls (.double x :: .int j :: .ref a :: st))) := by
  subst hn
  have F' := F
  obtain ⟨q, cl, A, S, H⟩ := F
  obtain ⟨q1, q2⟩ := own_clamp hj
  obtain ⟨T', h', X', e', W', st'⟩ := stD X hx hZ eT A (j := j) (own_in hj hi S) (g := mkF m pc Ls (.double x :: .int j :: .ref a :: st)) rfl rfl hd
  rw [q1] at X' W'
  exact Ends.via (fun t h => st' t h) (k T' h' X' e' W' (DA.set F' W' hi))
theorem own_daload (X : Stand p l e R s m args below meth c T locs cells slots) (hx : p.tables.exec = Jvm.exec) (hZ : Z.Warmed39 s.vm) (eT : T.heap = h) {a : Addr} {N : Nat} {g : Nat → UInt64} (F : DA Z h a N g) {j : Int32} {i : Nat} (hj : j.toInt = (i : Int)) (hi : i < N) {pc n : Nat} {Ls : Array Slot} {st : List Value} (hd : decode c.code pc = .ok (.daload, 1)) (hn : pc + 1 = n)
    (k : Ends p e below EE Q (T.setTop (mkF m n Ls (.double (g i) :: st)))) : Ends p e below EE Q (T.setTop (mkF m pc Ls (.int j :: .ref a :: st))) := by
  subst hn
  obtain ⟨q, cl, A, S, H⟩ := F
  obtain ⟨q1, q2⟩ := own_clamp hj
  exact Ends.via (fun t h => X.daload hx (j := j) (v := .double (g i)) (by rw [eT]; exact A.1) (State.isArrayOf_alike hZ.alike A.2.1) A.2.2 (own_in hj hi S) (by rw [q1]; exact H i hi) (g := mkF m pc Ls (.int j :: .ref a :: st)) rfl rfl hd _ h) k
theorem own_IAArv {a : Addr} {N : Nat} {g : Nat → Int32} (F : IA Z h a N g) : ∃ kc, Arv Z h a kc .int (Nat.toInt32 N) ((List.range N).map fun j => .int (g j)) .null := by
  obtain ⟨q, cl, A, S, H⟩ := F
  obtain ⟨q1, q2⟩ := own_clamp (len_toInt q)
  refine ⟨cl.cls, cl, A, rfl, by rw [q1, S], q2, fun j hj => ?_, fun j hj => ?_⟩
  · rw [S] at hj
    rw [H j hj]
    simp [hj]
  · rw [S] at hj
    have e : ((List.range N).map fun j => Value.int (g j)).getD j .null = .int (g j) := by simp [hj]
    rw [e]
    rfl
theorem own_arvIA {b : Addr} {kc : ClassId} {M : Nat} (hM : M < 2 ^ 31) {vs : List Value} {dd : Value} (F : Arv Z h b kc .int (Nat.toInt32 M) vs dd) : ∃ g, IA Z h b M g := by
  obtain ⟨cl, A, -, S, -, H, G⟩ := F
  rw [(own_clamp (len_toInt hM)).1] at S
  refine ⟨fun j => match vs.getD j dd with | .int x => x | _ => 0, hM, cl, A, S, fun j hj => ?_⟩
  have f := G j (by omega)
  rw [H j (by omega)]
  obtain ⟨x, e⟩ : ∃ x, vs.getD j dd = .int x := by cases q : vs.getD j dd <;> rw [q] at f <;> first | exact ⟨_, rfl⟩ | cases f
  show some (vs.getD j dd) = some (Value.int (match vs.getD j dd with | .int x => x | _ => 0))
  rw [e]
theorem own_cpI (X : Stand p l e R s m args below meth c T locs cells slots) (hx : p.tables.exec = Jvm.exec) (hZ : Z.Warmed39 s.vm) {own : String} {index : Nat} (hown : s.vm.findClass own = some m.cls)
    (w1 : (Cond.methodLink own index Jvm.Stand.acN).before a0 Z = true) (w2 : (Cond.native Jvm.Stand.acN).before a0 Z = true) (w3 : (Cond.static Jvm.Stand.acN).before a0 Z = true) (w4 : (Cond.initialized "java/lang/System").before a0 Z = true) (eT : T.heap = h)
    {a b : Addr} {N M sn dn nn : Nat} {g gd : Nat → Int32} (F : IA Z h a N g) (G : IA Z h b M gd) {sp dp z : Int32} (hs : sp.toInt = (sn : Int)) (hdp : dp.toInt = (dn : Int)) (hz : z.toInt = (nn : Int)) (h4 : sn + nn ≤ N) (h5 : dn + nn ≤ M) {n0 : Nat} (NN : Fr n0 locs) (ge : n0 ≤ b)
    {pc n : Nat} {Ls : Array Slot} {st : List Value} (hsize : Ls.size = c.maxLocals) (hd : decode c.code pc = .ok (.invokestatic index, 3)) (hn : pc + 3 = n) (hf : 1 ≤ R.frames) {W : Nat} (hW : 0 + (st.map fun v => v.category).sum ≤ W) (hlo : W + (nativeFrameWords "java/lang/System" "arraycopy" 5 + 11) ≤ R.locals)
    (k : ∀ T' h' L g', Stand p l e R s m args below meth c T' L cells slots → T'.heap = h' → Fr n0 L → Keep h h' [b] → IA Z h' b M g' → Ends p e below EE Q (T'.setTop (mkF m n Ls st))) : Ends p e below EE Q (T.setTop (mkF m pc Ls (.int z :: .int dp :: .ref b :: .int sp :: .ref a :: st))) := by
  subst hn
  have hN := F.1
  have hMM := G.1
  obtain ⟨z1, z2⟩ := own_clamp hz
  obtain ⟨s1, s2⟩ := own_clamp hs
  obtain ⟨d1, d2⟩ := own_clamp hdp
  obtain ⟨n1, n2⟩ := own_clamp (len_toInt hN)
  obtain ⟨m1, m2⟩ := own_clamp (len_toInt hMM)
  obtain ⟨ka, A1⟩ := own_IAArv F
  obtain ⟨kb, B1⟩ := own_IAArv G
  obtain ⟨T', h', L, X', e', N', K', B', st'⟩ := cpA X hx hZ hown w1 w2 w3 w4 eT A1 B1 (Or.inl ⟨rfl, rfl⟩) (sp := sp) (dp := dp) (nn := z) s2 d2 z2 (by rw [z1, n1, s1]; exact h4) (by rw [z1, m1, d1]; exact h5) rfl (by rw [z1, d1]; simpa using h5) NN ge (g := mkF m pc Ls (.int z :: .int dp :: .ref b :: .int sp :: .ref a :: st)) rfl hsize (rest := st) rfl hd hf hW hlo
  obtain ⟨g', I'⟩ := own_arvIA hMM B'
  exact Ends.via (fun t h => st' t h) (k T' h' L g' X' e' N' K' I')
theorem own_JAArv {a : Addr} {N : Nat} {g : Nat → Int64} (F : JA Z h a N g) : ∃ kc, Arv Z h a kc .long (Nat.toInt32 N) ((List.range N).map fun j => .long (g j)) .null := by
  obtain ⟨q, cl, A, S, H⟩ := F
  obtain ⟨q1, q2⟩ := own_clamp (len_toInt q)
  refine ⟨cl.cls, cl, A, rfl, by rw [q1, S], q2, fun j hj => ?_, fun j hj => ?_⟩
  · rw [S] at hj
    rw [H j hj]
    simp [hj]
  · rw [S] at hj
    have e : ((List.range N).map fun j => Value.long (g j)).getD j .null = .long (g j) := by simp [hj]
    rw [e]
    rfl
theorem own_arvJA {b : Addr} {kc : ClassId} {M : Nat} (hM : M < 2 ^ 31) {vs : List Value} {dd : Value} (F : Arv Z h b kc .long (Nat.toInt32 M) vs dd) : ∃ g, JA Z h b M g := by
  obtain ⟨cl, A, -, S, -, H, G⟩ := F
  rw [(own_clamp (len_toInt hM)).1] at S
  refine ⟨fun j => match vs.getD j dd with | .long x => x | _ => 0, hM, cl, A, S, fun j hj => ?_⟩
  have f := G j (by omega)
  rw [H j (by omega)]
  obtain ⟨x, e⟩ : ∃ x, vs.getD j dd = .long x := by cases q : vs.getD j dd <;> rw [q] at f <;> first | exact ⟨_, rfl⟩ | cases f
  show some (vs.getD j dd) = some (Value.long (match vs.getD j dd with | .long x => x | _ => 0))
  rw [e]
theorem own_cpJ (X : Stand p l e R s m args below meth c T locs cells slots) (hx : p.tables.exec = Jvm.exec) (hZ : Z.Warmed39 s.vm) {own : String} {index : Nat} (hown : s.vm.findClass own = some m.cls)
    (w1 : (Cond.methodLink own index Jvm.Stand.acN).before a0 Z = true) (w2 : (Cond.native Jvm.Stand.acN).before a0 Z = true) (w3 : (Cond.static Jvm.Stand.acN).before a0 Z = true) (w4 : (Cond.initialized "java/lang/System").before a0 Z = true) (eT : T.heap = h)
    {a b : Addr} {N M sn dn nn : Nat} {g gd : Nat → Int64} (F : JA Z h a N g) (G : JA Z h b M gd) {sp dp z : Int32} (hs : sp.toInt = (sn : Int)) (hdp : dp.toInt = (dn : Int)) (hz : z.toInt = (nn : Int)) (h4 : sn + nn ≤ N) (h5 : dn + nn ≤ M) {n0 : Nat} (NN : Fr n0 locs) (ge : n0 ≤ b)
    {pc n : Nat} {Ls : Array Slot} {st : List Value} (hsize : Ls.size = c.maxLocals) (hd : decode c.code pc = .ok (.invokestatic index, 3)) (hn : pc + 3 = n) (hf : 1 ≤ R.frames) {W : Nat} (hW : 0 + (st.map fun v => v.category).sum ≤ W) (hlo : W + (nativeFrameWords "java/lang/System" "arraycopy" 5 + 11) ≤ R.locals)
    (k : ∀ T' h' L g', Stand p l e R s m args below meth c T' L cells slots → T'.heap = h' → Fr n0 L → Keep h h' [b] → JA Z h' b M g' → Ends p e below EE Q (T'.setTop (mkF m n Ls st))) : Ends p e below EE Q (T.setTop (mkF m pc Ls (.int z :: .int dp :: .ref b :: .int sp :: .ref a :: st))) := by
  subst hn
  have hN := F.1
  have hMM := G.1
  obtain ⟨z1, z2⟩ := own_clamp hz
  obtain ⟨s1, s2⟩ := own_clamp hs
  obtain ⟨d1, d2⟩ := own_clamp hdp
  obtain ⟨n1, n2⟩ := own_clamp (len_toInt hN)
  obtain ⟨m1, m2⟩ := own_clamp (len_toInt hMM)
  obtain ⟨ka, A1⟩ := own_JAArv F
  obtain ⟨kb, B1⟩ := own_JAArv G
  obtain ⟨T', h', L, X', e', N', K', B', st'⟩ := cpA X hx hZ hown w1 w2 w3 w4 eT A1 B1 (Or.inl ⟨rfl, rfl⟩) (sp := sp) (dp := dp) (nn := z) s2 d2 z2 (by rw [z1, n1, s1]; exact h4) (by rw [z1, m1, d1]; exact h5) rfl (by rw [z1, d1]; simpa using h5) NN ge (g := mkF m pc Ls (.int z :: .int dp :: .ref b :: .int sp :: .ref a :: st)) rfl hsize (rest := st) rfl hd hf hW hlo
  obtain ⟨g', I'⟩ := own_arvJA hMM B'
  exact Ends.via (fun t h => st' t h) (k T' h' L g' X' e' N' K' I')
end Own
def RL (Z : State) (h : Heap) (a : Addr) (v0 : UInt64) (v1 : UInt64) (v2 : UInt64) (v3 : Value) (v4 : Value) (v5 : Int32) (v6 : Int64) : Prop := Exa Z h a "com/example/revisit/revisit/policy/RateLikelihood" ∧ Fld Z h a "com/example/revisit/revisit/policy/RateLikelihood" "rate" "D" (.double v0) ∧ Fld Z h a "com/example/revisit/revisit/policy/RateLikelihood" "lowRate" "D" (.double v1) ∧ Fld Z h a "com/example/revisit/revisit/policy/RateLikelihood" "highRate" "D" (.double v2) ∧ Fld Z h a "com/example/revisit/revisit/policy/RateLikelihood" "changedLengths" "[I" v3 ∧ Fld Z h a "com/example/revisit/revisit/policy/RateLikelihood" "changedCounts" "[J" v4 ∧ Fld Z h a "com/example/revisit/revisit/policy/RateLikelihood" "distinctLengths" "I" (.int v5) ∧ Fld Z h a "com/example/revisit/revisit/policy/RateLikelihood" "unchangedLength" "J" (.long v6)
theorem RL.ext {Z : State} {h h' : Heap} {a : Addr} {v0 : UInt64} {v1 : UInt64} {v2 : UInt64} {v3 : Value} {v4 : Value} {v5 : Int32} {v6 : Int64} (F : RL Z h a v0 v1 v2 v3 v4 v5 v6) (E : Ext h h') : RL Z h' a v0 v1 v2 v3 v4 v5 v6 := ⟨F.1.ext E, F.2.1.ext E, F.2.2.1.ext E, F.2.2.2.1.ext E, F.2.2.2.2.1.ext E, F.2.2.2.2.2.1.ext E, F.2.2.2.2.2.2.1.ext E, F.2.2.2.2.2.2.2.ext E⟩
theorem RL.keep {Z : State} {h h' : Heap} {a : Addr} {v0 : UInt64} {v1 : UInt64} {v2 : UInt64} {v3 : Value} {v4 : Value} {v5 : Int32} {v6 : Int64} {ws : List Addr} (F : RL Z h a v0 v1 v2 v3 v4 v5 v6) (K : Keep h h' ws) (q : a ∉ ws) : RL Z h' a v0 v1 v2 v3 v4 v5 v6 := ⟨F.1.keep K, F.2.1.keep K q, F.2.2.1.keep K q, F.2.2.2.1.keep K q, F.2.2.2.2.1.keep K q, F.2.2.2.2.2.1.keep K q, F.2.2.2.2.2.2.1.keep K q, F.2.2.2.2.2.2.2.keep K q⟩
theorem RL.lt {Z : State} {h : Heap} {a : Addr} {v0 : UInt64} {v1 : UInt64} {v2 : UInt64} {v3 : Value} {v4 : Value} {v5 : Int32} {v6 : Int64} (F : RL Z h a v0 v1 v2 v3 v4 v5 v6) : a < h.size := F.1.lt
theorem RL.wrO {Z : State} {h h' : Heap} {a : Addr} {v0 : UInt64} {v1 : UInt64} {v2 : UInt64} {v3 : Value} {v4 : Value} {v5 : Int32} {v6 : Int64} {b : Addr} {sl : Nat} {w : Value} (F : RL Z h a v0 v1 v2 v3 v4 v5 v6) (W : Wr h h' b sl w) (q : a ≠ b) : RL Z h' a v0 v1 v2 v3 v4 v5 v6 := ⟨F.1.wr W, F.2.1.other W (Or.inl q), F.2.2.1.other W (Or.inl q), F.2.2.2.1.other W (Or.inl q), F.2.2.2.2.1.other W (Or.inl q), F.2.2.2.2.2.1.other W (Or.inl q), F.2.2.2.2.2.2.1.other W (Or.inl q), F.2.2.2.2.2.2.2.other W (Or.inl q)⟩
theorem RL.kc {Z : State} {h h' : Heap} {a : Addr} {v0 : UInt64} {v1 : UInt64} {v2 : UInt64} {v3 : Value} {v4 : Value} {v5 : Int32} {v6 : Int64} {LL : List (String ⊕ FieldType)} (F : RL Z h a v0 v1 v2 v3 v4 v5 v6) (K : Kc Z h h' LL) (q : NoS Z (.inl "com/example/revisit/revisit/policy/RateLikelihood") LL) : RL Z h' a v0 v1 v2 v3 v4 v5 v6 := ⟨exaKc F.1 K, fldKc F.2.1 F.1 K q, fldKc F.2.2.1 F.1 K q, fldKc F.2.2.2.1 F.1 K q, fldKc F.2.2.2.2.1 F.1 K q, fldKc F.2.2.2.2.2.1 F.1 K q, fldKc F.2.2.2.2.2.2.1 F.1 K q, fldKc F.2.2.2.2.2.2.2 F.1 K q⟩
theorem RL.set_rate {Z : State} {h h' : Heap} {a : Addr} {v0 : UInt64} {v1 : UInt64} {v2 : UInt64} {v3 : Value} {v4 : Value} {v5 : Int32} {v6 : Int64} {w : UInt64} {a0 : Array Value} (hw : ∀ d ∈ tables_1, d.before a0 Z = true) (F : RL Z h a v0 v1 v2 v3 v4 v5 v6) (W : Wr h h' a (Jvm.RoadKit.slotOf Z "com/example/revisit/revisit/policy/RateLikelihood" "rate" "D") (.double w)) : RL Z h' a w v1 v2 v3 v4 v5 v6 := ⟨F.1.wr W, F.2.1.same W, F.2.2.1.other W (Or.inr (slot_ne (a0 := a0) (Or.inl (hw _ (List.mem_of_getElem? (i := 30) rfl))) (Or.inl (hw _ (List.mem_of_getElem? (i := 28) rfl))) (by decide) (t := .double) (t' := .double) (by decide) (by decide))), F.2.2.2.1.other W (Or.inr (slot_ne (a0 := a0) (Or.inl (hw _ (List.mem_of_getElem? (i := 32) rfl))) (Or.inl (hw _ (List.mem_of_getElem? (i := 28) rfl))) (by decide) (t := .double) (t' := .double) (by decide) (by decide))), F.2.2.2.2.1.other W (Or.inr (slot_ne (a0 := a0) (Or.inl (hw _ (List.mem_of_getElem? (i := 35) rfl))) (Or.inl (hw _ (List.mem_of_getElem? (i := 28) rfl))) (by decide) (t := (.array .int)) (t' := .double) (by decide) (by decide))), F.2.2.2.2.2.1.other W (Or.inr (slot_ne (a0 := a0) (Or.inl (hw _ (List.mem_of_getElem? (i := 38) rfl))) (Or.inl (hw _ (List.mem_of_getElem? (i := 28) rfl))) (by decide) (t := (.array .long)) (t' := .double) (by decide) (by decide))), F.2.2.2.2.2.2.1.other W (Or.inr (slot_ne (a0 := a0) (Or.inl (hw _ (List.mem_of_getElem? (i := 40) rfl))) (Or.inl (hw _ (List.mem_of_getElem? (i := 28) rfl))) (by decide) (t := .int) (t' := .double) (by decide) (by decide))), F.2.2.2.2.2.2.2.other W (Or.inr (slot_ne (a0 := a0) (Or.inl (hw _ (List.mem_of_getElem? (i := 42) rfl))) (Or.inl (hw _ (List.mem_of_getElem? (i := 28) rfl))) (by decide) (t := .long) (t' := .double) (by decide) (by decide)))⟩
theorem RL.set_lowRate {Z : State} {h h' : Heap} {a : Addr} {v0 : UInt64} {v1 : UInt64} {v2 : UInt64} {v3 : Value} {v4 : Value} {v5 : Int32} {v6 : Int64} {w : UInt64} {a0 : Array Value} (hw : ∀ d ∈ tables_1, d.before a0 Z = true) (F : RL Z h a v0 v1 v2 v3 v4 v5 v6) (W : Wr h h' a (Jvm.RoadKit.slotOf Z "com/example/revisit/revisit/policy/RateLikelihood" "lowRate" "D") (.double w)) : RL Z h' a v0 w v2 v3 v4 v5 v6 := ⟨F.1.wr W, F.2.1.other W (Or.inr (slot_ne (a0 := a0) (Or.inl (hw _ (List.mem_of_getElem? (i := 28) rfl))) (Or.inl (hw _ (List.mem_of_getElem? (i := 30) rfl))) (by decide) (t := .double) (t' := .double) (by decide) (by decide))), F.2.2.1.same W, F.2.2.2.1.other W (Or.inr (slot_ne (a0 := a0) (Or.inl (hw _ (List.mem_of_getElem? (i := 32) rfl))) (Or.inl (hw _ (List.mem_of_getElem? (i := 30) rfl))) (by decide) (t := .double) (t' := .double) (by decide) (by decide))), F.2.2.2.2.1.other W (Or.inr (slot_ne (a0 := a0) (Or.inl (hw _ (List.mem_of_getElem? (i := 35) rfl))) (Or.inl (hw _ (List.mem_of_getElem? (i := 30) rfl))) (by decide) (t := (.array .int)) (t' := .double) (by decide) (by decide))), F.2.2.2.2.2.1.other W (Or.inr (slot_ne (a0 := a0) (Or.inl (hw _ (List.mem_of_getElem? (i := 38) rfl))) (Or.inl (hw _ (List.mem_of_getElem? (i := 30) rfl))) (by decide) (t := (.array .long)) (t' := .double) (by decide) (by decide))), F.2.2.2.2.2.2.1.other W (Or.inr (slot_ne (a0 := a0) (Or.inl (hw _ (List.mem_of_getElem? (i := 40) rfl))) (Or.inl (hw _ (List.mem_of_getElem? (i := 30) rfl))) (by decide) (t := .int) (t' := .double) (by decide) (by decide))), F.2.2.2.2.2.2.2.other W (Or.inr (slot_ne (a0 := a0) (Or.inl (hw _ (List.mem_of_getElem? (i := 42) rfl))) (Or.inl (hw _ (List.mem_of_getElem? (i := 30) rfl))) (by decide) (t := .long) (t' := .double) (by decide) (by decide)))⟩
theorem RL.set_highRate {Z : State} {h h' : Heap} {a : Addr} {v0 : UInt64} {v1 : UInt64} {v2 : UInt64} {v3 : Value} {v4 : Value} {v5 : Int32} {v6 : Int64} {w : UInt64} {a0 : Array Value} (hw : ∀ d ∈ tables_1, d.before a0 Z = true) (F : RL Z h a v0 v1 v2 v3 v4 v5 v6) (W : Wr h h' a (Jvm.RoadKit.slotOf Z "com/example/revisit/revisit/policy/RateLikelihood" "highRate" "D") (.double w)) : RL Z h' a v0 v1 w v3 v4 v5 v6 := ⟨F.1.wr W, F.2.1.other W (Or.inr (slot_ne (a0 := a0) (Or.inl (hw _ (List.mem_of_getElem? (i := 28) rfl))) (Or.inl (hw _ (List.mem_of_getElem? (i := 32) rfl))) (by decide) (t := .double) (t' := .double) (by decide) (by decide))), F.2.2.1.other W (Or.inr (slot_ne (a0 := a0) (Or.inl (hw _ (List.mem_of_getElem? (i := 30) rfl))) (Or.inl (hw _ (List.mem_of_getElem? (i := 32) rfl))) (by decide) (t := .double) (t' := .double) (by decide) (by decide))), F.2.2.2.1.same W, F.2.2.2.2.1.other W (Or.inr (slot_ne (a0 := a0) (Or.inl (hw _ (List.mem_of_getElem? (i := 35) rfl))) (Or.inl (hw _ (List.mem_of_getElem? (i := 32) rfl))) (by decide) (t := (.array .int)) (t' := .double) (by decide) (by decide))), F.2.2.2.2.2.1.other W (Or.inr (slot_ne (a0 := a0) (Or.inl (hw _ (List.mem_of_getElem? (i := 38) rfl))) (Or.inl (hw _ (List.mem_of_getElem? (i := 32) rfl))) (by decide) (t := (.array .long)) (t' := .double) (by decide) (by decide))), F.2.2.2.2.2.2.1.other W (Or.inr (slot_ne (a0 := a0) (Or.inl (hw _ (List.mem_of_getElem? (i := 40) rfl))) (Or.inl (hw _ (List.mem_of_getElem? (i := 32) rfl))) (by decide) (t := .int) (t' := .double) (by decide) (by decide))), F.2.2.2.2.2.2.2.other W (Or.inr (slot_ne (a0 := a0) (Or.inl (hw _ (List.mem_of_getElem? (i := 42) rfl))) (Or.inl (hw _ (List.mem_of_getElem? (i := 32) rfl))) (by decide) (t := .long) (t' := .double) (by decide) (by decide)))⟩
theorem RL.set_changedLengths {Z : State} {h h' : Heap} {a : Addr} {v0 : UInt64} {v1 : UInt64} {v2 : UInt64} {v3 : Value} {v4 : Value} {v5 : Int32} {v6 : Int64} {w : Value} {a0 : Array Value} (hw : ∀ d ∈ tables_1, d.before a0 Z = true) (F : RL Z h a v0 v1 v2 v3 v4 v5 v6) (W : Wr h h' a (Jvm.RoadKit.slotOf Z "com/example/revisit/revisit/policy/RateLikelihood" "changedLengths" "[I") w) : RL Z h' a v0 v1 v2 w v4 v5 v6 := ⟨F.1.wr W, F.2.1.other W (Or.inr (slot_ne (a0 := a0) (Or.inl (hw _ (List.mem_of_getElem? (i := 28) rfl))) (Or.inl (hw _ (List.mem_of_getElem? (i := 35) rfl))) (by decide) (t := .double) (t' := (.array .int)) (by decide) (by decide))), F.2.2.1.other W (Or.inr (slot_ne (a0 := a0) (Or.inl (hw _ (List.mem_of_getElem? (i := 30) rfl))) (Or.inl (hw _ (List.mem_of_getElem? (i := 35) rfl))) (by decide) (t := .double) (t' := (.array .int)) (by decide) (by decide))), F.2.2.2.1.other W (Or.inr (slot_ne (a0 := a0) (Or.inl (hw _ (List.mem_of_getElem? (i := 32) rfl))) (Or.inl (hw _ (List.mem_of_getElem? (i := 35) rfl))) (by decide) (t := .double) (t' := (.array .int)) (by decide) (by decide))), F.2.2.2.2.1.same W, F.2.2.2.2.2.1.other W (Or.inr (slot_ne (a0 := a0) (Or.inl (hw _ (List.mem_of_getElem? (i := 38) rfl))) (Or.inl (hw _ (List.mem_of_getElem? (i := 35) rfl))) (by decide) (t := (.array .long)) (t' := (.array .int)) (by decide) (by decide))), F.2.2.2.2.2.2.1.other W (Or.inr (slot_ne (a0 := a0) (Or.inl (hw _ (List.mem_of_getElem? (i := 40) rfl))) (Or.inl (hw _ (List.mem_of_getElem? (i := 35) rfl))) (by decide) (t := .int) (t' := (.array .int)) (by decide) (by decide))), F.2.2.2.2.2.2.2.other W (Or.inr (slot_ne (a0 := a0) (Or.inl (hw _ (List.mem_of_getElem? (i := 42) rfl))) (Or.inl (hw _ (List.mem_of_getElem? (i := 35) rfl))) (by decide) (t := .long) (t' := (.array .int)) (by decide) (by decide)))⟩
theorem RL.set_changedCounts {Z : State} {h h' : Heap} {a : Addr} {v0 : UInt64} {v1 : UInt64} {v2 : UInt64} {v3 : Value} {v4 : Value} {v5 : Int32} {v6 : Int64} {w : Value} {a0 : Array Value} (hw : ∀ d ∈ tables_1, d.before a0 Z = true) (F : RL Z h a v0 v1 v2 v3 v4 v5 v6) (W : Wr h h' a (Jvm.RoadKit.slotOf Z "com/example/revisit/revisit/policy/RateLikelihood" "changedCounts" "[J") w) : RL Z h' a v0 v1 v2 v3 w v5 v6 := ⟨F.1.wr W, F.2.1.other W (Or.inr (slot_ne (a0 := a0) (Or.inl (hw _ (List.mem_of_getElem? (i := 28) rfl))) (Or.inl (hw _ (List.mem_of_getElem? (i := 38) rfl))) (by decide) (t := .double) (t' := (.array .long)) (by decide) (by decide))), F.2.2.1.other W (Or.inr (slot_ne (a0 := a0) (Or.inl (hw _ (List.mem_of_getElem? (i := 30) rfl))) (Or.inl (hw _ (List.mem_of_getElem? (i := 38) rfl))) (by decide) (t := .double) (t' := (.array .long)) (by decide) (by decide))), F.2.2.2.1.other W (Or.inr (slot_ne (a0 := a0) (Or.inl (hw _ (List.mem_of_getElem? (i := 32) rfl))) (Or.inl (hw _ (List.mem_of_getElem? (i := 38) rfl))) (by decide) (t := .double) (t' := (.array .long)) (by decide) (by decide))), F.2.2.2.2.1.other W (Or.inr (slot_ne (a0 := a0) (Or.inl (hw _ (List.mem_of_getElem? (i := 35) rfl))) (Or.inl (hw _ (List.mem_of_getElem? (i := 38) rfl))) (by decide) (t := (.array .int)) (t' := (.array .long)) (by decide) (by decide))), F.2.2.2.2.2.1.same W, F.2.2.2.2.2.2.1.other W (Or.inr (slot_ne (a0 := a0) (Or.inl (hw _ (List.mem_of_getElem? (i := 40) rfl))) (Or.inl (hw _ (List.mem_of_getElem? (i := 38) rfl))) (by decide) (t := .int) (t' := (.array .long)) (by decide) (by decide))), F.2.2.2.2.2.2.2.other W (Or.inr (slot_ne (a0 := a0) (Or.inl (hw _ (List.mem_of_getElem? (i := 42) rfl))) (Or.inl (hw _ (List.mem_of_getElem? (i := 38) rfl))) (by decide) (t := .long) (t' := (.array .long)) (by decide) (by decide)))⟩
theorem RL.set_distinctLengths {Z : State} {h h' : Heap} {a : Addr} {v0 : UInt64} {v1 : UInt64} {v2 : UInt64} {v3 : Value} {v4 : Value} {v5 : Int32} {v6 : Int64} {w : Int32} {a0 : Array Value} (hw : ∀ d ∈ tables_1, d.before a0 Z = true) (F : RL Z h a v0 v1 v2 v3 v4 v5 v6) (W : Wr h h' a (Jvm.RoadKit.slotOf Z "com/example/revisit/revisit/policy/RateLikelihood" "distinctLengths" "I") (.int w)) : RL Z h' a v0 v1 v2 v3 v4 w v6 := ⟨F.1.wr W, F.2.1.other W (Or.inr (slot_ne (a0 := a0) (Or.inl (hw _ (List.mem_of_getElem? (i := 28) rfl))) (Or.inl (hw _ (List.mem_of_getElem? (i := 40) rfl))) (by decide) (t := .double) (t' := .int) (by decide) (by decide))), F.2.2.1.other W (Or.inr (slot_ne (a0 := a0) (Or.inl (hw _ (List.mem_of_getElem? (i := 30) rfl))) (Or.inl (hw _ (List.mem_of_getElem? (i := 40) rfl))) (by decide) (t := .double) (t' := .int) (by decide) (by decide))), F.2.2.2.1.other W (Or.inr (slot_ne (a0 := a0) (Or.inl (hw _ (List.mem_of_getElem? (i := 32) rfl))) (Or.inl (hw _ (List.mem_of_getElem? (i := 40) rfl))) (by decide) (t := .double) (t' := .int) (by decide) (by decide))), F.2.2.2.2.1.other W (Or.inr (slot_ne (a0 := a0) (Or.inl (hw _ (List.mem_of_getElem? (i := 35) rfl))) (Or.inl (hw _ (List.mem_of_getElem? (i := 40) rfl))) (by decide) (t := (.array .int)) (t' := .int) (by decide) (by decide))), F.2.2.2.2.2.1.other W (Or.inr (slot_ne (a0 := a0) (Or.inl (hw _ (List.mem_of_getElem? (i := 38) rfl))) (Or.inl (hw _ (List.mem_of_getElem? (i := 40) rfl))) (by decide) (t := (.array .long)) (t' := .int) (by decide) (by decide))), F.2.2.2.2.2.2.1.same W, F.2.2.2.2.2.2.2.other W (Or.inr (slot_ne (a0 := a0) (Or.inl (hw _ (List.mem_of_getElem? (i := 42) rfl))) (Or.inl (hw _ (List.mem_of_getElem? (i := 40) rfl))) (by decide) (t := .long) (t' := .int) (by decide) (by decide)))⟩
theorem RL.set_unchangedLength {Z : State} {h h' : Heap} {a : Addr} {v0 : UInt64} {v1 : UInt64} {v2 : UInt64} {v3 : Value} {v4 : Value} {v5 : Int32} {v6 : Int64} {w : Int64} {a0 : Array Value} (hw : ∀ d ∈ tables_1, d.before a0 Z = true) (F : RL Z h a v0 v1 v2 v3 v4 v5 v6) (W : Wr h h' a (Jvm.RoadKit.slotOf Z "com/example/revisit/revisit/policy/RateLikelihood" "unchangedLength" "J") (.long w)) : RL Z h' a v0 v1 v2 v3 v4 v5 w := ⟨F.1.wr W, F.2.1.other W (Or.inr (slot_ne (a0 := a0) (Or.inl (hw _ (List.mem_of_getElem? (i := 28) rfl))) (Or.inl (hw _ (List.mem_of_getElem? (i := 42) rfl))) (by decide) (t := .double) (t' := .long) (by decide) (by decide))), F.2.2.1.other W (Or.inr (slot_ne (a0 := a0) (Or.inl (hw _ (List.mem_of_getElem? (i := 30) rfl))) (Or.inl (hw _ (List.mem_of_getElem? (i := 42) rfl))) (by decide) (t := .double) (t' := .long) (by decide) (by decide))), F.2.2.2.1.other W (Or.inr (slot_ne (a0 := a0) (Or.inl (hw _ (List.mem_of_getElem? (i := 32) rfl))) (Or.inl (hw _ (List.mem_of_getElem? (i := 42) rfl))) (by decide) (t := .double) (t' := .long) (by decide) (by decide))), F.2.2.2.2.1.other W (Or.inr (slot_ne (a0 := a0) (Or.inl (hw _ (List.mem_of_getElem? (i := 35) rfl))) (Or.inl (hw _ (List.mem_of_getElem? (i := 42) rfl))) (by decide) (t := (.array .int)) (t' := .long) (by decide) (by decide))), F.2.2.2.2.2.1.other W (Or.inr (slot_ne (a0 := a0) (Or.inl (hw _ (List.mem_of_getElem? (i := 38) rfl))) (Or.inl (hw _ (List.mem_of_getElem? (i := 42) rfl))) (by decide) (t := (.array .long)) (t' := .long) (by decide) (by decide))), F.2.2.2.2.2.2.1.other W (Or.inr (slot_ne (a0 := a0) (Or.inl (hw _ (List.mem_of_getElem? (i := 40) rfl))) (Or.inl (hw _ (List.mem_of_getElem? (i := 42) rfl))) (by decide) (t := .int) (t' := .long) (by decide) (by decide))), F.2.2.2.2.2.2.2.same W⟩
def CR (Z : State) (h : Heap) (a : Addr) (v0 : Value) (v1 : Value) (v2 : Value) (v3 : Value) (v4 : Value) (v5 : Value) (v6 : Int32) (v7 : Int64) (v8 : Int64) (v9 : Int32) (v10 : Int32) : Prop := Exa Z h a "com/example/revisit/revisit/policy/ChangeRates" ∧ Fld Z h a "com/example/revisit/revisit/policy/ChangeRates" "lastFetches" "[I" v0 ∧ Fld Z h a "com/example/revisit/revisit/policy/ChangeRates" "fetches" "[I" v1 ∧ Fld Z h a "com/example/revisit/revisit/policy/ChangeRates" "changedFetches" "[I" v2 ∧ Fld Z h a "com/example/revisit/revisit/policy/ChangeRates" "likelihoods" "[Lcom/example/revisit/revisit/policy/RateLikelihood;" v3 ∧ Fld Z h a "com/example/revisit/revisit/policy/ChangeRates" "pooled" "Lcom/example/revisit/revisit/policy/RateLikelihood;" v4 ∧ Fld Z h a "com/example/revisit/revisit/policy/ChangeRates" "dispersionTerms" "[D" v5 ∧ Fld Z h a "com/example/revisit/revisit/policy/ChangeRates" "fetchedSources" "I" (.int v6) ∧ Fld Z h a "com/example/revisit/revisit/policy/ChangeRates" "pooledChangedFetches" "J" (.long v7) ∧ Fld Z h a "com/example/revisit/revisit/policy/ChangeRates" "pooledSlots" "J" (.long v8) ∧ Fld Z h a "com/example/revisit/revisit/policy/ChangeRates" "alikeKnown" "Z" (.int v9) ∧ Fld Z h a "com/example/revisit/revisit/policy/ChangeRates" "alike" "Z" (.int v10)
theorem CR.ext {Z : State} {h h' : Heap} {a : Addr} {v0 : Value} {v1 : Value} {v2 : Value} {v3 : Value} {v4 : Value} {v5 : Value} {v6 : Int32} {v7 : Int64} {v8 : Int64} {v9 : Int32} {v10 : Int32} (F : CR Z h a v0 v1 v2 v3 v4 v5 v6 v7 v8 v9 v10) (E : Ext h h') : CR Z h' a v0 v1 v2 v3 v4 v5 v6 v7 v8 v9 v10 := ⟨F.1.ext E, F.2.1.ext E, F.2.2.1.ext E, F.2.2.2.1.ext E, F.2.2.2.2.1.ext E, F.2.2.2.2.2.1.ext E, F.2.2.2.2.2.2.1.ext E, F.2.2.2.2.2.2.2.1.ext E, F.2.2.2.2.2.2.2.2.1.ext E, F.2.2.2.2.2.2.2.2.2.1.ext E, F.2.2.2.2.2.2.2.2.2.2.1.ext E, F.2.2.2.2.2.2.2.2.2.2.2.ext E⟩
theorem CR.keep {Z : State} {h h' : Heap} {a : Addr} {v0 : Value} {v1 : Value} {v2 : Value} {v3 : Value} {v4 : Value} {v5 : Value} {v6 : Int32} {v7 : Int64} {v8 : Int64} {v9 : Int32} {v10 : Int32} {ws : List Addr} (F : CR Z h a v0 v1 v2 v3 v4 v5 v6 v7 v8 v9 v10) (K : Keep h h' ws) (q : a ∉ ws) : CR Z h' a v0 v1 v2 v3 v4 v5 v6 v7 v8 v9 v10 := ⟨F.1.keep K, F.2.1.keep K q, F.2.2.1.keep K q, F.2.2.2.1.keep K q, F.2.2.2.2.1.keep K q, F.2.2.2.2.2.1.keep K q, F.2.2.2.2.2.2.1.keep K q, F.2.2.2.2.2.2.2.1.keep K q, F.2.2.2.2.2.2.2.2.1.keep K q, F.2.2.2.2.2.2.2.2.2.1.keep K q, F.2.2.2.2.2.2.2.2.2.2.1.keep K q, F.2.2.2.2.2.2.2.2.2.2.2.keep K q⟩
theorem CR.lt {Z : State} {h : Heap} {a : Addr} {v0 : Value} {v1 : Value} {v2 : Value} {v3 : Value} {v4 : Value} {v5 : Value} {v6 : Int32} {v7 : Int64} {v8 : Int64} {v9 : Int32} {v10 : Int32} (F : CR Z h a v0 v1 v2 v3 v4 v5 v6 v7 v8 v9 v10) : a < h.size := F.1.lt
theorem CR.wrO {Z : State} {h h' : Heap} {a : Addr} {v0 : Value} {v1 : Value} {v2 : Value} {v3 : Value} {v4 : Value} {v5 : Value} {v6 : Int32} {v7 : Int64} {v8 : Int64} {v9 : Int32} {v10 : Int32} {b : Addr} {sl : Nat} {w : Value} (F : CR Z h a v0 v1 v2 v3 v4 v5 v6 v7 v8 v9 v10) (W : Wr h h' b sl w) (q : a ≠ b) : CR Z h' a v0 v1 v2 v3 v4 v5 v6 v7 v8 v9 v10 := ⟨F.1.wr W, F.2.1.other W (Or.inl q), F.2.2.1.other W (Or.inl q), F.2.2.2.1.other W (Or.inl q), F.2.2.2.2.1.other W (Or.inl q), F.2.2.2.2.2.1.other W (Or.inl q), F.2.2.2.2.2.2.1.other W (Or.inl q), F.2.2.2.2.2.2.2.1.other W (Or.inl q), F.2.2.2.2.2.2.2.2.1.other W (Or.inl q), F.2.2.2.2.2.2.2.2.2.1.other W (Or.inl q), F.2.2.2.2.2.2.2.2.2.2.1.other W (Or.inl q), F.2.2.2.2.2.2.2.2.2.2.2.other W (Or.inl q)⟩
theorem CR.kc {Z : State} {h h' : Heap} {a : Addr} {v0 : Value} {v1 : Value} {v2 : Value} {v3 : Value} {v4 : Value} {v5 : Value} {v6 : Int32} {v7 : Int64} {v8 : Int64} {v9 : Int32} {v10 : Int32} {LL : List (String ⊕ FieldType)} (F : CR Z h a v0 v1 v2 v3 v4 v5 v6 v7 v8 v9 v10) (K : Kc Z h h' LL) (q : NoS Z (.inl "com/example/revisit/revisit/policy/ChangeRates") LL) : CR Z h' a v0 v1 v2 v3 v4 v5 v6 v7 v8 v9 v10 := ⟨exaKc F.1 K, fldKc F.2.1 F.1 K q, fldKc F.2.2.1 F.1 K q, fldKc F.2.2.2.1 F.1 K q, fldKc F.2.2.2.2.1 F.1 K q, fldKc F.2.2.2.2.2.1 F.1 K q, fldKc F.2.2.2.2.2.2.1 F.1 K q, fldKc F.2.2.2.2.2.2.2.1 F.1 K q, fldKc F.2.2.2.2.2.2.2.2.1 F.1 K q, fldKc F.2.2.2.2.2.2.2.2.2.1 F.1 K q, fldKc F.2.2.2.2.2.2.2.2.2.2.1 F.1 K q, fldKc F.2.2.2.2.2.2.2.2.2.2.2 F.1 K q⟩
theorem CR.set_lastFetches {Z : State} {h h' : Heap} {a : Addr} {v0 : Value} {v1 : Value} {v2 : Value} {v3 : Value} {v4 : Value} {v5 : Value} {v6 : Int32} {v7 : Int64} {v8 : Int64} {v9 : Int32} {v10 : Int32} {w : Value} {a0 : Array Value} (hw : ∀ d ∈ tables_1, d.before a0 Z = true) (F : CR Z h a v0 v1 v2 v3 v4 v5 v6 v7 v8 v9 v10) (W : Wr h h' a (Jvm.RoadKit.slotOf Z "com/example/revisit/revisit/policy/ChangeRates" "lastFetches" "[I") w) : CR Z h' a w v1 v2 v3 v4 v5 v6 v7 v8 v9 v10 := ⟨F.1.wr W, F.2.1.same W, F.2.2.1.other W (Or.inr (slot_ne (a0 := a0) (Or.inr (hw _ (List.mem_of_getElem? (i := 54) rfl))) (Or.inr (hw _ (List.mem_of_getElem? (i := 48) rfl))) (by decide) (t := (.array .int)) (t' := (.array .int)) (by decide) (by decide))), F.2.2.2.1.other W (Or.inr (slot_ne (a0 := a0) (Or.inr (hw _ (List.mem_of_getElem? (i := 56) rfl))) (Or.inr (hw _ (List.mem_of_getElem? (i := 48) rfl))) (by decide) (t := (.array .int)) (t' := (.array .int)) (by decide) (by decide))), F.2.2.2.2.1.other W (Or.inr (slot_ne (a0 := a0) (Or.inr (hw _ (List.mem_of_getElem? (i := 59) rfl))) (Or.inr (hw _ (List.mem_of_getElem? (i := 48) rfl))) (by decide) (t := (.array (.object "com/example/revisit/revisit/policy/RateLikelihood"))) (t' := (.array .int)) (by decide) (by decide))), F.2.2.2.2.2.1.other W (Or.inr (slot_ne (a0 := a0) (Or.inr (hw _ (List.mem_of_getElem? (i := 61) rfl))) (Or.inr (hw _ (List.mem_of_getElem? (i := 48) rfl))) (by decide) (t := (.object "com/example/revisit/revisit/policy/RateLikelihood")) (t' := (.array .int)) (by decide) (by decide))), F.2.2.2.2.2.2.1.other W (Or.inr (slot_ne (a0 := a0) (Or.inr (hw _ (List.mem_of_getElem? (i := 64) rfl))) (Or.inr (hw _ (List.mem_of_getElem? (i := 48) rfl))) (by decide) (t := (.array .double)) (t' := (.array .int)) (by decide) (by decide))), F.2.2.2.2.2.2.2.1.other W (Or.inr (slot_ne (a0 := a0) (Or.inl (hw _ (List.mem_of_getElem? (i := 103) rfl))) (Or.inr (hw _ (List.mem_of_getElem? (i := 48) rfl))) (by decide) (t := .int) (t' := (.array .int)) (by decide) (by decide))), F.2.2.2.2.2.2.2.2.1.other W (Or.inr (slot_ne (a0 := a0) (Or.inl (hw _ (List.mem_of_getElem? (i := 78) rfl))) (Or.inr (hw _ (List.mem_of_getElem? (i := 48) rfl))) (by decide) (t := .long) (t' := (.array .int)) (by decide) (by decide))), F.2.2.2.2.2.2.2.2.2.1.other W (Or.inr (slot_ne (a0 := a0) (Or.inl (hw _ (List.mem_of_getElem? (i := 105) rfl))) (Or.inr (hw _ (List.mem_of_getElem? (i := 48) rfl))) (by decide) (t := .long) (t' := (.array .int)) (by decide) (by decide))), F.2.2.2.2.2.2.2.2.2.2.1.other W (Or.inr (slot_ne (a0 := a0) (Or.inl (hw _ (List.mem_of_getElem? (i := 72) rfl))) (Or.inr (hw _ (List.mem_of_getElem? (i := 48) rfl))) (by decide) (t := .boolean) (t' := (.array .int)) (by decide) (by decide))), F.2.2.2.2.2.2.2.2.2.2.2.other W (Or.inr (slot_ne (a0 := a0) (Or.inl (hw _ (List.mem_of_getElem? (i := 80) rfl))) (Or.inr (hw _ (List.mem_of_getElem? (i := 48) rfl))) (by decide) (t := .boolean) (t' := (.array .int)) (by decide) (by decide)))⟩
theorem CR.set_fetches {Z : State} {h h' : Heap} {a : Addr} {v0 : Value} {v1 : Value} {v2 : Value} {v3 : Value} {v4 : Value} {v5 : Value} {v6 : Int32} {v7 : Int64} {v8 : Int64} {v9 : Int32} {v10 : Int32} {w : Value} {a0 : Array Value} (hw : ∀ d ∈ tables_1, d.before a0 Z = true) (F : CR Z h a v0 v1 v2 v3 v4 v5 v6 v7 v8 v9 v10) (W : Wr h h' a (Jvm.RoadKit.slotOf Z "com/example/revisit/revisit/policy/ChangeRates" "fetches" "[I") w) : CR Z h' a v0 w v2 v3 v4 v5 v6 v7 v8 v9 v10 := ⟨F.1.wr W, F.2.1.other W (Or.inr (slot_ne (a0 := a0) (Or.inr (hw _ (List.mem_of_getElem? (i := 48) rfl))) (Or.inr (hw _ (List.mem_of_getElem? (i := 54) rfl))) (by decide) (t := (.array .int)) (t' := (.array .int)) (by decide) (by decide))), F.2.2.1.same W, F.2.2.2.1.other W (Or.inr (slot_ne (a0 := a0) (Or.inr (hw _ (List.mem_of_getElem? (i := 56) rfl))) (Or.inr (hw _ (List.mem_of_getElem? (i := 54) rfl))) (by decide) (t := (.array .int)) (t' := (.array .int)) (by decide) (by decide))), F.2.2.2.2.1.other W (Or.inr (slot_ne (a0 := a0) (Or.inr (hw _ (List.mem_of_getElem? (i := 59) rfl))) (Or.inr (hw _ (List.mem_of_getElem? (i := 54) rfl))) (by decide) (t := (.array (.object "com/example/revisit/revisit/policy/RateLikelihood"))) (t' := (.array .int)) (by decide) (by decide))), F.2.2.2.2.2.1.other W (Or.inr (slot_ne (a0 := a0) (Or.inr (hw _ (List.mem_of_getElem? (i := 61) rfl))) (Or.inr (hw _ (List.mem_of_getElem? (i := 54) rfl))) (by decide) (t := (.object "com/example/revisit/revisit/policy/RateLikelihood")) (t' := (.array .int)) (by decide) (by decide))), F.2.2.2.2.2.2.1.other W (Or.inr (slot_ne (a0 := a0) (Or.inr (hw _ (List.mem_of_getElem? (i := 64) rfl))) (Or.inr (hw _ (List.mem_of_getElem? (i := 54) rfl))) (by decide) (t := (.array .double)) (t' := (.array .int)) (by decide) (by decide))), F.2.2.2.2.2.2.2.1.other W (Or.inr (slot_ne (a0 := a0) (Or.inl (hw _ (List.mem_of_getElem? (i := 103) rfl))) (Or.inr (hw _ (List.mem_of_getElem? (i := 54) rfl))) (by decide) (t := .int) (t' := (.array .int)) (by decide) (by decide))), F.2.2.2.2.2.2.2.2.1.other W (Or.inr (slot_ne (a0 := a0) (Or.inl (hw _ (List.mem_of_getElem? (i := 78) rfl))) (Or.inr (hw _ (List.mem_of_getElem? (i := 54) rfl))) (by decide) (t := .long) (t' := (.array .int)) (by decide) (by decide))), F.2.2.2.2.2.2.2.2.2.1.other W (Or.inr (slot_ne (a0 := a0) (Or.inl (hw _ (List.mem_of_getElem? (i := 105) rfl))) (Or.inr (hw _ (List.mem_of_getElem? (i := 54) rfl))) (by decide) (t := .long) (t' := (.array .int)) (by decide) (by decide))), F.2.2.2.2.2.2.2.2.2.2.1.other W (Or.inr (slot_ne (a0 := a0) (Or.inl (hw _ (List.mem_of_getElem? (i := 72) rfl))) (Or.inr (hw _ (List.mem_of_getElem? (i := 54) rfl))) (by decide) (t := .boolean) (t' := (.array .int)) (by decide) (by decide))), F.2.2.2.2.2.2.2.2.2.2.2.other W (Or.inr (slot_ne (a0 := a0) (Or.inl (hw _ (List.mem_of_getElem? (i := 80) rfl))) (Or.inr (hw _ (List.mem_of_getElem? (i := 54) rfl))) (by decide) (t := .boolean) (t' := (.array .int)) (by decide) (by decide)))⟩
theorem CR.set_changedFetches {Z : State} {h h' : Heap} {a : Addr} {v0 : Value} {v1 : Value} {v2 : Value} {v3 : Value} {v4 : Value} {v5 : Value} {v6 : Int32} {v7 : Int64} {v8 : Int64} {v9 : Int32} {v10 : Int32} {w : Value} {a0 : Array Value} (hw : ∀ d ∈ tables_1, d.before a0 Z = true) (F : CR Z h a v0 v1 v2 v3 v4 v5 v6 v7 v8 v9 v10) (W : Wr h h' a (Jvm.RoadKit.slotOf Z "com/example/revisit/revisit/policy/ChangeRates" "changedFetches" "[I") w) : CR Z h' a v0 v1 w v3 v4 v5 v6 v7 v8 v9 v10 := ⟨F.1.wr W, F.2.1.other W (Or.inr (slot_ne (a0 := a0) (Or.inr (hw _ (List.mem_of_getElem? (i := 48) rfl))) (Or.inr (hw _ (List.mem_of_getElem? (i := 56) rfl))) (by decide) (t := (.array .int)) (t' := (.array .int)) (by decide) (by decide))), F.2.2.1.other W (Or.inr (slot_ne (a0 := a0) (Or.inr (hw _ (List.mem_of_getElem? (i := 54) rfl))) (Or.inr (hw _ (List.mem_of_getElem? (i := 56) rfl))) (by decide) (t := (.array .int)) (t' := (.array .int)) (by decide) (by decide))), F.2.2.2.1.same W, F.2.2.2.2.1.other W (Or.inr (slot_ne (a0 := a0) (Or.inr (hw _ (List.mem_of_getElem? (i := 59) rfl))) (Or.inr (hw _ (List.mem_of_getElem? (i := 56) rfl))) (by decide) (t := (.array (.object "com/example/revisit/revisit/policy/RateLikelihood"))) (t' := (.array .int)) (by decide) (by decide))), F.2.2.2.2.2.1.other W (Or.inr (slot_ne (a0 := a0) (Or.inr (hw _ (List.mem_of_getElem? (i := 61) rfl))) (Or.inr (hw _ (List.mem_of_getElem? (i := 56) rfl))) (by decide) (t := (.object "com/example/revisit/revisit/policy/RateLikelihood")) (t' := (.array .int)) (by decide) (by decide))), F.2.2.2.2.2.2.1.other W (Or.inr (slot_ne (a0 := a0) (Or.inr (hw _ (List.mem_of_getElem? (i := 64) rfl))) (Or.inr (hw _ (List.mem_of_getElem? (i := 56) rfl))) (by decide) (t := (.array .double)) (t' := (.array .int)) (by decide) (by decide))), F.2.2.2.2.2.2.2.1.other W (Or.inr (slot_ne (a0 := a0) (Or.inl (hw _ (List.mem_of_getElem? (i := 103) rfl))) (Or.inr (hw _ (List.mem_of_getElem? (i := 56) rfl))) (by decide) (t := .int) (t' := (.array .int)) (by decide) (by decide))), F.2.2.2.2.2.2.2.2.1.other W (Or.inr (slot_ne (a0 := a0) (Or.inl (hw _ (List.mem_of_getElem? (i := 78) rfl))) (Or.inr (hw _ (List.mem_of_getElem? (i := 56) rfl))) (by decide) (t := .long) (t' := (.array .int)) (by decide) (by decide))), F.2.2.2.2.2.2.2.2.2.1.other W (Or.inr (slot_ne (a0 := a0) (Or.inl (hw _ (List.mem_of_getElem? (i := 105) rfl))) (Or.inr (hw _ (List.mem_of_getElem? (i := 56) rfl))) (by decide) (t := .long) (t' := (.array .int)) (by decide) (by decide))), F.2.2.2.2.2.2.2.2.2.2.1.other W (Or.inr (slot_ne (a0 := a0) (Or.inl (hw _ (List.mem_of_getElem? (i := 72) rfl))) (Or.inr (hw _ (List.mem_of_getElem? (i := 56) rfl))) (by decide) (t := .boolean) (t' := (.array .int)) (by decide) (by decide))), F.2.2.2.2.2.2.2.2.2.2.2.other W (Or.inr (slot_ne (a0 := a0) (Or.inl (hw _ (List.mem_of_getElem? (i := 80) rfl))) (Or.inr (hw _ (List.mem_of_getElem? (i := 56) rfl))) (by decide) (t := .boolean) (t' := (.array .int)) (by decide) (by decide)))⟩
theorem CR.set_likelihoods {Z : State} {h h' : Heap} {a : Addr} {v0 : Value} {v1 : Value} {v2 : Value} {v3 : Value} {v4 : Value} {v5 : Value} {v6 : Int32} {v7 : Int64} {v8 : Int64} {v9 : Int32} {v10 : Int32} {w : Value} {a0 : Array Value} (hw : ∀ d ∈ tables_1, d.before a0 Z = true) (F : CR Z h a v0 v1 v2 v3 v4 v5 v6 v7 v8 v9 v10) (W : Wr h h' a (Jvm.RoadKit.slotOf Z "com/example/revisit/revisit/policy/ChangeRates" "likelihoods" "[Lcom/example/revisit/revisit/policy/RateLikelihood;") w) : CR Z h' a v0 v1 v2 w v4 v5 v6 v7 v8 v9 v10 := ⟨F.1.wr W, F.2.1.other W (Or.inr (slot_ne (a0 := a0) (Or.inr (hw _ (List.mem_of_getElem? (i := 48) rfl))) (Or.inr (hw _ (List.mem_of_getElem? (i := 59) rfl))) (by decide) (t := (.array .int)) (t' := (.array (.object "com/example/revisit/revisit/policy/RateLikelihood"))) (by decide) (by decide))), F.2.2.1.other W (Or.inr (slot_ne (a0 := a0) (Or.inr (hw _ (List.mem_of_getElem? (i := 54) rfl))) (Or.inr (hw _ (List.mem_of_getElem? (i := 59) rfl))) (by decide) (t := (.array .int)) (t' := (.array (.object "com/example/revisit/revisit/policy/RateLikelihood"))) (by decide) (by decide))), F.2.2.2.1.other W (Or.inr (slot_ne (a0 := a0) (Or.inr (hw _ (List.mem_of_getElem? (i := 56) rfl))) (Or.inr (hw _ (List.mem_of_getElem? (i := 59) rfl))) (by decide) (t := (.array .int)) (t' := (.array (.object "com/example/revisit/revisit/policy/RateLikelihood"))) (by decide) (by decide))), F.2.2.2.2.1.same W, F.2.2.2.2.2.1.other W (Or.inr (slot_ne (a0 := a0) (Or.inr (hw _ (List.mem_of_getElem? (i := 61) rfl))) (Or.inr (hw _ (List.mem_of_getElem? (i := 59) rfl))) (by decide) (t := (.object "com/example/revisit/revisit/policy/RateLikelihood")) (t' := (.array (.object "com/example/revisit/revisit/policy/RateLikelihood"))) (by decide) (by decide))), F.2.2.2.2.2.2.1.other W (Or.inr (slot_ne (a0 := a0) (Or.inr (hw _ (List.mem_of_getElem? (i := 64) rfl))) (Or.inr (hw _ (List.mem_of_getElem? (i := 59) rfl))) (by decide) (t := (.array .double)) (t' := (.array (.object "com/example/revisit/revisit/policy/RateLikelihood"))) (by decide) (by decide))), F.2.2.2.2.2.2.2.1.other W (Or.inr (slot_ne (a0 := a0) (Or.inl (hw _ (List.mem_of_getElem? (i := 103) rfl))) (Or.inr (hw _ (List.mem_of_getElem? (i := 59) rfl))) (by decide) (t := .int) (t' := (.array (.object "com/example/revisit/revisit/policy/RateLikelihood"))) (by decide) (by decide))), F.2.2.2.2.2.2.2.2.1.other W (Or.inr (slot_ne (a0 := a0) (Or.inl (hw _ (List.mem_of_getElem? (i := 78) rfl))) (Or.inr (hw _ (List.mem_of_getElem? (i := 59) rfl))) (by decide) (t := .long) (t' := (.array (.object "com/example/revisit/revisit/policy/RateLikelihood"))) (by decide) (by decide))), F.2.2.2.2.2.2.2.2.2.1.other W (Or.inr (slot_ne (a0 := a0) (Or.inl (hw _ (List.mem_of_getElem? (i := 105) rfl))) (Or.inr (hw _ (List.mem_of_getElem? (i := 59) rfl))) (by decide) (t := .long) (t' := (.array (.object "com/example/revisit/revisit/policy/RateLikelihood"))) (by decide) (by decide))), F.2.2.2.2.2.2.2.2.2.2.1.other W (Or.inr (slot_ne (a0 := a0) (Or.inl (hw _ (List.mem_of_getElem? (i := 72) rfl))) (Or.inr (hw _ (List.mem_of_getElem? (i := 59) rfl))) (by decide) (t := .boolean) (t' := (.array (.object "com/example/revisit/revisit/policy/RateLikelihood"))) (by decide) (by decide))), F.2.2.2.2.2.2.2.2.2.2.2.other W (Or.inr (slot_ne (a0 := a0) (Or.inl (hw _ (List.mem_of_getElem? (i := 80) rfl))) (Or.inr (hw _ (List.mem_of_getElem? (i := 59) rfl))) (by decide) (t := .boolean) (t' := (.array (.object "com/example/revisit/revisit/policy/RateLikelihood"))) (by decide) (by decide)))⟩
theorem CR.set_pooled {Z : State} {h h' : Heap} {a : Addr} {v0 : Value} {v1 : Value} {v2 : Value} {v3 : Value} {v4 : Value} {v5 : Value} {v6 : Int32} {v7 : Int64} {v8 : Int64} {v9 : Int32} {v10 : Int32} {w : Value} {a0 : Array Value} (hw : ∀ d ∈ tables_1, d.before a0 Z = true) (F : CR Z h a v0 v1 v2 v3 v4 v5 v6 v7 v8 v9 v10) (W : Wr h h' a (Jvm.RoadKit.slotOf Z "com/example/revisit/revisit/policy/ChangeRates" "pooled" "Lcom/example/revisit/revisit/policy/RateLikelihood;") w) : CR Z h' a v0 v1 v2 v3 w v5 v6 v7 v8 v9 v10 := ⟨F.1.wr W, F.2.1.other W (Or.inr (slot_ne (a0 := a0) (Or.inr (hw _ (List.mem_of_getElem? (i := 48) rfl))) (Or.inr (hw _ (List.mem_of_getElem? (i := 61) rfl))) (by decide) (t := (.array .int)) (t' := (.object "com/example/revisit/revisit/policy/RateLikelihood")) (by decide) (by decide))), F.2.2.1.other W (Or.inr (slot_ne (a0 := a0) (Or.inr (hw _ (List.mem_of_getElem? (i := 54) rfl))) (Or.inr (hw _ (List.mem_of_getElem? (i := 61) rfl))) (by decide) (t := (.array .int)) (t' := (.object "com/example/revisit/revisit/policy/RateLikelihood")) (by decide) (by decide))), F.2.2.2.1.other W (Or.inr (slot_ne (a0 := a0) (Or.inr (hw _ (List.mem_of_getElem? (i := 56) rfl))) (Or.inr (hw _ (List.mem_of_getElem? (i := 61) rfl))) (by decide) (t := (.array .int)) (t' := (.object "com/example/revisit/revisit/policy/RateLikelihood")) (by decide) (by decide))), F.2.2.2.2.1.other W (Or.inr (slot_ne (a0 := a0) (Or.inr (hw _ (List.mem_of_getElem? (i := 59) rfl))) (Or.inr (hw _ (List.mem_of_getElem? (i := 61) rfl))) (by decide) (t := (.array (.object "com/example/revisit/revisit/policy/RateLikelihood"))) (t' := (.object "com/example/revisit/revisit/policy/RateLikelihood")) (by decide) (by decide))), F.2.2.2.2.2.1.same W, F.2.2.2.2.2.2.1.other W (Or.inr (slot_ne (a0 := a0) (Or.inr (hw _ (List.mem_of_getElem? (i := 64) rfl))) (Or.inr (hw _ (List.mem_of_getElem? (i := 61) rfl))) (by decide) (t := (.array .double)) (t' := (.object "com/example/revisit/revisit/policy/RateLikelihood")) (by decide) (by decide))), F.2.2.2.2.2.2.2.1.other W (Or.inr (slot_ne (a0 := a0) (Or.inl (hw _ (List.mem_of_getElem? (i := 103) rfl))) (Or.inr (hw _ (List.mem_of_getElem? (i := 61) rfl))) (by decide) (t := .int) (t' := (.object "com/example/revisit/revisit/policy/RateLikelihood")) (by decide) (by decide))), F.2.2.2.2.2.2.2.2.1.other W (Or.inr (slot_ne (a0 := a0) (Or.inl (hw _ (List.mem_of_getElem? (i := 78) rfl))) (Or.inr (hw _ (List.mem_of_getElem? (i := 61) rfl))) (by decide) (t := .long) (t' := (.object "com/example/revisit/revisit/policy/RateLikelihood")) (by decide) (by decide))), F.2.2.2.2.2.2.2.2.2.1.other W (Or.inr (slot_ne (a0 := a0) (Or.inl (hw _ (List.mem_of_getElem? (i := 105) rfl))) (Or.inr (hw _ (List.mem_of_getElem? (i := 61) rfl))) (by decide) (t := .long) (t' := (.object "com/example/revisit/revisit/policy/RateLikelihood")) (by decide) (by decide))), F.2.2.2.2.2.2.2.2.2.2.1.other W (Or.inr (slot_ne (a0 := a0) (Or.inl (hw _ (List.mem_of_getElem? (i := 72) rfl))) (Or.inr (hw _ (List.mem_of_getElem? (i := 61) rfl))) (by decide) (t := .boolean) (t' := (.object "com/example/revisit/revisit/policy/RateLikelihood")) (by decide) (by decide))), F.2.2.2.2.2.2.2.2.2.2.2.other W (Or.inr (slot_ne (a0 := a0) (Or.inl (hw _ (List.mem_of_getElem? (i := 80) rfl))) (Or.inr (hw _ (List.mem_of_getElem? (i := 61) rfl))) (by decide) (t := .boolean) (t' := (.object "com/example/revisit/revisit/policy/RateLikelihood")) (by decide) (by decide)))⟩
theorem CR.set_dispersionTerms {Z : State} {h h' : Heap} {a : Addr} {v0 : Value} {v1 : Value} {v2 : Value} {v3 : Value} {v4 : Value} {v5 : Value} {v6 : Int32} {v7 : Int64} {v8 : Int64} {v9 : Int32} {v10 : Int32} {w : Value} {a0 : Array Value} (hw : ∀ d ∈ tables_1, d.before a0 Z = true) (F : CR Z h a v0 v1 v2 v3 v4 v5 v6 v7 v8 v9 v10) (W : Wr h h' a (Jvm.RoadKit.slotOf Z "com/example/revisit/revisit/policy/ChangeRates" "dispersionTerms" "[D") w) : CR Z h' a v0 v1 v2 v3 v4 w v6 v7 v8 v9 v10 := ⟨F.1.wr W, F.2.1.other W (Or.inr (slot_ne (a0 := a0) (Or.inr (hw _ (List.mem_of_getElem? (i := 48) rfl))) (Or.inr (hw _ (List.mem_of_getElem? (i := 64) rfl))) (by decide) (t := (.array .int)) (t' := (.array .double)) (by decide) (by decide))), F.2.2.1.other W (Or.inr (slot_ne (a0 := a0) (Or.inr (hw _ (List.mem_of_getElem? (i := 54) rfl))) (Or.inr (hw _ (List.mem_of_getElem? (i := 64) rfl))) (by decide) (t := (.array .int)) (t' := (.array .double)) (by decide) (by decide))), F.2.2.2.1.other W (Or.inr (slot_ne (a0 := a0) (Or.inr (hw _ (List.mem_of_getElem? (i := 56) rfl))) (Or.inr (hw _ (List.mem_of_getElem? (i := 64) rfl))) (by decide) (t := (.array .int)) (t' := (.array .double)) (by decide) (by decide))), F.2.2.2.2.1.other W (Or.inr (slot_ne (a0 := a0) (Or.inr (hw _ (List.mem_of_getElem? (i := 59) rfl))) (Or.inr (hw _ (List.mem_of_getElem? (i := 64) rfl))) (by decide) (t := (.array (.object "com/example/revisit/revisit/policy/RateLikelihood"))) (t' := (.array .double)) (by decide) (by decide))), F.2.2.2.2.2.1.other W (Or.inr (slot_ne (a0 := a0) (Or.inr (hw _ (List.mem_of_getElem? (i := 61) rfl))) (Or.inr (hw _ (List.mem_of_getElem? (i := 64) rfl))) (by decide) (t := (.object "com/example/revisit/revisit/policy/RateLikelihood")) (t' := (.array .double)) (by decide) (by decide))), F.2.2.2.2.2.2.1.same W, F.2.2.2.2.2.2.2.1.other W (Or.inr (slot_ne (a0 := a0) (Or.inl (hw _ (List.mem_of_getElem? (i := 103) rfl))) (Or.inr (hw _ (List.mem_of_getElem? (i := 64) rfl))) (by decide) (t := .int) (t' := (.array .double)) (by decide) (by decide))), F.2.2.2.2.2.2.2.2.1.other W (Or.inr (slot_ne (a0 := a0) (Or.inl (hw _ (List.mem_of_getElem? (i := 78) rfl))) (Or.inr (hw _ (List.mem_of_getElem? (i := 64) rfl))) (by decide) (t := .long) (t' := (.array .double)) (by decide) (by decide))), F.2.2.2.2.2.2.2.2.2.1.other W (Or.inr (slot_ne (a0 := a0) (Or.inl (hw _ (List.mem_of_getElem? (i := 105) rfl))) (Or.inr (hw _ (List.mem_of_getElem? (i := 64) rfl))) (by decide) (t := .long) (t' := (.array .double)) (by decide) (by decide))), F.2.2.2.2.2.2.2.2.2.2.1.other W (Or.inr (slot_ne (a0 := a0) (Or.inl (hw _ (List.mem_of_getElem? (i := 72) rfl))) (Or.inr (hw _ (List.mem_of_getElem? (i := 64) rfl))) (by decide) (t := .boolean) (t' := (.array .double)) (by decide) (by decide))), F.2.2.2.2.2.2.2.2.2.2.2.other W (Or.inr (slot_ne (a0 := a0) (Or.inl (hw _ (List.mem_of_getElem? (i := 80) rfl))) (Or.inr (hw _ (List.mem_of_getElem? (i := 64) rfl))) (by decide) (t := .boolean) (t' := (.array .double)) (by decide) (by decide)))⟩
theorem CR.set_fetchedSources {Z : State} {h h' : Heap} {a : Addr} {v0 : Value} {v1 : Value} {v2 : Value} {v3 : Value} {v4 : Value} {v5 : Value} {v6 : Int32} {v7 : Int64} {v8 : Int64} {v9 : Int32} {v10 : Int32} {w : Int32} {a0 : Array Value} (hw : ∀ d ∈ tables_1, d.before a0 Z = true) (F : CR Z h a v0 v1 v2 v3 v4 v5 v6 v7 v8 v9 v10) (W : Wr h h' a (Jvm.RoadKit.slotOf Z "com/example/revisit/revisit/policy/ChangeRates" "fetchedSources" "I") (.int w)) : CR Z h' a v0 v1 v2 v3 v4 v5 w v7 v8 v9 v10 := ⟨F.1.wr W, F.2.1.other W (Or.inr (slot_ne (a0 := a0) (Or.inr (hw _ (List.mem_of_getElem? (i := 48) rfl))) (Or.inl (hw _ (List.mem_of_getElem? (i := 103) rfl))) (by decide) (t := (.array .int)) (t' := .int) (by decide) (by decide))), F.2.2.1.other W (Or.inr (slot_ne (a0 := a0) (Or.inr (hw _ (List.mem_of_getElem? (i := 54) rfl))) (Or.inl (hw _ (List.mem_of_getElem? (i := 103) rfl))) (by decide) (t := (.array .int)) (t' := .int) (by decide) (by decide))), F.2.2.2.1.other W (Or.inr (slot_ne (a0 := a0) (Or.inr (hw _ (List.mem_of_getElem? (i := 56) rfl))) (Or.inl (hw _ (List.mem_of_getElem? (i := 103) rfl))) (by decide) (t := (.array .int)) (t' := .int) (by decide) (by decide))), F.2.2.2.2.1.other W (Or.inr (slot_ne (a0 := a0) (Or.inr (hw _ (List.mem_of_getElem? (i := 59) rfl))) (Or.inl (hw _ (List.mem_of_getElem? (i := 103) rfl))) (by decide) (t := (.array (.object "com/example/revisit/revisit/policy/RateLikelihood"))) (t' := .int) (by decide) (by decide))), F.2.2.2.2.2.1.other W (Or.inr (slot_ne (a0 := a0) (Or.inr (hw _ (List.mem_of_getElem? (i := 61) rfl))) (Or.inl (hw _ (List.mem_of_getElem? (i := 103) rfl))) (by decide) (t := (.object "com/example/revisit/revisit/policy/RateLikelihood")) (t' := .int) (by decide) (by decide))), F.2.2.2.2.2.2.1.other W (Or.inr (slot_ne (a0 := a0) (Or.inr (hw _ (List.mem_of_getElem? (i := 64) rfl))) (Or.inl (hw _ (List.mem_of_getElem? (i := 103) rfl))) (by decide) (t := (.array .double)) (t' := .int) (by decide) (by decide))), F.2.2.2.2.2.2.2.1.same W, F.2.2.2.2.2.2.2.2.1.other W (Or.inr (slot_ne (a0 := a0) (Or.inl (hw _ (List.mem_of_getElem? (i := 78) rfl))) (Or.inl (hw _ (List.mem_of_getElem? (i := 103) rfl))) (by decide) (t := .long) (t' := .int) (by decide) (by decide))), F.2.2.2.2.2.2.2.2.2.1.other W (Or.inr (slot_ne (a0 := a0) (Or.inl (hw _ (List.mem_of_getElem? (i := 105) rfl))) (Or.inl (hw _ (List.mem_of_getElem? (i := 103) rfl))) (by decide) (t := .long) (t' := .int) (by decide) (by decide))), F.2.2.2.2.2.2.2.2.2.2.1.other W (Or.inr (slot_ne (a0 := a0) (Or.inl (hw _ (List.mem_of_getElem? (i := 72) rfl))) (Or.inl (hw _ (List.mem_of_getElem? (i := 103) rfl))) (by decide) (t := .boolean) (t' := .int) (by decide) (by decide))), F.2.2.2.2.2.2.2.2.2.2.2.other W (Or.inr (slot_ne (a0 := a0) (Or.inl (hw _ (List.mem_of_getElem? (i := 80) rfl))) (Or.inl (hw _ (List.mem_of_getElem? (i := 103) rfl))) (by decide) (t := .boolean) (t' := .int) (by decide) (by decide)))⟩
theorem CR.set_pooledChangedFetches {Z : State} {h h' : Heap} {a : Addr} {v0 : Value} {v1 : Value} {v2 : Value} {v3 : Value} {v4 : Value} {v5 : Value} {v6 : Int32} {v7 : Int64} {v8 : Int64} {v9 : Int32} {v10 : Int32} {w : Int64} {a0 : Array Value} (hw : ∀ d ∈ tables_1, d.before a0 Z = true) (F : CR Z h a v0 v1 v2 v3 v4 v5 v6 v7 v8 v9 v10) (W : Wr h h' a (Jvm.RoadKit.slotOf Z "com/example/revisit/revisit/policy/ChangeRates" "pooledChangedFetches" "J") (.long w)) : CR Z h' a v0 v1 v2 v3 v4 v5 v6 w v8 v9 v10 := ⟨F.1.wr W, F.2.1.other W (Or.inr (slot_ne (a0 := a0) (Or.inr (hw _ (List.mem_of_getElem? (i := 48) rfl))) (Or.inl (hw _ (List.mem_of_getElem? (i := 78) rfl))) (by decide) (t := (.array .int)) (t' := .long) (by decide) (by decide))), F.2.2.1.other W (Or.inr (slot_ne (a0 := a0) (Or.inr (hw _ (List.mem_of_getElem? (i := 54) rfl))) (Or.inl (hw _ (List.mem_of_getElem? (i := 78) rfl))) (by decide) (t := (.array .int)) (t' := .long) (by decide) (by decide))), F.2.2.2.1.other W (Or.inr (slot_ne (a0 := a0) (Or.inr (hw _ (List.mem_of_getElem? (i := 56) rfl))) (Or.inl (hw _ (List.mem_of_getElem? (i := 78) rfl))) (by decide) (t := (.array .int)) (t' := .long) (by decide) (by decide))), F.2.2.2.2.1.other W (Or.inr (slot_ne (a0 := a0) (Or.inr (hw _ (List.mem_of_getElem? (i := 59) rfl))) (Or.inl (hw _ (List.mem_of_getElem? (i := 78) rfl))) (by decide) (t := (.array (.object "com/example/revisit/revisit/policy/RateLikelihood"))) (t' := .long) (by decide) (by decide))), F.2.2.2.2.2.1.other W (Or.inr (slot_ne (a0 := a0) (Or.inr (hw _ (List.mem_of_getElem? (i := 61) rfl))) (Or.inl (hw _ (List.mem_of_getElem? (i := 78) rfl))) (by decide) (t := (.object "com/example/revisit/revisit/policy/RateLikelihood")) (t' := .long) (by decide) (by decide))), F.2.2.2.2.2.2.1.other W (Or.inr (slot_ne (a0 := a0) (Or.inr (hw _ (List.mem_of_getElem? (i := 64) rfl))) (Or.inl (hw _ (List.mem_of_getElem? (i := 78) rfl))) (by decide) (t := (.array .double)) (t' := .long) (by decide) (by decide))), F.2.2.2.2.2.2.2.1.other W (Or.inr (slot_ne (a0 := a0) (Or.inl (hw _ (List.mem_of_getElem? (i := 103) rfl))) (Or.inl (hw _ (List.mem_of_getElem? (i := 78) rfl))) (by decide) (t := .int) (t' := .long) (by decide) (by decide))), F.2.2.2.2.2.2.2.2.1.same W, F.2.2.2.2.2.2.2.2.2.1.other W (Or.inr (slot_ne (a0 := a0) (Or.inl (hw _ (List.mem_of_getElem? (i := 105) rfl))) (Or.inl (hw _ (List.mem_of_getElem? (i := 78) rfl))) (by decide) (t := .long) (t' := .long) (by decide) (by decide))), F.2.2.2.2.2.2.2.2.2.2.1.other W (Or.inr (slot_ne (a0 := a0) (Or.inl (hw _ (List.mem_of_getElem? (i := 72) rfl))) (Or.inl (hw _ (List.mem_of_getElem? (i := 78) rfl))) (by decide) (t := .boolean) (t' := .long) (by decide) (by decide))), F.2.2.2.2.2.2.2.2.2.2.2.other W (Or.inr (slot_ne (a0 := a0) (Or.inl (hw _ (List.mem_of_getElem? (i := 80) rfl))) (Or.inl (hw _ (List.mem_of_getElem? (i := 78) rfl))) (by decide) (t := .boolean) (t' := .long) (by decide) (by decide)))⟩
theorem CR.set_pooledSlots {Z : State} {h h' : Heap} {a : Addr} {v0 : Value} {v1 : Value} {v2 : Value} {v3 : Value} {v4 : Value} {v5 : Value} {v6 : Int32} {v7 : Int64} {v8 : Int64} {v9 : Int32} {v10 : Int32} {w : Int64} {a0 : Array Value} (hw : ∀ d ∈ tables_1, d.before a0 Z = true) (F : CR Z h a v0 v1 v2 v3 v4 v5 v6 v7 v8 v9 v10) (W : Wr h h' a (Jvm.RoadKit.slotOf Z "com/example/revisit/revisit/policy/ChangeRates" "pooledSlots" "J") (.long w)) : CR Z h' a v0 v1 v2 v3 v4 v5 v6 v7 w v9 v10 := ⟨F.1.wr W, F.2.1.other W (Or.inr (slot_ne (a0 := a0) (Or.inr (hw _ (List.mem_of_getElem? (i := 48) rfl))) (Or.inl (hw _ (List.mem_of_getElem? (i := 105) rfl))) (by decide) (t := (.array .int)) (t' := .long) (by decide) (by decide))), F.2.2.1.other W (Or.inr (slot_ne (a0 := a0) (Or.inr (hw _ (List.mem_of_getElem? (i := 54) rfl))) (Or.inl (hw _ (List.mem_of_getElem? (i := 105) rfl))) (by decide) (t := (.array .int)) (t' := .long) (by decide) (by decide))), F.2.2.2.1.other W (Or.inr (slot_ne (a0 := a0) (Or.inr (hw _ (List.mem_of_getElem? (i := 56) rfl))) (Or.inl (hw _ (List.mem_of_getElem? (i := 105) rfl))) (by decide) (t := (.array .int)) (t' := .long) (by decide) (by decide))), F.2.2.2.2.1.other W (Or.inr (slot_ne (a0 := a0) (Or.inr (hw _ (List.mem_of_getElem? (i := 59) rfl))) (Or.inl (hw _ (List.mem_of_getElem? (i := 105) rfl))) (by decide) (t := (.array (.object "com/example/revisit/revisit/policy/RateLikelihood"))) (t' := .long) (by decide) (by decide))), F.2.2.2.2.2.1.other W (Or.inr (slot_ne (a0 := a0) (Or.inr (hw _ (List.mem_of_getElem? (i := 61) rfl))) (Or.inl (hw _ (List.mem_of_getElem? (i := 105) rfl))) (by decide) (t := (.object "com/example/revisit/revisit/policy/RateLikelihood")) (t' := .long) (by decide) (by decide))), F.2.2.2.2.2.2.1.other W (Or.inr (slot_ne (a0 := a0) (Or.inr (hw _ (List.mem_of_getElem? (i := 64) rfl))) (Or.inl (hw _ (List.mem_of_getElem? (i := 105) rfl))) (by decide) (t := (.array .double)) (t' := .long) (by decide) (by decide))), F.2.2.2.2.2.2.2.1.other W (Or.inr (slot_ne (a0 := a0) (Or.inl (hw _ (List.mem_of_getElem? (i := 103) rfl))) (Or.inl (hw _ (List.mem_of_getElem? (i := 105) rfl))) (by decide) (t := .int) (t' := .long) (by decide) (by decide))), F.2.2.2.2.2.2.2.2.1.other W (Or.inr (slot_ne (a0 := a0) (Or.inl (hw _ (List.mem_of_getElem? (i := 78) rfl))) (Or.inl (hw _ (List.mem_of_getElem? (i := 105) rfl))) (by decide) (t := .long) (t' := .long) (by decide) (by decide))), F.2.2.2.2.2.2.2.2.2.1.same W, F.2.2.2.2.2.2.2.2.2.2.1.other W (Or.inr (slot_ne (a0 := a0) (Or.inl (hw _ (List.mem_of_getElem? (i := 72) rfl))) (Or.inl (hw _ (List.mem_of_getElem? (i := 105) rfl))) (by decide) (t := .boolean) (t' := .long) (by decide) (by decide))), F.2.2.2.2.2.2.2.2.2.2.2.other W (Or.inr (slot_ne (a0 := a0) (Or.inl (hw _ (List.mem_of_getElem? (i := 80) rfl))) (Or.inl (hw _ (List.mem_of_getElem? (i := 105) rfl))) (by decide) (t := .boolean) (t' := .long) (by decide) (by decide)))⟩
theorem CR.set_alikeKnown {Z : State} {h h' : Heap} {a : Addr} {v0 : Value} {v1 : Value} {v2 : Value} {v3 : Value} {v4 : Value} {v5 : Value} {v6 : Int32} {v7 : Int64} {v8 : Int64} {v9 : Int32} {v10 : Int32} {w : Int32} {a0 : Array Value} (hw : ∀ d ∈ tables_1, d.before a0 Z = true) (F : CR Z h a v0 v1 v2 v3 v4 v5 v6 v7 v8 v9 v10) (W : Wr h h' a (Jvm.RoadKit.slotOf Z "com/example/revisit/revisit/policy/ChangeRates" "alikeKnown" "Z") (.int w)) : CR Z h' a v0 v1 v2 v3 v4 v5 v6 v7 v8 w v10 := ⟨F.1.wr W, F.2.1.other W (Or.inr (slot_ne (a0 := a0) (Or.inr (hw _ (List.mem_of_getElem? (i := 48) rfl))) (Or.inl (hw _ (List.mem_of_getElem? (i := 72) rfl))) (by decide) (t := (.array .int)) (t' := .boolean) (by decide) (by decide))), F.2.2.1.other W (Or.inr (slot_ne (a0 := a0) (Or.inr (hw _ (List.mem_of_getElem? (i := 54) rfl))) (Or.inl (hw _ (List.mem_of_getElem? (i := 72) rfl))) (by decide) (t := (.array .int)) (t' := .boolean) (by decide) (by decide))), F.2.2.2.1.other W (Or.inr (slot_ne (a0 := a0) (Or.inr (hw _ (List.mem_of_getElem? (i := 56) rfl))) (Or.inl (hw _ (List.mem_of_getElem? (i := 72) rfl))) (by decide) (t := (.array .int)) (t' := .boolean) (by decide) (by decide))), F.2.2.2.2.1.other W (Or.inr (slot_ne (a0 := a0) (Or.inr (hw _ (List.mem_of_getElem? (i := 59) rfl))) (Or.inl (hw _ (List.mem_of_getElem? (i := 72) rfl))) (by decide) (t := (.array (.object "com/example/revisit/revisit/policy/RateLikelihood"))) (t' := .boolean) (by decide) (by decide))), F.2.2.2.2.2.1.other W (Or.inr (slot_ne (a0 := a0) (Or.inr (hw _ (List.mem_of_getElem? (i := 61) rfl))) (Or.inl (hw _ (List.mem_of_getElem? (i := 72) rfl))) (by decide) (t := (.object "com/example/revisit/revisit/policy/RateLikelihood")) (t' := .boolean) (by decide) (by decide))), F.2.2.2.2.2.2.1.other W (Or.inr (slot_ne (a0 := a0) (Or.inr (hw _ (List.mem_of_getElem? (i := 64) rfl))) (Or.inl (hw _ (List.mem_of_getElem? (i := 72) rfl))) (by decide) (t := (.array .double)) (t' := .boolean) (by decide) (by decide))), F.2.2.2.2.2.2.2.1.other W (Or.inr (slot_ne (a0 := a0) (Or.inl (hw _ (List.mem_of_getElem? (i := 103) rfl))) (Or.inl (hw _ (List.mem_of_getElem? (i := 72) rfl))) (by decide) (t := .int) (t' := .boolean) (by decide) (by decide))), F.2.2.2.2.2.2.2.2.1.other W (Or.inr (slot_ne (a0 := a0) (Or.inl (hw _ (List.mem_of_getElem? (i := 78) rfl))) (Or.inl (hw _ (List.mem_of_getElem? (i := 72) rfl))) (by decide) (t := .long) (t' := .boolean) (by decide) (by decide))), F.2.2.2.2.2.2.2.2.2.1.other W (Or.inr (slot_ne (a0 := a0) (Or.inl (hw _ (List.mem_of_getElem? (i := 105) rfl))) (Or.inl (hw _ (List.mem_of_getElem? (i := 72) rfl))) (by decide) (t := .long) (t' := .boolean) (by decide) (by decide))), F.2.2.2.2.2.2.2.2.2.2.1.same W, F.2.2.2.2.2.2.2.2.2.2.2.other W (Or.inr (slot_ne (a0 := a0) (Or.inl (hw _ (List.mem_of_getElem? (i := 80) rfl))) (Or.inl (hw _ (List.mem_of_getElem? (i := 72) rfl))) (by decide) (t := .boolean) (t' := .boolean) (by decide) (by decide)))⟩
theorem CR.set_alike {Z : State} {h h' : Heap} {a : Addr} {v0 : Value} {v1 : Value} {v2 : Value} {v3 : Value} {v4 : Value} {v5 : Value} {v6 : Int32} {v7 : Int64} {v8 : Int64} {v9 : Int32} {v10 : Int32} {w : Int32} {a0 : Array Value} (hw : ∀ d ∈ tables_1, d.before a0 Z = true) (F : CR Z h a v0 v1 v2 v3 v4 v5 v6 v7 v8 v9 v10) (W : Wr h h' a (Jvm.RoadKit.slotOf Z "com/example/revisit/revisit/policy/ChangeRates" "alike" "Z") (.int w)) : CR Z h' a v0 v1 v2 v3 v4 v5 v6 v7 v8 v9 w := ⟨F.1.wr W, F.2.1.other W (Or.inr (slot_ne (a0 := a0) (Or.inr (hw _ (List.mem_of_getElem? (i := 48) rfl))) (Or.inl (hw _ (List.mem_of_getElem? (i := 80) rfl))) (by decide) (t := (.array .int)) (t' := .boolean) (by decide) (by decide))), F.2.2.1.other W (Or.inr (slot_ne (a0 := a0) (Or.inr (hw _ (List.mem_of_getElem? (i := 54) rfl))) (Or.inl (hw _ (List.mem_of_getElem? (i := 80) rfl))) (by decide) (t := (.array .int)) (t' := .boolean) (by decide) (by decide))), F.2.2.2.1.other W (Or.inr (slot_ne (a0 := a0) (Or.inr (hw _ (List.mem_of_getElem? (i := 56) rfl))) (Or.inl (hw _ (List.mem_of_getElem? (i := 80) rfl))) (by decide) (t := (.array .int)) (t' := .boolean) (by decide) (by decide))), F.2.2.2.2.1.other W (Or.inr (slot_ne (a0 := a0) (Or.inr (hw _ (List.mem_of_getElem? (i := 59) rfl))) (Or.inl (hw _ (List.mem_of_getElem? (i := 80) rfl))) (by decide) (t := (.array (.object "com/example/revisit/revisit/policy/RateLikelihood"))) (t' := .boolean) (by decide) (by decide))), F.2.2.2.2.2.1.other W (Or.inr (slot_ne (a0 := a0) (Or.inr (hw _ (List.mem_of_getElem? (i := 61) rfl))) (Or.inl (hw _ (List.mem_of_getElem? (i := 80) rfl))) (by decide) (t := (.object "com/example/revisit/revisit/policy/RateLikelihood")) (t' := .boolean) (by decide) (by decide))), F.2.2.2.2.2.2.1.other W (Or.inr (slot_ne (a0 := a0) (Or.inr (hw _ (List.mem_of_getElem? (i := 64) rfl))) (Or.inl (hw _ (List.mem_of_getElem? (i := 80) rfl))) (by decide) (t := (.array .double)) (t' := .boolean) (by decide) (by decide))), F.2.2.2.2.2.2.2.1.other W (Or.inr (slot_ne (a0 := a0) (Or.inl (hw _ (List.mem_of_getElem? (i := 103) rfl))) (Or.inl (hw _ (List.mem_of_getElem? (i := 80) rfl))) (by decide) (t := .int) (t' := .boolean) (by decide) (by decide))), F.2.2.2.2.2.2.2.2.1.other W (Or.inr (slot_ne (a0 := a0) (Or.inl (hw _ (List.mem_of_getElem? (i := 78) rfl))) (Or.inl (hw _ (List.mem_of_getElem? (i := 80) rfl))) (by decide) (t := .long) (t' := .boolean) (by decide) (by decide))), F.2.2.2.2.2.2.2.2.2.1.other W (Or.inr (slot_ne (a0 := a0) (Or.inl (hw _ (List.mem_of_getElem? (i := 105) rfl))) (Or.inl (hw _ (List.mem_of_getElem? (i := 80) rfl))) (by decide) (t := .long) (t' := .boolean) (by decide) (by decide))), F.2.2.2.2.2.2.2.2.2.2.1.other W (Or.inr (slot_ne (a0 := a0) (Or.inl (hw _ (List.mem_of_getElem? (i := 72) rfl))) (Or.inl (hw _ (List.mem_of_getElem? (i := 80) rfl))) (by decide) (t := .boolean) (t' := .boolean) (by decide) (by decide))), F.2.2.2.2.2.2.2.2.2.2.2.same W⟩
theorem own_inj {a b : Int32} (h : a.toInt = b.toInt) : a = b := Int32.toInt_inj.mp h
theorem own_rngI (x : Int32) : -2147483648 ≤ x.toInt ∧ x.toInt < 2147483648 := ⟨x.le_toInt, x.toInt_lt⟩
theorem own_add1 {i : Int32} {k : Nat} (h : i.toInt = (k : Int)) (hk : k < 100000) : (i + 1).toInt = ((k + 1 : Nat) : Int) := by
  have q := c_iadd i 1
  have r := rng32 (i + 1)
  have o : (1 : Int32).toInt = 1 := rfl
  omega
theorem own_oldz {Z : State} {n0 : Nat} {h : Heap} (O : Old Z n0 h) : n0 ≤ h.size := O.1 ▸ O.2.1
theorem d1_0 : decode method_3_code 0 = .ok (.iload_n 0, 1) := by decide +kernel
theorem d1_1 : decode method_3_code 1 = .ok (.iconst 2, 1) := by decide +kernel
theorem d1_2 : decode method_3_code 2 = .ok (.if_icmp .ne 8, 3) := by decide +kernel
theorem d1_5 : decode method_3_code 5 = .ok (.iload_n 2, 1) := by decide +kernel
theorem d1_6 : decode method_3_code 6 = .ok (.ldc 39, 2) := by decide +kernel
theorem d1_8 : decode method_3_code 8 = .ok (.iand, 1) := by decide +kernel
theorem d1_9 : decode method_3_code 9 = .ok (.ireturn, 1) := by decide +kernel
theorem d1_10 : decode method_3_code 10 = .ok (.iload_n 1, 1) := by decide +kernel
theorem d1_11 : decode method_3_code 11 = .ok (.ldc 40, 2) := by decide +kernel
theorem d1_13 : decode method_3_code 13 = .ok (.iand, 1) := by decide +kernel
theorem d1_14 : decode method_3_code 14 = .ok (.ireturn, 1) := by decide +kernel
theorem pn_1 : plainFor (⟨"com/example/revisit/revisit/policy/ChangeRatesAlikePinLaw", "firstSlot", "(III)I"⟩ : MethodName) = true := by first | exact plainFor_of_name (by first | (simp [plainName, overriddenIn]; done) | decide +kernel) | decide +kernel
theorem ef_1 (m : MethodId) (p1 : Int32) (p2 : Int32) (p3 : Int32) : entryFrame m #[(.int p1), (.int p2), (.int p3)] 3 = mkF m 0 #[.val (.int p1), .val (.int p2), .val (.int p3)] [] := by first | (simp [entryFrame, argsToLocals, Value.category, Array.replicate]; done) | rfl
theorem pd_1 : parseMethodDescriptor "(III)I" = some ⟨[.int, .int, .int], some .int⟩ := by decide +kernel
def Q1 (Z : State) (p1 : Int32) (p2 : Int32) (p3 : Int32)  (h0 : Heap) (n0 : Nat) (v : Option Value) (h : Heap) (L : List Loc) : Prop := v = some (.int (if p1 = 2 then p3 &&& 268435455 else p2 &&& 536870911)) ∧ Fr n0 L ∧ h0 = h
theorem rm1 (l : Launch) (Z : State) (a0 : Array Value) (hw : ∀ d ∈ tables_1, d.before a0 Z = true) (ws : List Jvm.Cond) (p1 : Int32) (p2 : Int32) (p3 : Int32)  (h0 : Heap) (n0 : Nat) (Z0 : n0 ≤ h0.size)  :
    MetFree l (⟨"com/example/revisit/revisit/policy/ChangeRatesAlikePinLaw", "firstSlot", "(III)I"⟩ : MethodName) (head1 (Jvm.Cond.code (⟨"com/example/revisit/revisit/policy/ChangeRatesAlikePinLaw", "firstSlot", "(III)I"⟩ : MethodName) method_3_code 3 (some .int) :: ws) ({ frames := 0, cells := 0, slots := 0, locals := 0 } : Room)) (fun a U => a = #[(.int p1), (.int p2), (.int p3)] ∧ Z.Warmed39 U.vm ∧ U.heap = h0) (fun _ _ _ _ _ => True) (fun _ U o U' => ∃ v L, o = .returned v ∧ (Q1 Z p1 p2 p3  h0 n0) v U'.heap L ∧ FrameEnd U o U' L ({ frames := 0, cells := 0, slots := 0, locals := 0 } : Room).cells ({ frames := 0, cells := 0, slots := 0, locals := 0 } : Room).slots) := by
  refine MetFree.of_bodySF pn_1 hisR ?_
  intro p e s m args below meth c s₁ Bd hml0 hP hK
  obtain ⟨rfl, hZ, hh⟩ := hP
  have hx := Bd.exec
  have hby := Bd.bytes
  have hml : c.maxLocals = 3 := hml0
  have hown : s.vm.findClass "com/example/revisit/revisit/policy/ChangeRatesAlikePinLaw" = some m.cls := findClass_of_methodNamed Bd.named
  have hnm := (name_of_methodNamed Bd.named Bd.method).1
  have X0 : Stand p l e ({ frames := 0, cells := 0, slots := 0, locals := 0 } : Room) s m #[(.int p1), (.int p2), (.int p3)] below meth c s₁ [] 0 0 := Stand.of_body Bd
  have e0 : s₁.heap = h0 := by rw [← hh, Bd.state]; rfl
  have N0 := Fr.nil n0
  have lk : meth.locks = false := BodyLoose.notSynchronized Bd
  have hret := Bd.returns
  show Ends p e below (EF s ({ frames := 0, cells := 0, slots := 0, locals := 0 } : Room).cells ({ frames := 0, cells := 0, slots := 0, locals := 0 } : Room).slots) (Q1 Z p1 p2 p3  h0 n0) (s₁.setTop (entryFrame m #[(.int p1), (.int p2), (.int p3)] 3))
  refine Ends.cast (ef_1 m p1 p2 p3) ?_
  refine own_iloadN (n := 1) X0 hx (hb hby d1_0) rfl rfl ?_
  refine own_iconst (n := 2) X0 hx (2 : Int32) (hb hby d1_1) rfl rfl ?_
  by_cases c2 : p1 = (2 : Int32)
  · refine own_icmpNo (n := 5) X0 hx (hb hby d1_2) (Jvm.Free.XT.ii_ne_f c2) rfl ?_
    refine own_iloadN (n := 6) X0 hx (hb hby d1_5) rfl rfl ?_
    refine own_ldc (n := 8) X0 hx hZ hown (hw _ (List.mem_of_getElem? (i := 111) rfl)) (hb hby d1_6) rfl ?_
    refine own_iand (n := 9) X0 hx (hb hby d1_8) rfl ?_
    refine own_retI X0 hx lk hret (hb hby d1_9) (by decide) (by decide) ?_
    rw [e0]
    exact ⟨by rw [if_pos c2], N0, rfl⟩
  · refine own_icmpYes (n := 10) X0 hx (hb hby d1_2) (Jvm.Free.XT.ii_ne_t c2) (by decide) (by decide) ?_
    refine own_iloadN (n := 11) X0 hx (hb hby d1_10) rfl rfl ?_
    refine own_ldc (n := 13) X0 hx hZ hown (hw _ (List.mem_of_getElem? (i := 4) rfl)) (hb hby d1_11) rfl ?_
    refine own_iand (n := 14) X0 hx (hb hby d1_13) rfl ?_
    refine own_retI X0 hx lk hret (hb hby d1_14) (by decide) (by decide) ?_
    rw [e0]
    exact ⟨by rw [if_neg c2], N0, rfl⟩
theorem d2_0 : decode method_4_code 0 = .ok (.iload_n 0, 1) := by decide +kernel
theorem d2_1 : decode method_4_code 1 = .ok (.iconst 2, 1) := by decide +kernel
theorem d2_2 : decode method_4_code 2 = .ok (.if_icmp .ne 15, 3) := by decide +kernel
theorem d2_5 : decode method_4_code 5 = .ok (.iload_n 2, 1) := by decide +kernel
theorem d2_6 : decode method_4_code 6 = .ok (.ldc 39, 2) := by decide +kernel
theorem d2_8 : decode method_4_code 8 = .ok (.iand, 1) := by decide +kernel
theorem d2_9 : decode method_4_code 9 = .ok (.iconst 1, 1) := by decide +kernel
theorem d2_10 : decode method_4_code 10 = .ok (.iadd, 1) := by decide +kernel
theorem d2_11 : decode method_4_code 11 = .ok (.iload_n 1, 1) := by decide +kernel
theorem d2_12 : decode method_4_code 12 = .ok (.ldc 39, 2) := by decide +kernel
theorem d2_14 : decode method_4_code 14 = .ok (.iand, 1) := by decide +kernel
theorem d2_15 : decode method_4_code 15 = .ok (.iadd, 1) := by decide +kernel
theorem d2_16 : decode method_4_code 16 = .ok (.ireturn, 1) := by decide +kernel
theorem d2_17 : decode method_4_code 17 = .ok (.iload_n 1, 1) := by decide +kernel
theorem d2_18 : decode method_4_code 18 = .ok (.ldc 40, 2) := by decide +kernel
theorem d2_20 : decode method_4_code 20 = .ok (.iand, 1) := by decide +kernel
theorem d2_21 : decode method_4_code 21 = .ok (.ireturn, 1) := by decide +kernel
theorem pn_2 : plainFor (⟨"com/example/revisit/revisit/policy/ChangeRatesAlikePinLaw", "lastSlot", "(III)I"⟩ : MethodName) = true := by first | exact plainFor_of_name (by first | (simp [plainName, overriddenIn]; done) | decide +kernel) | decide +kernel
theorem ef_2 (m : MethodId) (p1 : Int32) (p2 : Int32) (p3 : Int32) : entryFrame m #[(.int p1), (.int p2), (.int p3)] 3 = mkF m 0 #[.val (.int p1), .val (.int p2), .val (.int p3)] [] := by first | (simp [entryFrame, argsToLocals, Value.category, Array.replicate]; done) | rfl
theorem pd_2 : parseMethodDescriptor "(III)I" = some ⟨[.int, .int, .int], some .int⟩ := by decide +kernel
def Q2 (Z : State) (p1 : Int32) (p2 : Int32) (p3 : Int32)  (h0 : Heap) (n0 : Nat) (v : Option Value) (h : Heap) (L : List Loc) : Prop := v = some (.int (if p1 = 2 then (p3 &&& 268435455) + 1 + (p2 &&& 268435455) else p2 &&& 536870911)) ∧ Fr n0 L ∧ h0 = h
theorem rm2 (l : Launch) (Z : State) (a0 : Array Value) (hw : ∀ d ∈ tables_1, d.before a0 Z = true) (ws : List Jvm.Cond) (p1 : Int32) (p2 : Int32) (p3 : Int32)  (h0 : Heap) (n0 : Nat) (Z0 : n0 ≤ h0.size)  :
    MetFree l (⟨"com/example/revisit/revisit/policy/ChangeRatesAlikePinLaw", "lastSlot", "(III)I"⟩ : MethodName) (head1 (Jvm.Cond.code (⟨"com/example/revisit/revisit/policy/ChangeRatesAlikePinLaw", "lastSlot", "(III)I"⟩ : MethodName) method_4_code 3 (some .int) :: ws) ({ frames := 0, cells := 0, slots := 0, locals := 0 } : Room)) (fun a U => a = #[(.int p1), (.int p2), (.int p3)] ∧ Z.Warmed39 U.vm ∧ U.heap = h0) (fun _ _ _ _ _ => True) (fun _ U o U' => ∃ v L, o = .returned v ∧ (Q2 Z p1 p2 p3  h0 n0) v U'.heap L ∧ FrameEnd U o U' L ({ frames := 0, cells := 0, slots := 0, locals := 0 } : Room).cells ({ frames := 0, cells := 0, slots := 0, locals := 0 } : Room).slots) := by
  refine MetFree.of_bodySF pn_2 hisR ?_
  intro p e s m args below meth c s₁ Bd hml0 hP hK
  obtain ⟨rfl, hZ, hh⟩ := hP
  have hx := Bd.exec
  have hby := Bd.bytes
  have hml : c.maxLocals = 3 := hml0
  have hown : s.vm.findClass "com/example/revisit/revisit/policy/ChangeRatesAlikePinLaw" = some m.cls := findClass_of_methodNamed Bd.named
  have hnm := (name_of_methodNamed Bd.named Bd.method).1
  have X0 : Stand p l e ({ frames := 0, cells := 0, slots := 0, locals := 0 } : Room) s m #[(.int p1), (.int p2), (.int p3)] below meth c s₁ [] 0 0 := Stand.of_body Bd
  have e0 : s₁.heap = h0 := by rw [← hh, Bd.state]; rfl
  have N0 := Fr.nil n0
  have lk : meth.locks = false := BodyLoose.notSynchronized Bd
  have hret := Bd.returns
  show Ends p e below (EF s ({ frames := 0, cells := 0, slots := 0, locals := 0 } : Room).cells ({ frames := 0, cells := 0, slots := 0, locals := 0 } : Room).slots) (Q2 Z p1 p2 p3  h0 n0) (s₁.setTop (entryFrame m #[(.int p1), (.int p2), (.int p3)] 3))
  refine Ends.cast (ef_2 m p1 p2 p3) ?_
  refine own_iloadN (n := 1) X0 hx (hb hby d2_0) rfl rfl ?_
  refine own_iconst (n := 2) X0 hx (2 : Int32) (hb hby d2_1) rfl rfl ?_
  by_cases c2 : p1 = (2 : Int32)
  · refine own_icmpNo (n := 5) X0 hx (hb hby d2_2) (Jvm.Free.XT.ii_ne_f c2) rfl ?_
    refine own_iloadN (n := 6) X0 hx (hb hby d2_5) rfl rfl ?_
    refine own_ldc (n := 8) X0 hx hZ hown (hw _ (List.mem_of_getElem? (i := 111) rfl)) (hb hby d2_6) rfl ?_
    refine own_iand (n := 9) X0 hx (hb hby d2_8) rfl ?_
    refine own_iconst (n := 10) X0 hx (1 : Int32) (hb hby d2_9) rfl rfl ?_
    refine own_iadd (n := 11) X0 hx (hb hby d2_10) rfl ?_
    refine own_iloadN (n := 12) X0 hx (hb hby d2_11) rfl rfl ?_
    refine own_ldc (n := 14) X0 hx hZ hown (hw _ (List.mem_of_getElem? (i := 111) rfl)) (hb hby d2_12) rfl ?_
    refine own_iand (n := 15) X0 hx (hb hby d2_14) rfl ?_
    refine own_iadd (n := 16) X0 hx (hb hby d2_15) rfl ?_
    refine own_retI X0 hx lk hret (hb hby d2_16) (by decide) (by decide) ?_
    rw [e0]
    exact ⟨by rw [if_pos c2], N0, rfl⟩
  · refine own_icmpYes (n := 17) X0 hx (hb hby d2_2) (Jvm.Free.XT.ii_ne_t c2) (by decide) (by decide) ?_
    refine own_iloadN (n := 18) X0 hx (hb hby d2_17) rfl rfl ?_
    refine own_ldc (n := 20) X0 hx hZ hown (hw _ (List.mem_of_getElem? (i := 4) rfl)) (hb hby d2_18) rfl ?_
    refine own_iand (n := 21) X0 hx (hb hby d2_20) rfl ?_
    refine own_retI X0 hx lk hret (hb hby d2_21) (by decide) (by decide) ?_
    rw [e0]
    exact ⟨by rw [if_neg c2], N0, rfl⟩
theorem d4_0 : decode prog_35_method_3_code 0 = .ok (.iload_n 0, 1) := by decide +kernel
theorem d4_1 : decode prog_35_method_3_code 1 = .ok (.ifCond .ge 17, 3) := by decide +kernel
theorem d4_4 : decode prog_35_method_3_code 4 = .ok (.new 47, 3) := by decide +kernel
theorem d4_7 : decode prog_35_method_3_code 7 = .ok (.dup, 1) := by decide +kernel
theorem d4_8 : decode prog_35_method_3_code 8 = .ok (.iload_n 0, 1) := by decide +kernel
theorem d4_9 : decode prog_35_method_3_code 9 = .ok (.invokedynamic 49, 5) := by decide +kernel
theorem d4_14 : decode prog_35_method_3_code 14 = .ok (.invokespecial 53, 3) := by decide +kernel
theorem d4_17 : decode prog_35_method_3_code 17 = .ok (.athrow, 1) := by decide +kernel
theorem d4_18 : decode prog_35_method_3_code 18 = .ok (.iload_n 0, 1) := by decide +kernel
theorem d4_19 : decode prog_35_method_3_code 19 = .ok (.ireturn, 1) := by decide +kernel
theorem pn_4 : plainFor (⟨"com/example/revisit/revisit/policy/ChangeRates", "checkedCount", "(I)I"⟩ : MethodName) = true := by first | exact plainFor_of_name (by first | (simp [plainName, overriddenIn]; done) | decide +kernel) | decide +kernel
theorem ef_4 (m : MethodId) (p1 : Int32) : entryFrame m #[(.int p1)] 1 = mkF m 0 #[.val (.int p1)] [] := by first | (simp [entryFrame, argsToLocals, Value.category, Array.replicate]; done) | rfl
theorem pd_4 : parseMethodDescriptor "(I)I" = some ⟨[.int], some .int⟩ := by decide +kernel
def Q4 (Z : State) (p1 : Int32)  (h0 : Heap) (n0 : Nat) (v : Option Value) (h : Heap) (L : List Loc) : Prop := v = some (.int p1) ∧ Fr n0 L ∧ h0 = h
theorem rm4 (l : Launch) (Z : State) (a0 : Array Value) (hw : ∀ d ∈ tables_1, d.before a0 Z = true) (ws : List Jvm.Cond) (p1 : Int32)  (h0 : Heap) (n0 : Nat) (Z0 : n0 ≤ h0.size) (q0 : ¬ p1 < 0) :
    MetFree l (⟨"com/example/revisit/revisit/policy/ChangeRates", "checkedCount", "(I)I"⟩ : MethodName) (head1 (Jvm.Cond.code (⟨"com/example/revisit/revisit/policy/ChangeRates", "checkedCount", "(I)I"⟩ : MethodName) prog_35_method_3_code 1 (some .int) :: ws) ({ frames := 0, cells := 0, slots := 0, locals := 0 } : Room)) (fun a U => a = #[(.int p1)] ∧ Z.Warmed39 U.vm ∧ U.heap = h0) (fun _ _ _ _ _ => True) (fun _ U o U' => ∃ v L, o = .returned v ∧ (Q4 Z p1  h0 n0) v U'.heap L ∧ FrameEnd U o U' L ({ frames := 0, cells := 0, slots := 0, locals := 0 } : Room).cells ({ frames := 0, cells := 0, slots := 0, locals := 0 } : Room).slots) := by
  refine MetFree.of_bodySF pn_4 hisR ?_
  intro p e s m args below meth c s₁ Bd hml0 hP hK
  obtain ⟨rfl, hZ, hh⟩ := hP
  have hx := Bd.exec
  have hby := Bd.bytes
  have hml : c.maxLocals = 1 := hml0
  have hown : s.vm.findClass "com/example/revisit/revisit/policy/ChangeRates" = some m.cls := findClass_of_methodNamed Bd.named
  have hnm := (name_of_methodNamed Bd.named Bd.method).1
  have X0 : Stand p l e ({ frames := 0, cells := 0, slots := 0, locals := 0 } : Room) s m #[(.int p1)] below meth c s₁ [] 0 0 := Stand.of_body Bd
  have e0 : s₁.heap = h0 := by rw [← hh, Bd.state]; rfl
  have N0 := Fr.nil n0
  have lk : meth.locks = false := BodyLoose.notSynchronized Bd
  have hret := Bd.returns
  show Ends p e below (EF s ({ frames := 0, cells := 0, slots := 0, locals := 0 } : Room).cells ({ frames := 0, cells := 0, slots := 0, locals := 0 } : Room).slots) (Q4 Z p1  h0 n0) (s₁.setTop (entryFrame m #[(.int p1)] 1))
  refine Ends.cast (ef_4 m p1) ?_
  refine own_iloadN (n := 1) X0 hx (hb hby d4_0) rfl rfl ?_
  refine own_ifYes (n := 18) X0 hx (hb hby d4_1) (Jvm.Free.XT.i0_ge_t q0) (by decide) (by decide) ?_
  refine own_iloadN (n := 19) X0 hx (hb hby d4_18) rfl rfl ?_
  refine own_retI X0 hx lk hret (hb hby d4_19) (by decide) (by decide) ?_
  rw [e0]
  exact ⟨rfl, N0, rfl⟩
theorem d22_0 : decode jdk_29_method_69_code 0 = .ok (.iload_n 0, 1) := by decide +kernel
theorem d22_1 : decode jdk_29_method_69_code 1 = .ok (.iload_n 1, 1) := by decide +kernel
theorem d22_2 : decode jdk_29_method_69_code 2 = .ok (.if_icmp .gt 7, 3) := by decide +kernel
theorem d22_5 : decode jdk_29_method_69_code 5 = .ok (.iload_n 0, 1) := by decide +kernel
theorem d22_6 : decode jdk_29_method_69_code 6 = .ok (.goto 4, 3) := by decide +kernel
theorem d22_9 : decode jdk_29_method_69_code 9 = .ok (.iload_n 1, 1) := by decide +kernel
theorem d22_10 : decode jdk_29_method_69_code 10 = .ok (.ireturn, 1) := by decide +kernel
theorem pn_22 : plainFor (⟨"java/lang/Math", "min", "(II)I"⟩ : MethodName) = true := by first | exact plainFor_of_name (by first | (simp [plainName, overriddenIn]; done) | decide +kernel) | decide +kernel
theorem ef_22 (m : MethodId) (p1 : Int32) (p2 : Int32) : entryFrame m #[(.int p1), (.int p2)] 2 = mkF m 0 #[.val (.int p1), .val (.int p2)] [] := by first | (simp [entryFrame, argsToLocals, Value.category, Array.replicate]; done) | rfl
theorem pd_22 : parseMethodDescriptor "(II)I" = some ⟨[.int, .int], some .int⟩ := by decide +kernel
def Q22 (Z : State) (p1 : Int32) (p2 : Int32)  (h0 : Heap) (n0 : Nat) (v : Option Value) (h : Heap) (L : List Loc) : Prop := v = some (.int (if p2 < p1 then p2 else p1)) ∧ Fr n0 L ∧ h0 = h
theorem rm22 (l : Launch) (Z : State) (a0 : Array Value) (hw : ∀ d ∈ tables_1, d.before a0 Z = true) (ws : List Jvm.Cond) (p1 : Int32) (p2 : Int32)  (h0 : Heap) (n0 : Nat) (Z0 : n0 ≤ h0.size)  :
    MetFree l (⟨"java/lang/Math", "min", "(II)I"⟩ : MethodName) (head1 (Jvm.Cond.code (⟨"java/lang/Math", "min", "(II)I"⟩ : MethodName) jdk_29_method_69_code 2 (some .int) :: ws) ({ frames := 0, cells := 0, slots := 0, locals := 0 } : Room)) (fun a U => a = #[(.int p1), (.int p2)] ∧ Z.Warmed39 U.vm ∧ U.heap = h0) (fun _ _ _ _ _ => True) (fun _ U o U' => ∃ v L, o = .returned v ∧ (Q22 Z p1 p2  h0 n0) v U'.heap L ∧ FrameEnd U o U' L ({ frames := 0, cells := 0, slots := 0, locals := 0 } : Room).cells ({ frames := 0, cells := 0, slots := 0, locals := 0 } : Room).slots) := by
  refine MetFree.of_bodySF pn_22 hisR ?_
  intro p e s m args below meth c s₁ Bd hml0 hP hK
  obtain ⟨rfl, hZ, hh⟩ := hP
  have hx := Bd.exec
  have hby := Bd.bytes
  have hml : c.maxLocals = 2 := hml0
  have hown : s.vm.findClass "java/lang/Math" = some m.cls := findClass_of_methodNamed Bd.named
  have hnm := (name_of_methodNamed Bd.named Bd.method).1
  have X0 : Stand p l e ({ frames := 0, cells := 0, slots := 0, locals := 0 } : Room) s m #[(.int p1), (.int p2)] below meth c s₁ [] 0 0 := Stand.of_body Bd
  have e0 : s₁.heap = h0 := by rw [← hh, Bd.state]; rfl
  have N0 := Fr.nil n0
  have lk : meth.locks = false := BodyLoose.notSynchronized Bd
  have hret := Bd.returns
  show Ends p e below (EF s ({ frames := 0, cells := 0, slots := 0, locals := 0 } : Room).cells ({ frames := 0, cells := 0, slots := 0, locals := 0 } : Room).slots) (Q22 Z p1 p2  h0 n0) (s₁.setTop (entryFrame m #[(.int p1), (.int p2)] 2))
  refine Ends.cast (ef_22 m p1 p2) ?_
  refine own_iloadN (n := 1) X0 hx (hb hby d22_0) rfl rfl ?_
  refine own_iloadN (n := 2) X0 hx (hb hby d22_1) rfl rfl ?_
  by_cases c2 : p2 < p1
  · refine own_icmpYes (n := 9) X0 hx (hb hby d22_2) (Jvm.Free.XT.ii_gt_t c2) (by decide) (by decide) ?_
    refine own_iloadN (n := 10) X0 hx (hb hby d22_9) rfl rfl ?_
    refine own_retI X0 hx lk hret (hb hby d22_10) (by decide) (by decide) ?_
    rw [e0]
    exact ⟨by rw [if_pos c2], N0, rfl⟩
  · refine own_icmpNo (n := 5) X0 hx (hb hby d22_2) (Jvm.Free.XT.ii_gt_f c2) rfl ?_
    refine own_iloadN (n := 6) X0 hx (hb hby d22_5) rfl rfl ?_
    refine own_goto (n := 10) X0 hx (hb hby d22_6) (by decide) (by decide) ?_
    refine own_retI X0 hx lk hret (hb hby d22_10) (by decide) (by decide) ?_
    rw [e0]
    exact ⟨by rw [if_neg c2], N0, rfl⟩
theorem d15_0 : decode jdk_41_method_11_code 0 = .ok (.iload_n 0, 1) := by decide +kernel
theorem d15_1 : decode jdk_41_method_11_code 1 = .ok (.ifCond .lt 8, 3) := by decide +kernel
theorem d15_4 : decode jdk_41_method_11_code 4 = .ok (.iload_n 0, 1) := by decide +kernel
theorem d15_5 : decode jdk_41_method_11_code 5 = .ok (.iload_n 1, 1) := by decide +kernel
theorem d15_6 : decode jdk_41_method_11_code 6 = .ok (.if_icmp .lt 10, 3) := by decide +kernel
theorem d15_9 : decode jdk_41_method_11_code 9 = .ok (.aload_n 2, 1) := by decide +kernel
theorem d15_10 : decode jdk_41_method_11_code 10 = .ok (.iload_n 0, 1) := by decide +kernel
theorem d15_11 : decode jdk_41_method_11_code 11 = .ok (.iload_n 1, 1) := by decide +kernel
theorem d15_12 : decode jdk_41_method_11_code 12 = .ok (.invokestatic 95, 3) := by decide +kernel
theorem d15_15 : decode jdk_41_method_11_code 15 = .ok (.athrow, 1) := by decide +kernel
theorem d15_16 : decode jdk_41_method_11_code 16 = .ok (.iload_n 0, 1) := by decide +kernel
theorem d15_17 : decode jdk_41_method_11_code 17 = .ok (.ireturn, 1) := by decide +kernel
theorem pn_15 : plainFor (⟨"jdk/internal/util/Preconditions", "checkIndex", "(IILjava/util/function/BiFunction;)I"⟩ : MethodName) = true := by first | exact plainFor_of_name (by first | (simp [plainName, overriddenIn]; done) | decide +kernel) | decide +kernel
theorem ef_15 (m : MethodId) (p1 : Int32) (p2 : Int32) : entryFrame m #[(.int p1), (.int p2), .null] 3 = mkF m 0 #[.val (.int p1), .val (.int p2), .val .null] [] := by first | (simp [entryFrame, argsToLocals, Value.category, Array.replicate]; done) | rfl
theorem pd_15 : parseMethodDescriptor "(IILjava/util/function/BiFunction;)I" = some ⟨[.int, .int, (.object "java/util/function/BiFunction")], some .int⟩ := by decide +kernel
def Q15 (Z : State) (p1 : Int32) (p2 : Int32)  (h0 : Heap) (n0 : Nat) (v : Option Value) (h : Heap) (L : List Loc) : Prop := v = some (.int p1) ∧ Fr n0 L ∧ h0 = h
theorem rm15 (l : Launch) (Z : State) (a0 : Array Value) (hw : ∀ d ∈ tables_1, d.before a0 Z = true) (ws : List Jvm.Cond) (p1 : Int32) (p2 : Int32)  (h0 : Heap) (n0 : Nat) (Z0 : n0 ≤ h0.size) (q0 : ¬ p1 < 0) (q1 : p1 < p2) :
    MetFree l (⟨"jdk/internal/util/Preconditions", "checkIndex", "(IILjava/util/function/BiFunction;)I"⟩ : MethodName) (head1 (Jvm.Cond.code (⟨"jdk/internal/util/Preconditions", "checkIndex", "(IILjava/util/function/BiFunction;)I"⟩ : MethodName) jdk_41_method_11_code 3 (some .int) :: ws) ({ frames := 0, cells := 0, slots := 0, locals := 0 } : Room)) (fun a U => a = #[(.int p1), (.int p2), .null] ∧ Z.Warmed39 U.vm ∧ U.heap = h0) (fun _ _ _ _ _ => True) (fun _ U o U' => ∃ v L, o = .returned v ∧ (Q15 Z p1 p2  h0 n0) v U'.heap L ∧ FrameEnd U o U' L ({ frames := 0, cells := 0, slots := 0, locals := 0 } : Room).cells ({ frames := 0, cells := 0, slots := 0, locals := 0 } : Room).slots) := by
  refine MetFree.of_bodySF pn_15 hisR ?_
  intro p e s m args below meth c s₁ Bd hml0 hP hK
  obtain ⟨rfl, hZ, hh⟩ := hP
  have hx := Bd.exec
  have hby := Bd.bytes
  have hml : c.maxLocals = 3 := hml0
  have hown : s.vm.findClass "jdk/internal/util/Preconditions" = some m.cls := findClass_of_methodNamed Bd.named
  have hnm := (name_of_methodNamed Bd.named Bd.method).1
  have X0 : Stand p l e ({ frames := 0, cells := 0, slots := 0, locals := 0 } : Room) s m #[(.int p1), (.int p2), .null] below meth c s₁ [] 0 0 := Stand.of_body Bd
  have e0 : s₁.heap = h0 := by rw [← hh, Bd.state]; rfl
  have N0 := Fr.nil n0
  have lk : meth.locks = false := BodyLoose.notSynchronized Bd
  have hret := Bd.returns
  show Ends p e below (EF s ({ frames := 0, cells := 0, slots := 0, locals := 0 } : Room).cells ({ frames := 0, cells := 0, slots := 0, locals := 0 } : Room).slots) (Q15 Z p1 p2  h0 n0) (s₁.setTop (entryFrame m #[(.int p1), (.int p2), .null] 3))
  refine Ends.cast (ef_15 m p1 p2) ?_
  refine own_iloadN (n := 1) X0 hx (hb hby d15_0) rfl rfl ?_
  refine own_ifNo (n := 4) X0 hx (hb hby d15_1) (Jvm.Free.XT.i0_lt_f q0) rfl ?_
  refine own_iloadN (n := 5) X0 hx (hb hby d15_4) rfl rfl ?_
  refine own_iloadN (n := 6) X0 hx (hb hby d15_5) rfl rfl ?_
  refine own_icmpYes (n := 16) X0 hx (hb hby d15_6) (Jvm.Free.XT.ii_lt_t q1) (by decide) (by decide) ?_
  refine own_iloadN (n := 17) X0 hx (hb hby d15_16) rfl rfl ?_
  refine own_retI X0 hx lk hret (hb hby d15_17) (by decide) (by decide) ?_
  rw [e0]
  exact ⟨rfl, N0, rfl⟩
theorem d14_0 : decode jdk_31_method_17_code 0 = .ok (.iload_n 0, 1) := by decide +kernel
theorem d14_1 : decode jdk_31_method_17_code 1 = .ok (.iload_n 1, 1) := by decide +kernel
theorem d14_2 : decode jdk_31_method_17_code 2 = .ok (.aconst_null, 1) := by decide +kernel
theorem d14_3 : decode jdk_31_method_17_code 3 = .ok (.invokestatic 105, 3) := by decide +kernel
theorem d14_6 : decode jdk_31_method_17_code 6 = .ok (.ireturn, 1) := by decide +kernel
theorem pn_14 : plainFor (⟨"java/util/Objects", "checkIndex", "(II)I"⟩ : MethodName) = true := by first | exact plainFor_of_name (by first | (simp [plainName, overriddenIn]; done) | decide +kernel) | decide +kernel
theorem ef_14 (m : MethodId) (p1 : Int32) (p2 : Int32) : entryFrame m #[(.int p1), (.int p2)] 2 = mkF m 0 #[.val (.int p1), .val (.int p2)] [] := by first | (simp [entryFrame, argsToLocals, Value.category, Array.replicate]; done) | rfl
theorem pd_14 : parseMethodDescriptor "(II)I" = some ⟨[.int, .int], some .int⟩ := by decide +kernel
def Q14 (Z : State) (p1 : Int32) (p2 : Int32)  (h0 : Heap) (n0 : Nat) (v : Option Value) (h : Heap) (L : List Loc) : Prop := v = some (.int p1) ∧ Fr n0 L ∧ h0 = h
theorem rm14 (l : Launch) (Z : State) (a0 : Array Value) (hw : ∀ d ∈ tables_1, d.before a0 Z = true) (ws : List Jvm.Cond) (p1 : Int32) (p2 : Int32)  (h0 : Heap) (n0 : Nat) (Z0 : n0 ≤ h0.size) (q0 : ¬ p1 < 0) (q1 : p1 < p2) :
    MetFree l (⟨"java/util/Objects", "checkIndex", "(II)I"⟩ : MethodName) (head1 (Jvm.Cond.code (⟨"java/util/Objects", "checkIndex", "(II)I"⟩ : MethodName) jdk_31_method_17_code 2 (some .int) :: ws) ({ frames := 1, cells := 0, slots := 0, locals := 14 } : Room)) (fun a U => a = #[(.int p1), (.int p2)] ∧ Z.Warmed39 U.vm ∧ U.heap = h0) (fun _ _ _ _ _ => True) (fun _ U o U' => ∃ v L, o = .returned v ∧ (Q14 Z p1 p2  h0 n0) v U'.heap L ∧ FrameEnd U o U' L ({ frames := 1, cells := 0, slots := 0, locals := 14 } : Room).cells ({ frames := 1, cells := 0, slots := 0, locals := 14 } : Room).slots) := by
  refine MetFree.of_bodySF pn_14 hisR ?_
  intro p e s m args below meth c s₁ Bd hml0 hP hK
  obtain ⟨rfl, hZ, hh⟩ := hP
  have hx := Bd.exec
  have hby := Bd.bytes
  have hml : c.maxLocals = 2 := hml0
  have hown : s.vm.findClass "java/util/Objects" = some m.cls := findClass_of_methodNamed Bd.named
  have hnm := (name_of_methodNamed Bd.named Bd.method).1
  have X0 : Stand p l e ({ frames := 1, cells := 0, slots := 0, locals := 14 } : Room) s m #[(.int p1), (.int p2)] below meth c s₁ [] 0 0 := Stand.of_body Bd
  have e0 : s₁.heap = h0 := by rw [← hh, Bd.state]; rfl
  have N0 := Fr.nil n0
  have lk : meth.locks = false := BodyLoose.notSynchronized Bd
  have hret := Bd.returns
  show Ends p e below (EF s ({ frames := 1, cells := 0, slots := 0, locals := 14 } : Room).cells ({ frames := 1, cells := 0, slots := 0, locals := 14 } : Room).slots) (Q14 Z p1 p2  h0 n0) (s₁.setTop (entryFrame m #[(.int p1), (.int p2)] 2))
  refine Ends.cast (ef_14 m p1 p2) ?_
  refine own_iloadN (n := 1) X0 hx (hb hby d14_0) rfl rfl ?_
  refine own_iloadN (n := 2) X0 hx (hb hby d14_1) rfl rfl ?_
  refine own_aconst_null (n := 3) X0 hx (hb hby d14_2) rfl ?_
  refine own_callS (n := 6) X0 hx hZ hown (hw _ (List.mem_of_getElem? (i := 97) rfl)) (hw _ (List.mem_of_getElem? (i := 98) rfl)) (hw _ (List.mem_of_getElem? (i := 99) rfl)) (hw _ (List.mem_of_getElem? (i := 100) rfl)) (by decide) e0 (rm15 l Z a0 hw [] p1 p2 h0 n0 Z0 q0 q1) (W := 0) (by decide) (by decide) (by decide) (by decide) (by rw [hml]; rfl) (argsL := [(.int p1), (.int p2), .null]) (rest := []) pd_15 rfl (by rfl) (Nat.le_of_eq rfl) (hb hby d14_3) rfl rfl ?_
  intro v1 T1 h1 L1 X1 e1 q1
  obtain ⟨rfl, M1, rfl⟩ := q1
  have N1 := Fr.app N0 M1
  refine own_retI X1 hx lk hret (hb hby d14_6) (by decide) (by decide) ?_
  rw [e1]
  exact ⟨rfl, N1, rfl⟩
theorem d19_0 : decode jdk_65_method_30_code 0 = .ok (.iload_n 1, 1) := by decide +kernel
theorem d19_1 : decode jdk_65_method_30_code 1 = .ok (.iload_n 2, 1) := by decide +kernel
theorem d19_2 : decode jdk_65_method_30_code 2 = .ok (.if_icmp .le 44, 3) := by decide +kernel
theorem d19_5 : decode jdk_65_method_30_code 5 = .ok (.new 43, 3) := by decide +kernel
theorem d19_8 : decode jdk_65_method_30_code 8 = .ok (.dup, 1) := by decide +kernel
theorem d19_9 : decode jdk_65_method_30_code 9 = .ok (.new 45, 3) := by decide +kernel
theorem d19_12 : decode jdk_65_method_30_code 12 = .ok (.dup, 1) := by decide +kernel
theorem d19_13 : decode jdk_65_method_30_code 13 = .ok (.invokespecial 47, 3) := by decide +kernel
theorem d19_16 : decode jdk_65_method_30_code 16 = .ok (.ldc 48, 2) := by decide +kernel
theorem d19_18 : decode jdk_65_method_30_code 18 = .ok (.invokevirtual 50, 3) := by decide +kernel
theorem d19_21 : decode jdk_65_method_30_code 21 = .ok (.iload_n 1, 1) := by decide +kernel
theorem d19_22 : decode jdk_65_method_30_code 22 = .ok (.invokevirtual 54, 3) := by decide +kernel
theorem d19_25 : decode jdk_65_method_30_code 25 = .ok (.ldc 57, 2) := by decide +kernel
theorem d19_27 : decode jdk_65_method_30_code 27 = .ok (.invokevirtual 50, 3) := by decide +kernel
theorem d19_30 : decode jdk_65_method_30_code 30 = .ok (.iload_n 2, 1) := by decide +kernel
theorem d19_31 : decode jdk_65_method_30_code 31 = .ok (.invokevirtual 54, 3) := by decide +kernel
theorem d19_34 : decode jdk_65_method_30_code 34 = .ok (.ldc 59, 2) := by decide +kernel
theorem d19_36 : decode jdk_65_method_30_code 36 = .ok (.invokevirtual 50, 3) := by decide +kernel
theorem d19_39 : decode jdk_65_method_30_code 39 = .ok (.invokevirtual 61, 3) := by decide +kernel
theorem d19_42 : decode jdk_65_method_30_code 42 = .ok (.invokespecial 65, 3) := by decide +kernel
theorem d19_45 : decode jdk_65_method_30_code 45 = .ok (.athrow, 1) := by decide +kernel
theorem d19_46 : decode jdk_65_method_30_code 46 = .ok (.iload_n 1, 1) := by decide +kernel
theorem d19_47 : decode jdk_65_method_30_code 47 = .ok (.ifCond .ge 12, 3) := by decide +kernel
theorem d19_50 : decode jdk_65_method_30_code 50 = .ok (.new 68, 3) := by decide +kernel
theorem d19_53 : decode jdk_65_method_30_code 53 = .ok (.dup, 1) := by decide +kernel
theorem d19_54 : decode jdk_65_method_30_code 54 = .ok (.iload_n 1, 1) := by decide +kernel
theorem d19_55 : decode jdk_65_method_30_code 55 = .ok (.invokespecial 70, 3) := by decide +kernel
theorem d19_58 : decode jdk_65_method_30_code 58 = .ok (.athrow, 1) := by decide +kernel
theorem d19_59 : decode jdk_65_method_30_code 59 = .ok (.iload_n 2, 1) := by decide +kernel
theorem d19_60 : decode jdk_65_method_30_code 60 = .ok (.iload_n 0, 1) := by decide +kernel
theorem d19_61 : decode jdk_65_method_30_code 61 = .ok (.if_icmp .le 12, 3) := by decide +kernel
theorem d19_64 : decode jdk_65_method_30_code 64 = .ok (.new 68, 3) := by decide +kernel
theorem d19_67 : decode jdk_65_method_30_code 67 = .ok (.dup, 1) := by decide +kernel
theorem d19_68 : decode jdk_65_method_30_code 68 = .ok (.iload_n 2, 1) := by decide +kernel
theorem d19_69 : decode jdk_65_method_30_code 69 = .ok (.invokespecial 70, 3) := by decide +kernel
theorem d19_72 : decode jdk_65_method_30_code 72 = .ok (.athrow, 1) := by decide +kernel
theorem d19_73 : decode jdk_65_method_30_code 73 = .ok (.return_, 1) := by decide +kernel
theorem pn_19 : plainFor (⟨"java/util/Arrays", "rangeCheck", "(III)V"⟩ : MethodName) = true := by first | exact plainFor_of_name (by first | (simp [plainName, overriddenIn]; done) | decide +kernel) | decide +kernel
theorem ef_19 (m : MethodId) (p1 : Int32) (p2 : Int32) (p3 : Int32) : entryFrame m #[(.int p1), (.int p2), (.int p3)] 3 = mkF m 0 #[.val (.int p1), .val (.int p2), .val (.int p3)] [] := by first | (simp [entryFrame, argsToLocals, Value.category, Array.replicate]; done) | rfl
theorem pd_19 : parseMethodDescriptor "(III)V" = some ⟨[.int, .int, .int], none⟩ := by decide +kernel
def Q19 (Z : State) (p1 : Int32) (p2 : Int32) (p3 : Int32)  (h0 : Heap) (n0 : Nat) (v : Option Value) (h : Heap) (L : List Loc) : Prop := v = none ∧ Fr n0 L ∧ h0 = h
theorem rm19 (l : Launch) (Z : State) (a0 : Array Value) (hw : ∀ d ∈ tables_1, d.before a0 Z = true) (ws : List Jvm.Cond) (p1 : Int32) (p2 : Int32) (p3 : Int32)  (h0 : Heap) (n0 : Nat) (Z0 : n0 ≤ h0.size) (q0 : ¬ p3 < p2) (q1 : ¬ p2 < 0) (q2' : ¬ p1 < p3) :
    MetFree l (⟨"java/util/Arrays", "rangeCheck", "(III)V"⟩ : MethodName) (head1 (Jvm.Cond.code (⟨"java/util/Arrays", "rangeCheck", "(III)V"⟩ : MethodName) jdk_65_method_30_code 3 (none) :: ws) ({ frames := 0, cells := 0, slots := 0, locals := 0 } : Room)) (fun a U => a = #[(.int p1), (.int p2), (.int p3)] ∧ Z.Warmed39 U.vm ∧ U.heap = h0) (fun _ _ _ _ _ => True) (fun _ U o U' => ∃ v L, o = .returned v ∧ (Q19 Z p1 p2 p3  h0 n0) v U'.heap L ∧ FrameEnd U o U' L ({ frames := 0, cells := 0, slots := 0, locals := 0 } : Room).cells ({ frames := 0, cells := 0, slots := 0, locals := 0 } : Room).slots) := by
  refine MetFree.of_bodySF pn_19 hisR ?_
  intro p e s m args below meth c s₁ Bd hml0 hP hK
  obtain ⟨rfl, hZ, hh⟩ := hP
  have hx := Bd.exec
  have hby := Bd.bytes
  have hml : c.maxLocals = 3 := hml0
  have hown : s.vm.findClass "java/util/Arrays" = some m.cls := findClass_of_methodNamed Bd.named
  have hnm := (name_of_methodNamed Bd.named Bd.method).1
  have X0 : Stand p l e ({ frames := 0, cells := 0, slots := 0, locals := 0 } : Room) s m #[(.int p1), (.int p2), (.int p3)] below meth c s₁ [] 0 0 := Stand.of_body Bd
  have e0 : s₁.heap = h0 := by rw [← hh, Bd.state]; rfl
  have N0 := Fr.nil n0
  have lk : meth.locks = false := BodyLoose.notSynchronized Bd
  have hret := Bd.returns
  show Ends p e below (EF s ({ frames := 0, cells := 0, slots := 0, locals := 0 } : Room).cells ({ frames := 0, cells := 0, slots := 0, locals := 0 } : Room).slots) (Q19 Z p1 p2 p3  h0 n0) (s₁.setTop (entryFrame m #[(.int p1), (.int p2), (.int p3)] 3))
  refine Ends.cast (ef_19 m p1 p2 p3) ?_
  refine own_iloadN (n := 1) X0 hx (hb hby d19_0) rfl rfl ?_
  refine own_iloadN (n := 2) X0 hx (hb hby d19_1) rfl rfl ?_
  refine own_icmpYes (n := 46) X0 hx (hb hby d19_2) (Jvm.Free.XT.ii_le_t q0) (by decide) (by decide) ?_
  refine own_iloadN (n := 47) X0 hx (hb hby d19_46) rfl rfl ?_
  refine own_ifYes (n := 59) X0 hx (hb hby d19_47) (Jvm.Free.XT.i0_ge_t q1) (by decide) (by decide) ?_
  refine own_iloadN (n := 60) X0 hx (hb hby d19_59) rfl rfl ?_
  refine own_iloadN (n := 61) X0 hx (hb hby d19_60) rfl rfl ?_
  refine own_icmpYes (n := 73) X0 hx (hb hby d19_61) (Jvm.Free.XT.ii_le_t q2') (by decide) (by decide) ?_
  refine own_retV X0 hx lk hret (hb hby d19_73) (by decide) (by decide) ?_
  rw [e0]
  exact ⟨rfl, N0, rfl⟩
theorem d12_0 : decode method_5_code 0 = .ok (.iload_n 0, 1) := by decide +kernel
theorem d12_1 : decode method_5_code 1 = .ok (.iconst 2, 1) := by decide +kernel
theorem d12_2 : decode method_5_code 2 = .ok (.if_icmp .eq 17, 3) := by decide +kernel
theorem d12_5 : decode method_5_code 5 = .ok (.iload_n 0, 1) := by decide +kernel
theorem d12_6 : decode method_5_code 6 = .ok (.iconst 1, 1) := by decide +kernel
theorem d12_7 : decode method_5_code 7 = .ok (.if_icmp .ne 7, 3) := by decide +kernel
theorem d12_10 : decode method_5_code 10 = .ok (.iconst 1, 1) := by decide +kernel
theorem d12_11 : decode method_5_code 11 = .ok (.goto 4, 3) := by decide +kernel
theorem d12_14 : decode method_5_code 14 = .ok (.iconst 0, 1) := by decide +kernel
theorem d12_15 : decode method_5_code 15 = .ok (.iload_n 1, 1) := by decide +kernel
theorem d12_16 : decode method_5_code 16 = .ok (.if_icmp .ne 7, 3) := by decide +kernel
theorem d12_19 : decode method_5_code 19 = .ok (.iconst 1, 1) := by decide +kernel
theorem d12_20 : decode method_5_code 20 = .ok (.goto 4, 3) := by decide +kernel
theorem d12_23 : decode method_5_code 23 = .ok (.iconst 0, 1) := by decide +kernel
theorem d12_24 : decode method_5_code 24 = .ok (.ireturn, 1) := by decide +kernel
theorem pn_12 : plainFor (⟨"com/example/revisit/revisit/policy/ChangeRatesAlikePinLaw", "agrees", "(IZ)Z"⟩ : MethodName) = true := by first | exact plainFor_of_name (by first | (simp [plainName, overriddenIn]; done) | decide +kernel) | decide +kernel
theorem ef_12 (m : MethodId) (p1 : Int32) (p2 : Int32) : entryFrame m #[(.int p1), (.int p2)] 2 = mkF m 0 #[.val (.int p1), .val (.int p2)] [] := by first | (simp [entryFrame, argsToLocals, Value.category, Array.replicate]; done) | rfl
theorem pd_12 : parseMethodDescriptor "(IZ)Z" = some ⟨[.int, .boolean], some .boolean⟩ := by decide +kernel
def Q12 (Z : State) (p1 : Int32) (p2 : Int32)  (h0 : Heap) (n0 : Nat) (v : Option Value) (h : Heap) (L : List Loc) : Prop := v = some (.int 1) ∧ Fr n0 L ∧ h0 = h
theorem rm12 (l : Launch) (Z : State) (a0 : Array Value) (hw : ∀ d ∈ tables_1, d.before a0 Z = true) (ws : List Jvm.Cond) (p1 : Int32) (p2 : Int32)  (h0 : Heap) (n0 : Nat) (Z0 : n0 ≤ h0.size) (hp : p1 = 2 ∨ (p1 = 1 ∧ p2 = 1) ∨ (¬ p1 = 1 ∧ p2 = 0)) :
    MetFree l (⟨"com/example/revisit/revisit/policy/ChangeRatesAlikePinLaw", "agrees", "(IZ)Z"⟩ : MethodName) (head1 (Jvm.Cond.code (⟨"com/example/revisit/revisit/policy/ChangeRatesAlikePinLaw", "agrees", "(IZ)Z"⟩ : MethodName) method_5_code 2 (some .boolean) :: ws) ({ frames := 0, cells := 0, slots := 0, locals := 0 } : Room)) (fun a U => a = #[(.int p1), (.int p2)] ∧ Z.Warmed39 U.vm ∧ U.heap = h0) (fun _ _ _ _ _ => True) (fun _ U o U' => ∃ v L, o = .returned v ∧ (Q12 Z p1 p2  h0 n0) v U'.heap L ∧ FrameEnd U o U' L ({ frames := 0, cells := 0, slots := 0, locals := 0 } : Room).cells ({ frames := 0, cells := 0, slots := 0, locals := 0 } : Room).slots) := by
  refine MetFree.of_bodySF pn_12 hisR ?_
  intro p e s m args below meth c s₁ Bd hml0 hP hK
  obtain ⟨rfl, hZ, hh⟩ := hP
  have hx := Bd.exec
  have hby := Bd.bytes
  have hml : c.maxLocals = 2 := hml0
  have hown : s.vm.findClass "com/example/revisit/revisit/policy/ChangeRatesAlikePinLaw" = some m.cls := findClass_of_methodNamed Bd.named
  have hnm := (name_of_methodNamed Bd.named Bd.method).1
  have X0 : Stand p l e ({ frames := 0, cells := 0, slots := 0, locals := 0 } : Room) s m #[(.int p1), (.int p2)] below meth c s₁ [] 0 0 := Stand.of_body Bd
  have e0 : s₁.heap = h0 := by rw [← hh, Bd.state]; rfl
  have N0 := Fr.nil n0
  have lk : meth.locks = false := BodyLoose.notSynchronized Bd
  have hret := Bd.returns
  show Ends p e below (EF s ({ frames := 0, cells := 0, slots := 0, locals := 0 } : Room).cells ({ frames := 0, cells := 0, slots := 0, locals := 0 } : Room).slots) (Q12 Z p1 p2  h0 n0) (s₁.setTop (entryFrame m #[(.int p1), (.int p2)] 2))
  refine Ends.cast (ef_12 m p1 p2) ?_
  refine own_iloadN (n := 1) X0 hx (hb hby d12_0) rfl rfl ?_
  refine own_iconst (n := 2) X0 hx (2 : Int32) (hb hby d12_1) rfl rfl ?_
  by_cases c2 : p1 = (2 : Int32)
  · refine own_icmpYes (n := 19) X0 hx (hb hby d12_2) (Jvm.Free.XT.ii_eq_t c2) (by decide) (by decide) ?_
    refine own_iconst (n := 20) X0 hx (1 : Int32) (hb hby d12_19) rfl rfl ?_
    refine own_goto (n := 24) X0 hx (hb hby d12_20) (by decide) (by decide) ?_
    refine own_retN X0 hx lk hret (by simp) (hb hby d12_24) (by decide) (by decide) ?_
    rw [e0]
    exact ⟨rfl, N0, rfl⟩
  · refine own_icmpNo (n := 5) X0 hx (hb hby d12_2) (Jvm.Free.XT.ii_eq_f c2) rfl ?_
    refine own_iloadN (n := 6) X0 hx (hb hby d12_5) rfl rfl ?_
    refine own_iconst (n := 7) X0 hx (1 : Int32) (hb hby d12_6) rfl rfl ?_
    by_cases c7 : p1 = (1 : Int32)
    · refine own_icmpNo (n := 10) X0 hx (hb hby d12_7) (Jvm.Free.XT.ii_ne_f c7) rfl ?_
      refine own_iconst (n := 11) X0 hx (1 : Int32) (hb hby d12_10) rfl rfl ?_
      refine own_goto (n := 15) X0 hx (hb hby d12_11) (by decide) (by decide) ?_
      refine own_iloadN (n := 16) X0 hx (hb hby d12_15) rfl rfl ?_
      refine own_icmpNo (n := 19) X0 hx (hb hby d12_16) (Jvm.Free.XT.ii_ne_f (hp.elim (fun z => absurd z c2) (fun z => z.elim (fun y => y.2.symm) (fun y => absurd c7 y.1)))) rfl ?_
      refine own_iconst (n := 20) X0 hx (1 : Int32) (hb hby d12_19) rfl rfl ?_
      refine own_goto (n := 24) X0 hx (hb hby d12_20) (by decide) (by decide) ?_
      refine own_retN X0 hx lk hret (by simp) (hb hby d12_24) (by decide) (by decide) ?_
      rw [e0]
      exact ⟨rfl, N0, rfl⟩
    · refine own_icmpYes (n := 14) X0 hx (hb hby d12_7) (Jvm.Free.XT.ii_ne_t c7) (by decide) (by decide) ?_
      refine own_iconst (n := 15) X0 hx (0 : Int32) (hb hby d12_14) rfl rfl ?_
      refine own_iloadN (n := 16) X0 hx (hb hby d12_15) rfl rfl ?_
      refine own_icmpNo (n := 19) X0 hx (hb hby d12_16) (Jvm.Free.XT.ii_ne_f (hp.elim (fun z => absurd z c2) (fun z => z.elim (fun y => absurd y.1 c7) (fun y => y.2.symm)))) rfl ?_
      refine own_iconst (n := 20) X0 hx (1 : Int32) (hb hby d12_19) rfl rfl ?_
      refine own_goto (n := 24) X0 hx (hb hby d12_20) (by decide) (by decide) ?_
      refine own_retN X0 hx lk hret (by simp) (hb hby d12_24) (by decide) (by decide) ?_
      rw [e0]
      exact ⟨rfl, N0, rfl⟩
theorem d24_0 : decode jdk_29_method_61_code 0 = .ok (.lload_n 0, 1) := by decide +kernel
theorem d24_1 : decode jdk_29_method_61_code 1 = .ok (.lconst 0, 1) := by decide +kernel
theorem d24_2 : decode jdk_29_method_61_code 2 = .ok (.lcmp, 1) := by decide +kernel
theorem d24_3 : decode jdk_29_method_61_code 3 = .ok (.ifCond .ge 8, 3) := by decide +kernel
theorem d24_6 : decode jdk_29_method_61_code 6 = .ok (.lload_n 0, 1) := by decide +kernel
theorem d24_7 : decode jdk_29_method_61_code 7 = .ok (.lneg, 1) := by decide +kernel
theorem d24_8 : decode jdk_29_method_61_code 8 = .ok (.goto 4, 3) := by decide +kernel
theorem d24_11 : decode jdk_29_method_61_code 11 = .ok (.lload_n 0, 1) := by decide +kernel
theorem d24_12 : decode jdk_29_method_61_code 12 = .ok (.lreturn, 1) := by decide +kernel
theorem pn_24 : plainFor (⟨"java/lang/Math", "abs", "(J)J"⟩ : MethodName) = true := by first | exact plainFor_of_name (by first | (simp [plainName, overriddenIn]; done) | decide +kernel) | decide +kernel
theorem ef_24 (m : MethodId) (p1 : Int64) : entryFrame m #[(.long p1)] 2 = mkF m 0 #[.val (.long p1), .second] [] := by first | (simp [entryFrame, argsToLocals, Value.category, Array.replicate]; done) | rfl
theorem pd_24 : parseMethodDescriptor "(J)J" = some ⟨[.long], some .long⟩ := by decide +kernel
def Q24 (Z : State) (p1 : Int64)  (h0 : Heap) (n0 : Nat) (v : Option Value) (h : Heap) (L : List Loc) : Prop := v = some (.long (if p1 < 0 then -p1 else p1)) ∧ Fr n0 L ∧ h0 = h
theorem rm24 (l : Launch) (Z : State) (a0 : Array Value) (hw : ∀ d ∈ tables_1, d.before a0 Z = true) (ws : List Jvm.Cond) (p1 : Int64)  (h0 : Heap) (n0 : Nat) (Z0 : n0 ≤ h0.size)  :
    MetFree l (⟨"java/lang/Math", "abs", "(J)J"⟩ : MethodName) (head1 (Jvm.Cond.code (⟨"java/lang/Math", "abs", "(J)J"⟩ : MethodName) jdk_29_method_61_code 2 (some .long) :: ws) ({ frames := 0, cells := 0, slots := 0, locals := 0 } : Room)) (fun a U => a = #[(.long p1)] ∧ Z.Warmed39 U.vm ∧ U.heap = h0) (fun _ _ _ _ _ => True) (fun _ U o U' => ∃ v L, o = .returned v ∧ (Q24 Z p1  h0 n0) v U'.heap L ∧ FrameEnd U o U' L ({ frames := 0, cells := 0, slots := 0, locals := 0 } : Room).cells ({ frames := 0, cells := 0, slots := 0, locals := 0 } : Room).slots) := by
  refine MetFree.of_bodySF pn_24 hisR ?_
  intro p e s m args below meth c s₁ Bd hml0 hP hK
  obtain ⟨rfl, hZ, hh⟩ := hP
  have hx := Bd.exec
  have hby := Bd.bytes
  have hml : c.maxLocals = 2 := hml0
  have hown : s.vm.findClass "java/lang/Math" = some m.cls := findClass_of_methodNamed Bd.named
  have hnm := (name_of_methodNamed Bd.named Bd.method).1
  have X0 : Stand p l e ({ frames := 0, cells := 0, slots := 0, locals := 0 } : Room) s m #[(.long p1)] below meth c s₁ [] 0 0 := Stand.of_body Bd
  have e0 : s₁.heap = h0 := by rw [← hh, Bd.state]; rfl
  have N0 := Fr.nil n0
  have lk : meth.locks = false := BodyLoose.notSynchronized Bd
  have hret := Bd.returns
  show Ends p e below (EF s ({ frames := 0, cells := 0, slots := 0, locals := 0 } : Room).cells ({ frames := 0, cells := 0, slots := 0, locals := 0 } : Room).slots) (Q24 Z p1  h0 n0) (s₁.setTop (entryFrame m #[(.long p1)] 2))
  refine Ends.cast (ef_24 m p1) ?_
  refine own_lloadN (n := 1) X0 hx (hb hby d24_0) rfl rfl ?_
  refine own_lconst (n := 2) X0 hx (0 : Int64) (hb hby d24_1) rfl rfl ?_
  refine own_lcmp (n := 3) X0 hx (hb hby d24_2) rfl ?_
  by_cases c3 : p1 < (0 : Int64)
  · refine own_ifNo (n := 6) X0 hx (hb hby d24_3) (lw_ge_f c3) rfl ?_
    refine own_lloadN (n := 7) X0 hx (hb hby d24_6) rfl rfl ?_
    refine own_lneg (n := 8) X0 hx (hb hby d24_7) rfl ?_
    refine own_goto (n := 12) X0 hx (hb hby d24_8) (by decide) (by decide) ?_
    refine own_retJ X0 hx lk hret (hb hby d24_12) (by decide) (by decide) ?_
    rw [e0]
    exact ⟨by rw [if_pos c3], N0, rfl⟩
  · refine own_ifYes (n := 11) X0 hx (hb hby d24_3) (lw_ge_t c3) (by decide) (by decide) ?_
    refine own_lloadN (n := 12) X0 hx (hb hby d24_11) rfl rfl ?_
    refine own_retJ X0 hx lk hret (hb hby d24_12) (by decide) (by decide) ?_
    rw [e0]
    exact ⟨by rw [if_neg c3], N0, rfl⟩
theorem d25_0 : decode method_6_code 0 = .ok (.lload_n 0, 1) := by decide +kernel
theorem d25_1 : decode method_6_code 1 = .ok (.lload_n 0, 1) := by decide +kernel
theorem d25_2 : decode method_6_code 2 = .ok (.lconst 1, 1) := by decide +kernel
theorem d25_3 : decode method_6_code 3 = .ok (.lsub, 1) := by decide +kernel
theorem d25_4 : decode method_6_code 4 = .ok (.land, 1) := by decide +kernel
theorem d25_5 : decode method_6_code 5 = .ok (.lconst 0, 1) := by decide +kernel
theorem d25_6 : decode method_6_code 6 = .ok (.lcmp, 1) := by decide +kernel
theorem d25_7 : decode method_6_code 7 = .ok (.ifCond .ne 7, 3) := by decide +kernel
theorem d25_10 : decode method_6_code 10 = .ok (.iconst 1, 1) := by decide +kernel
theorem d25_11 : decode method_6_code 11 = .ok (.goto 4, 3) := by decide +kernel
theorem d25_14 : decode method_6_code 14 = .ok (.iconst 0, 1) := by decide +kernel
theorem d25_15 : decode method_6_code 15 = .ok (.ireturn, 1) := by decide +kernel
theorem pn_25 : plainFor (⟨"com/example/revisit/revisit/policy/ChangeRatesAlikePinLaw", "pow2", "(J)Z"⟩ : MethodName) = true := by first | exact plainFor_of_name (by first | (simp [plainName, overriddenIn]; done) | decide +kernel) | decide +kernel
theorem ef_25 (m : MethodId) (p1 : Int64) : entryFrame m #[(.long p1)] 2 = mkF m 0 #[.val (.long p1), .second] [] := by first | (simp [entryFrame, argsToLocals, Value.category, Array.replicate]; done) | rfl
theorem pd_25 : parseMethodDescriptor "(J)Z" = some ⟨[.long], some .boolean⟩ := by decide +kernel
def Q25 (Z : State) (p1 : Int64)  (h0 : Heap) (n0 : Nat) (v : Option Value) (h : Heap) (L : List Loc) : Prop := ∃ r, v = some (.int r) ∧ ((r = 1 ∧ p1 &&& (p1 - 1) = 0) ∨ (r = 0 ∧ ¬ p1 &&& (p1 - 1) = 0)) ∧ Fr n0 L ∧ h0 = h
theorem rm25 (l : Launch) (Z : State) (a0 : Array Value) (hw : ∀ d ∈ tables_1, d.before a0 Z = true) (ws : List Jvm.Cond) (p1 : Int64)  (h0 : Heap) (n0 : Nat) (Z0 : n0 ≤ h0.size)  :
    MetFree l (⟨"com/example/revisit/revisit/policy/ChangeRatesAlikePinLaw", "pow2", "(J)Z"⟩ : MethodName) (head1 (Jvm.Cond.code (⟨"com/example/revisit/revisit/policy/ChangeRatesAlikePinLaw", "pow2", "(J)Z"⟩ : MethodName) method_6_code 2 (some .boolean) :: ws) ({ frames := 0, cells := 0, slots := 0, locals := 0 } : Room)) (fun a U => a = #[(.long p1)] ∧ Z.Warmed39 U.vm ∧ U.heap = h0) (fun _ _ _ _ _ => True) (fun _ U o U' => ∃ v L, o = .returned v ∧ (Q25 Z p1  h0 n0) v U'.heap L ∧ FrameEnd U o U' L ({ frames := 0, cells := 0, slots := 0, locals := 0 } : Room).cells ({ frames := 0, cells := 0, slots := 0, locals := 0 } : Room).slots) := by
  refine MetFree.of_bodySF pn_25 hisR ?_
  intro p e s m args below meth c s₁ Bd hml0 hP hK
  obtain ⟨rfl, hZ, hh⟩ := hP
  have hx := Bd.exec
  have hby := Bd.bytes
  have hml : c.maxLocals = 2 := hml0
  have hown : s.vm.findClass "com/example/revisit/revisit/policy/ChangeRatesAlikePinLaw" = some m.cls := findClass_of_methodNamed Bd.named
  have hnm := (name_of_methodNamed Bd.named Bd.method).1
  have X0 : Stand p l e ({ frames := 0, cells := 0, slots := 0, locals := 0 } : Room) s m #[(.long p1)] below meth c s₁ [] 0 0 := Stand.of_body Bd
  have e0 : s₁.heap = h0 := by rw [← hh, Bd.state]; rfl
  have N0 := Fr.nil n0
  have lk : meth.locks = false := BodyLoose.notSynchronized Bd
  have hret := Bd.returns
  show Ends p e below (EF s ({ frames := 0, cells := 0, slots := 0, locals := 0 } : Room).cells ({ frames := 0, cells := 0, slots := 0, locals := 0 } : Room).slots) (Q25 Z p1  h0 n0) (s₁.setTop (entryFrame m #[(.long p1)] 2))
  refine Ends.cast (ef_25 m p1) ?_
  refine own_lloadN (n := 1) X0 hx (hb hby d25_0) rfl rfl ?_
  refine own_lloadN (n := 2) X0 hx (hb hby d25_1) rfl rfl ?_
  refine own_lconst (n := 3) X0 hx (1 : Int64) (hb hby d25_2) rfl rfl ?_
  refine own_lsub (n := 4) X0 hx (hb hby d25_3) rfl ?_
  refine own_land (n := 5) X0 hx (hb hby d25_4) rfl ?_
  refine own_lconst (n := 6) X0 hx (0 : Int64) (hb hby d25_5) rfl rfl ?_
  refine own_lcmp (n := 7) X0 hx (hb hby d25_6) rfl ?_
  by_cases c7 : (p1 &&& (p1 - (1 : Int64))) = (0 : Int64)
  · refine own_ifNo (n := 10) X0 hx (hb hby d25_7) (lw_ne_f c7) rfl ?_
    refine own_iconst (n := 11) X0 hx (1 : Int32) (hb hby d25_10) rfl rfl ?_
    refine own_goto (n := 15) X0 hx (hb hby d25_11) (by decide) (by decide) ?_
    refine own_retN X0 hx lk hret (by simp) (hb hby d25_15) (by decide) (by decide) ?_
    rw [e0]
    exact ⟨_, rfl, Or.inl ⟨rfl, c7⟩, N0, rfl⟩
  · refine own_ifYes (n := 14) X0 hx (hb hby d25_7) (lw_ne_t c7) (by decide) (by decide) ?_
    refine own_iconst (n := 15) X0 hx (0 : Int32) (hb hby d25_14) rfl rfl ?_
    refine own_retN X0 hx lk hret (by simp) (hb hby d25_15) (by decide) (by decide) ?_
    rw [e0]
    exact ⟨_, rfl, Or.inr ⟨rfl, c7⟩, N0, rfl⟩
theorem RA.congr {Z : State} {h : Heap} {a : Addr} {C : String} {n : Nat} {f g : Nat → Value} (F : RA Z h a C n f) (e : ∀ j, j < n → f j = g j) : RA Z h a C n g := by
  obtain ⟨q, c, A, O, r1, r2⟩ := F
  exact ⟨q, c, A, O, r1, fun j hj => (r2 j hj).trans (congrArg some (e j hj))⟩
def RLI (Z : State) (h : Heap) (n0 : Nat) (own : Addr → Nat) (i : Nat) (a : Addr) (d : Nat) : Prop := ∃ la ca n g g' r1 r2 r3 ul, RL Z h a r1 r2 r3 (.ref la) (.ref ca) (Nat.toInt32 d) ul ∧ IA Z h la n g ∧ JA Z h ca n g' ∧ own a = i ∧ own la = i ∧ own ca = i ∧ n0 ≤ a ∧ n0 ≤ la ∧ n0 ≤ ca ∧ 1 ≤ d ∧ d ≤ n ∧ n ≤ 8
theorem RLI.exa {Z : State} {h : Heap} {n0 : Nat} {own : Addr → Nat} {i : Nat} {a : Addr} {d : Nat} (F : RLI Z h n0 own i a d) : Exa Z h a "com/example/revisit/revisit/policy/RateLikelihood" := by
  obtain ⟨la, ca, n, g, g', r1, r2, r3, ul, q, -⟩ := F
  exact q.1
theorem RLI.other {Z : State} {h h' : Heap} {n0 : Nat} {own : Addr → Nat} {i : Nat} {a : Addr} {d : Nat} {ws : List Addr} (F : RLI Z h n0 own i a d) (K : Keep h h' ws) (q : ∀ x ∈ ws, own x ≠ i) : RLI Z h' n0 own i a d := by
  obtain ⟨la, ca, n, g, g', r1, r2, r3, ul, f1, f2, f3, o1, o2, o3, r⟩ := F
  exact ⟨la, ca, n, g, g', r1, r2, r3, ul, f1.keep K (fun z => q _ z o1), f2.keep K (fun z => q _ z o2), f3.keep K (fun z => q _ z o3), o1, o2, o3, r⟩
theorem RLI.ext {Z : State} {h h' : Heap} {n0 : Nat} {own : Addr → Nat} {i : Nat} {a : Addr} {d : Nat} (F : RLI Z h n0 own i a d) (E : Ext h h') : RLI Z h' n0 own i a d := by
  obtain ⟨la, ca, n, g, g', r1, r2, r3, ul, f1, f2, f3, r⟩ := F
  exact ⟨la, ca, n, g, g', r1, r2, r3, ul, f1.ext E, f2.ext E, f3.ext E, r⟩
theorem RLI.re {Z : State} {h : Heap} {n0 : Nat} {own own' : Addr → Nat} {i : Nat} {a : Addr} {d : Nat} (F : RLI Z h n0 own i a d) (q : ∀ x, x < h.size → own' x = own x) : RLI Z h n0 own' i a d := by
  obtain ⟨la, ca, n, g, g', r1, r2, r3, ul, f1, f2, f3, o1, o2, o3, r⟩ := F
  exact ⟨la, ca, n, g, g', r1, r2, r3, ul, f1, f2, f3, (q _ f1.lt).trans o1, (q _ f2.lt).trans o2, (q _ f3.lt).trans o3, r⟩
def OWNS (own : Addr → Nat) (a lf fe cf lq dt : Addr) : Prop := own a = 105 ∧ own lf = 100 ∧ own fe = 101 ∧ own cf = 102 ∧ own dt = 103 ∧ own lq = 104
def CRS (Z : State) (h : Heap) (n0 : Nat) (a : Addr) (km : Nat) (lastf chg : Nat → Int32) (dsp : Nat → UInt64) (fs : Int32) (pc ps : Int64) (kn av : Int32) (ob : Nat) : Prop := ∃ (own : Addr → Nat) (lf fe cf lq pl dt : Addr) (rl : Nat → Addr) (gf : Nat → Int32), CR Z h a (.ref lf) (.ref fe) (.ref cf) (.ref lq) (.ref pl) (.ref dt) fs pc ps kn av ∧ IA Z h lf km lastf ∧ IA Z h fe km gf ∧ IA Z h cf km chg ∧ RA Z h lq "com/example/revisit/revisit/policy/RateLikelihood" km (fun j => .ref (rl j)) ∧ DA Z h dt km dsp ∧ OWNS own a lf fe cf lq dt ∧ (n0 ≤ a ∧ n0 ≤ lf ∧ n0 ≤ fe ∧ n0 ≤ cf ∧ n0 ≤ dt) ∧ (∀ j, j < km → ∃ d, d ≤ ob + 1 ∧ RLI Z h n0 own j (rl j) d) ∧ ∃ d, d ≤ ob + 1 ∧ RLI Z h n0 own 50 pl d
theorem CRS.exa {Z : State} {h : Heap} {n0 : Nat} {a : Addr} {km : Nat} {lastf chg : Nat → Int32} {dsp : Nat → UInt64} {fs : Int32} {pc ps : Int64} {kn av : Int32} {ob : Nat} (F : CRS Z h n0 a km lastf chg dsp fs pc ps kn av ob) : Exa Z h a "com/example/revisit/revisit/policy/ChangeRates" := by
  obtain ⟨own, lf, fe, cf, lq, pl, dt, rl, gf, q, -⟩ := F
  exact q.1
theorem d5_0 : decode prog_54_method_1_code 0 = .ok (.aload_n 0, 1) := by decide +kernel
theorem d5_1 : decode prog_54_method_1_code 1 = .ok (.invokespecial 1, 3) := by decide +kernel
theorem d5_4 : decode prog_54_method_1_code 4 = .ok (.aload_n 0, 1) := by decide +kernel
theorem d5_5 : decode prog_54_method_1_code 5 = .ok (.ldc2_w 9, 3) := by decide +kernel
theorem d5_8 : decode prog_54_method_1_code 8 = .ok (.putfield 11, 3) := by decide +kernel
theorem d5_11 : decode prog_54_method_1_code 11 = .ok (.aload_n 0, 1) := by decide +kernel
theorem d5_12 : decode prog_54_method_1_code 12 = .ok (.ldc2_w 9, 3) := by decide +kernel
theorem d5_15 : decode prog_54_method_1_code 15 = .ok (.putfield 17, 3) := by decide +kernel
theorem d5_18 : decode prog_54_method_1_code 18 = .ok (.aload_n 0, 1) := by decide +kernel
theorem d5_19 : decode prog_54_method_1_code 19 = .ok (.ldc2_w 9, 3) := by decide +kernel
theorem d5_22 : decode prog_54_method_1_code 22 = .ok (.putfield 20, 3) := by decide +kernel
theorem d5_25 : decode prog_54_method_1_code 25 = .ok (.aload_n 0, 1) := by decide +kernel
theorem d5_26 : decode prog_54_method_1_code 26 = .ok (.iconst 1, 1) := by decide +kernel
theorem d5_27 : decode prog_54_method_1_code 27 = .ok (.newarray .int, 2) := by decide +kernel
theorem d5_29 : decode prog_54_method_1_code 29 = .ok (.dup, 1) := by decide +kernel
theorem d5_30 : decode prog_54_method_1_code 30 = .ok (.iconst 0, 1) := by decide +kernel
theorem d5_31 : decode prog_54_method_1_code 31 = .ok (.iconst 1, 1) := by decide +kernel
theorem d5_32 : decode prog_54_method_1_code 32 = .ok (.iastore, 1) := by decide +kernel
theorem d5_33 : decode prog_54_method_1_code 33 = .ok (.putfield 23, 3) := by decide +kernel
theorem d5_36 : decode prog_54_method_1_code 36 = .ok (.aload_n 0, 1) := by decide +kernel
theorem d5_37 : decode prog_54_method_1_code 37 = .ok (.iconst 1, 1) := by decide +kernel
theorem d5_38 : decode prog_54_method_1_code 38 = .ok (.newarray .long, 2) := by decide +kernel
theorem d5_40 : decode prog_54_method_1_code 40 = .ok (.dup, 1) := by decide +kernel
theorem d5_41 : decode prog_54_method_1_code 41 = .ok (.iconst 0, 1) := by decide +kernel
theorem d5_42 : decode prog_54_method_1_code 42 = .ok (.lconst 1, 1) := by decide +kernel
theorem d5_43 : decode prog_54_method_1_code 43 = .ok (.lastore, 1) := by decide +kernel
theorem d5_44 : decode prog_54_method_1_code 44 = .ok (.putfield 27, 3) := by decide +kernel
theorem d5_47 : decode prog_54_method_1_code 47 = .ok (.aload_n 0, 1) := by decide +kernel
theorem d5_48 : decode prog_54_method_1_code 48 = .ok (.iconst 1, 1) := by decide +kernel
theorem d5_49 : decode prog_54_method_1_code 49 = .ok (.putfield 31, 3) := by decide +kernel
theorem d5_52 : decode prog_54_method_1_code 52 = .ok (.aload_n 0, 1) := by decide +kernel
theorem d5_53 : decode prog_54_method_1_code 53 = .ok (.lconst 1, 1) := by decide +kernel
theorem d5_54 : decode prog_54_method_1_code 54 = .ok (.putfield 35, 3) := by decide +kernel
theorem d5_57 : decode prog_54_method_1_code 57 = .ok (.return_, 1) := by decide +kernel
theorem pn_5 : plainFor (⟨"com/example/revisit/revisit/policy/RateLikelihood", "<init>", "()V"⟩ : MethodName) = true := by first | exact plainFor_of_name (by first | (simp [plainName, overriddenIn]; done) | decide +kernel) | decide +kernel
theorem ef_5 (m : MethodId) (a1 : Addr) : entryFrame m #[(.ref a1)] 1 = mkF m 0 #[.val (.ref a1)] [] := by first | (simp [entryFrame, argsToLocals, Value.category, Array.replicate]; done) | rfl
theorem pd_5 : parseMethodDescriptor "()V" = some ⟨[], none⟩ := by decide +kernel
def Q5 (Z : State) (a1 : Addr)  (h0 : Heap) (n0 : Nat) (v : Option Value) (h : Heap) (L : List Loc) : Prop := v = none ∧ Fr n0 L ∧ Keep h0 h [a1] ∧ ∃ la ca g g', RL Z h a1 9221120237041090560 9221120237041090560 9221120237041090560 (.ref la) (.ref ca) 1 1 ∧ IA Z h la 1 g ∧ JA Z h ca 1 g' ∧ h0.size ≤ la ∧ h0.size ≤ ca
theorem rm5 (l : Launch) (Z : State) (a0 : Array Value) (hw : ∀ d ∈ tables_1, d.before a0 Z = true) (ws : List Jvm.Cond) (a1 : Addr)  (h0 : Heap) (n0 : Nat) (Z0 : n0 ≤ h0.size) (F0 : RL Z h0 a1 0 0 0 .null .null 0 0) (nb : n0 ≤ a1) :
    MetFree l (⟨"com/example/revisit/revisit/policy/RateLikelihood", "<init>", "()V"⟩ : MethodName) (head1 (Jvm.Cond.code (⟨"com/example/revisit/revisit/policy/RateLikelihood", "<init>", "()V"⟩ : MethodName) prog_54_method_1_code 1 (none) :: ws) ({ frames := 1, cells := 2, slots := 2, locals := 12 } : Room)) (fun a U => a = #[(.ref a1)] ∧ Z.Warmed39 U.vm ∧ U.heap = h0) (fun _ _ _ _ _ => True) (fun _ U o U' => ∃ v L, o = .returned v ∧ (Q5 Z a1  h0 n0) v U'.heap L ∧ FrameEnd U o U' L ({ frames := 1, cells := 2, slots := 2, locals := 12 } : Room).cells ({ frames := 1, cells := 2, slots := 2, locals := 12 } : Room).slots) := by
  refine MetFree.of_bodySF pn_5 hisR ?_
  intro p e s m args below meth c s₁ Bd hml0 hP hK
  obtain ⟨rfl, hZ, hh⟩ := hP
  have hx := Bd.exec
  have hby := Bd.bytes
  have hml : c.maxLocals = 1 := hml0
  have hown : s.vm.findClass "com/example/revisit/revisit/policy/RateLikelihood" = some m.cls := findClass_of_methodNamed Bd.named
  have hnm := (name_of_methodNamed Bd.named Bd.method).1
  have X0 : Stand p l e ({ frames := 1, cells := 2, slots := 2, locals := 12 } : Room) s m #[(.ref a1)] below meth c s₁ [] 0 0 := Stand.of_body Bd
  have e0 : s₁.heap = h0 := by rw [← hh, Bd.state]; rfl
  have N0 := Fr.nil n0
  have lk : meth.locks = false := BodyLoose.notSynchronized Bd
  have hret := Bd.returns
  show Ends p e below (EF s ({ frames := 1, cells := 2, slots := 2, locals := 12 } : Room).cells ({ frames := 1, cells := 2, slots := 2, locals := 12 } : Room).slots) (Q5 Z a1  h0 n0) (s₁.setTop (entryFrame m #[(.ref a1)] 1))
  refine Ends.cast (ef_5 m a1) ?_
  refine own_aloadN (n := 1) X0 hx (hb hby d5_0) rfl rfl rfl ?_
  refine own_initO (n := 4) X0 hx hZ hown (hw _ (List.mem_of_getElem? (i := 23) rfl)) (hw _ (List.mem_of_getElem? (i := 24) rfl)) (hw _ (List.mem_of_getElem? (i := 25) rfl)) e0 (by rw [hml]; rfl) (hb hby d5_1) rfl (by decide) (W := 0) (Nat.le_of_eq rfl) (by decide) ?_
  intro T1 X1 e1
  refine own_aloadN (n := 5) X1 hx (hb hby d5_4) rfl rfl rfl ?_
  refine own_ldcD (n := 8) X1 hx hZ hown (hw _ (List.mem_of_getElem? (i := 26) rfl)) (hb hby d5_5) rfl ?_
  refine own_putF (n := 11) X1 hx hZ hown (hw _ (List.mem_of_getElem? (i := 27) rfl)) e1 F0.2.1 F0.1 (Or.inl (hw _ (List.mem_of_getElem? (i := 28) rfl))) (hw _ (List.mem_of_getElem? (i := 18) rfl)) (ty := .double) (by decide) rfl rfl (hb hby d5_8) rfl ?_
  intro T2 h2 X2 e2 W2
  have N2 := Fr.snoc X2 N0 nb
  have Z2 : n0 ≤ h2.size := Nat.le_trans Z0 (Keep.of_wr W2).1
  have F2_a1 := F0.set_rate hw W2
  have K2 : Keep _ h2 [a1] := (Keep.refl h0 [a1]).wr W2 (Or.inl (List.mem_of_getElem? (i := 0) rfl))
  refine own_aloadN (n := 12) X2 hx (hb hby d5_11) rfl rfl rfl ?_
  refine own_ldcD (n := 15) X2 hx hZ hown (hw _ (List.mem_of_getElem? (i := 26) rfl)) (hb hby d5_12) rfl ?_
  refine own_putF (n := 18) X2 hx hZ hown (hw _ (List.mem_of_getElem? (i := 29) rfl)) e2 F2_a1.2.2.1 F2_a1.1 (Or.inl (hw _ (List.mem_of_getElem? (i := 30) rfl))) (hw _ (List.mem_of_getElem? (i := 18) rfl)) (ty := .double) (by decide) rfl rfl (hb hby d5_15) rfl ?_
  intro T3 h3 X3 e3 W3
  have N3 := Fr.snoc X3 N2 nb
  have Z3 : n0 ≤ h3.size := Nat.le_trans Z2 (Keep.of_wr W3).1
  have F3_a1 := F2_a1.set_lowRate hw W3
  have K3 : Keep _ h3 [a1] := K2.wr W3 (Or.inl (List.mem_of_getElem? (i := 0) rfl))
  refine own_aloadN (n := 19) X3 hx (hb hby d5_18) rfl rfl rfl ?_
  refine own_ldcD (n := 22) X3 hx hZ hown (hw _ (List.mem_of_getElem? (i := 26) rfl)) (hb hby d5_19) rfl ?_
  refine own_putF (n := 25) X3 hx hZ hown (hw _ (List.mem_of_getElem? (i := 31) rfl)) e3 F3_a1.2.2.2.1 F3_a1.1 (Or.inl (hw _ (List.mem_of_getElem? (i := 32) rfl))) (hw _ (List.mem_of_getElem? (i := 18) rfl)) (ty := .double) (by decide) rfl rfl (hb hby d5_22) rfl ?_
  intro T4 h4 X4 e4 W4
  have N4 := Fr.snoc X4 N3 nb
  have Z4 : n0 ≤ h4.size := Nat.le_trans Z3 (Keep.of_wr W4).1
  have F4_a1 := F3_a1.set_highRate hw W4
  have K4 : Keep _ h4 [a1] := K3.wr W4 (Or.inl (List.mem_of_getElem? (i := 0) rfl))
  refine own_aloadN (n := 26) X4 hx (hb hby d5_25) rfl rfl rfl ?_
  refine own_iconst (n := 27) X4 hx (1 : Int32) (hb hby d5_26) rfl rfl ?_
  refine own_newI (n := 29) X4 hx hZ (hw _ (List.mem_of_getElem? (i := 33) rfl)) e4 (i := 1) (cap := 1) rfl (by decide) (by decide) (by decide) (by decide) (hb hby d5_27) rfl ?_
  intro T5 h5 b5 X5 e5 g5 E5 A5
  have Z5 : n0 ≤ h5.size := Nat.le_trans Z4 E5.1
  have nb_b5 : n0 ≤ b5 := Nat.le_trans Z4 (Nat.le_of_eq g5.symm)
  have ne_a1_b5 : a1 ≠ b5 := Nat.ne_of_lt (Nat.lt_of_lt_of_le F4_a1.lt (Nat.le_of_eq g5.symm))
  have F5_a1 := F4_a1.ext E5
  have K5 : Keep _ h5 [a1] := K4.ext E5
  have big_b5 : _ ≤ b5 := Nat.le_trans K4.1 (Nat.le_of_eq g5.symm)
  refine own_dup (n := 30) X5 hx (hb hby d5_29) rfl rfl ?_
  refine own_iconst (n := 31) X5 hx (0 : Int32) (hb hby d5_30) rfl rfl ?_
  refine own_iconst (n := 32) X5 hx (1 : Int32) (hb hby d5_31) rfl rfl ?_
  refine own_iastore (n := 33) X5 hx hZ e5 A5 (i := 0) rfl (by decide) (hb hby d5_32) rfl ?_
  intro T6 h6 X6 e6 W6 A6
  have N6 := Fr.snoc X6 N4 nb_b5
  have Z6 : n0 ≤ h6.size := Nat.le_trans Z5 (Keep.of_wr W6).1
  have F6_a1 := F5_a1.wrO W6 ne_a1_b5
  have K6 : Keep _ h6 [a1] := K5.wr W6 (Or.inr big_b5)
  refine own_putF (n := 36) X6 hx hZ hown (hw _ (List.mem_of_getElem? (i := 34) rfl)) e6 F6_a1.2.2.2.2.1 F6_a1.1 (Or.inl (hw _ (List.mem_of_getElem? (i := 35) rfl))) (hw _ (List.mem_of_getElem? (i := 18) rfl)) (ty := (.array .int)) (by decide) rfl rfl (hb hby d5_33) rfl ?_
  intro T7 h7 X7 e7 W7
  have N7 := Fr.snoc X7 N6 nb
  have Z7 : n0 ≤ h7.size := Nat.le_trans Z6 (Keep.of_wr W7).1
  have F7_a1 := F6_a1.set_changedLengths hw W7
  have F7_b5 := A6.wrO W7 (Ne.symm ne_a1_b5)
  have K7 : Keep _ h7 [a1] := K6.wr W7 (Or.inl (List.mem_of_getElem? (i := 0) rfl))
  refine own_aloadN (n := 37) X7 hx (hb hby d5_36) rfl rfl rfl ?_
  refine own_iconst (n := 38) X7 hx (1 : Int32) (hb hby d5_37) rfl rfl ?_
  refine own_newJA (n := 40) X7 hx hZ (hw _ (List.mem_of_getElem? (i := 36) rfl)) e7 (i := 1) (cap := 1) rfl (by decide) (by decide) (by decide) (by decide) (hb hby d5_38) rfl ?_
  intro T8 h8 b8 X8 e8 g8 E8 A8
  have Z8 : n0 ≤ h8.size := Nat.le_trans Z7 E8.1
  have nb_b8 : n0 ≤ b8 := Nat.le_trans Z7 (Nat.le_of_eq g8.symm)
  have ne_a1_b8 : a1 ≠ b8 := Nat.ne_of_lt (Nat.lt_of_lt_of_le F7_a1.lt (Nat.le_of_eq g8.symm))
  have F8_a1 := F7_a1.ext E8
  have ne_b5_b8 : b5 ≠ b8 := Nat.ne_of_lt (Nat.lt_of_lt_of_le F7_b5.lt (Nat.le_of_eq g8.symm))
  have F8_b5 := F7_b5.ext E8
  have K8 : Keep _ h8 [a1] := K7.ext E8
  have big_b8 : _ ≤ b8 := Nat.le_trans K7.1 (Nat.le_of_eq g8.symm)
  refine own_dup (n := 41) X8 hx (hb hby d5_40) rfl rfl ?_
  refine own_iconst (n := 42) X8 hx (0 : Int32) (hb hby d5_41) rfl rfl ?_
  refine own_lconst (n := 43) X8 hx (1 : Int64) (hb hby d5_42) rfl rfl ?_
  refine own_lastore (n := 44) X8 hx hZ e8 A8 (i := 0) rfl (by decide) (hb hby d5_43) rfl ?_
  intro T9 h9 X9 e9 W9 A9
  have N9 := Fr.snoc X9 N7 nb_b8
  have Z9 : n0 ≤ h9.size := Nat.le_trans Z8 (Keep.of_wr W9).1
  have F9_a1 := F8_a1.wrO W9 ne_a1_b8
  have F9_b5 := F8_b5.wrO W9 ne_b5_b8
  have K9 : Keep _ h9 [a1] := K8.wr W9 (Or.inr big_b8)
  refine own_putF (n := 47) X9 hx hZ hown (hw _ (List.mem_of_getElem? (i := 37) rfl)) e9 F9_a1.2.2.2.2.2.1 F9_a1.1 (Or.inl (hw _ (List.mem_of_getElem? (i := 38) rfl))) (hw _ (List.mem_of_getElem? (i := 18) rfl)) (ty := (.array .long)) (by decide) rfl rfl (hb hby d5_44) rfl ?_
  intro T10 h10 X10 e10 W10
  have N10 := Fr.snoc X10 N9 nb
  have Z10 : n0 ≤ h10.size := Nat.le_trans Z9 (Keep.of_wr W10).1
  have F10_a1 := F9_a1.set_changedCounts hw W10
  have F10_b5 := F9_b5.wrO W10 (Ne.symm ne_a1_b5)
  have F10_b8 := A9.wrO W10 (Ne.symm ne_a1_b8)
  have K10 : Keep _ h10 [a1] := K9.wr W10 (Or.inl (List.mem_of_getElem? (i := 0) rfl))
  refine own_aloadN (n := 48) X10 hx (hb hby d5_47) rfl rfl rfl ?_
  refine own_iconst (n := 49) X10 hx (1 : Int32) (hb hby d5_48) rfl rfl ?_
  refine own_putF (n := 52) X10 hx hZ hown (hw _ (List.mem_of_getElem? (i := 39) rfl)) e10 F10_a1.2.2.2.2.2.2.1 F10_a1.1 (Or.inl (hw _ (List.mem_of_getElem? (i := 40) rfl))) (hw _ (List.mem_of_getElem? (i := 18) rfl)) (ty := .int) (by decide) rfl rfl (hb hby d5_49) rfl ?_
  intro T11 h11 X11 e11 W11
  have N11 := Fr.snoc X11 N10 nb
  have Z11 : n0 ≤ h11.size := Nat.le_trans Z10 (Keep.of_wr W11).1
  have F11_a1 := F10_a1.set_distinctLengths hw W11
  have F11_b5 := F10_b5.wrO W11 (Ne.symm ne_a1_b5)
  have F11_b8 := F10_b8.wrO W11 (Ne.symm ne_a1_b8)
  have K11 : Keep _ h11 [a1] := K10.wr W11 (Or.inl (List.mem_of_getElem? (i := 0) rfl))
  refine own_aloadN (n := 53) X11 hx (hb hby d5_52) rfl rfl rfl ?_
  refine own_lconst (n := 54) X11 hx (1 : Int64) (hb hby d5_53) rfl rfl ?_
  refine own_putF (n := 57) X11 hx hZ hown (hw _ (List.mem_of_getElem? (i := 41) rfl)) e11 F11_a1.2.2.2.2.2.2.2 F11_a1.1 (Or.inl (hw _ (List.mem_of_getElem? (i := 42) rfl))) (hw _ (List.mem_of_getElem? (i := 18) rfl)) (ty := .long) (by decide) rfl rfl (hb hby d5_54) rfl ?_
  intro T12 h12 X12 e12 W12
  have N12 := Fr.snoc X12 N11 nb
  have Z12 : n0 ≤ h12.size := Nat.le_trans Z11 (Keep.of_wr W12).1
  have F12_a1 := F11_a1.set_unchangedLength hw W12
  have F12_b5 := F11_b5.wrO W12 (Ne.symm ne_a1_b5)
  have F12_b8 := F11_b8.wrO W12 (Ne.symm ne_a1_b8)
  have K12 : Keep _ h12 [a1] := K11.wr W12 (Or.inl (List.mem_of_getElem? (i := 0) rfl))
  refine own_retV X12 hx lk hret (hb hby d5_57) (by decide) (by decide) ?_
  rw [e12]
  exact ⟨rfl, N12, K12, _, _, _, _, F12_a1, F12_b5, F12_b8, big_b5, big_b8⟩
theorem d8_0 : decode jdk_65_method_103_code 0 = .ok (.iconst 0, 1) := by decide +kernel
theorem d8_1 : decode jdk_65_method_103_code 1 = .ok (.istore_n 2, 1) := by decide +kernel
theorem d8_2 : decode jdk_65_method_103_code 2 = .ok (.aload_n 0, 1) := by decide +kernel
theorem d8_3 : decode jdk_65_method_103_code 3 = .ok (.arraylength, 1) := by decide +kernel
theorem d8_4 : decode jdk_65_method_103_code 4 = .ok (.istore_n 3, 1) := by decide +kernel
theorem d8_5 : decode jdk_65_method_103_code 5 = .ok (.iload_n 2, 1) := by decide +kernel
theorem d8_6 : decode jdk_65_method_103_code 6 = .ok (.iload_n 3, 1) := by decide +kernel
theorem d8_7 : decode jdk_65_method_103_code 7 = .ok (.if_icmp .ge 13, 3) := by decide +kernel
theorem d8_10 : decode jdk_65_method_103_code 10 = .ok (.aload_n 0, 1) := by decide +kernel
theorem d8_11 : decode jdk_65_method_103_code 11 = .ok (.iload_n 2, 1) := by decide +kernel
theorem d8_12 : decode jdk_65_method_103_code 12 = .ok (.iload_n 1, 1) := by decide +kernel
theorem d8_13 : decode jdk_65_method_103_code 13 = .ok (.iastore, 1) := by decide +kernel
theorem d8_14 : decode jdk_65_method_103_code 14 = .ok (.iinc 2 1, 3) := by decide +kernel
theorem d8_17 : decode jdk_65_method_103_code 17 = .ok (.goto (-12), 3) := by decide +kernel
theorem d8_20 : decode jdk_65_method_103_code 20 = .ok (.return_, 1) := by decide +kernel
theorem pn_8 : plainFor (⟨"java/util/Arrays", "fill", "([II)V"⟩ : MethodName) = true := by first | exact plainFor_of_name (by first | (simp [plainName, overriddenIn]; done) | decide +kernel) | decide +kernel
theorem ef_8 (m : MethodId) (a1 : Addr) (p2 : Int32) : entryFrame m #[(.ref a1), (.int p2)] 4 = mkF m 0 #[.val (.ref a1), .val (.int p2), .unset, .unset] [] := by first | (simp [entryFrame, argsToLocals, Value.category, Array.replicate]; done) | rfl
theorem pd_8 : parseMethodDescriptor "([II)V" = some ⟨[(.array .int), .int], none⟩ := by decide +kernel
def Q8 (Z : State) (a1 : Addr) (p2 : Int32) (n : Nat) (g : Nat → Int32) (h0 : Heap) (n0 : Nat) (v : Option Value) (h : Heap) (L : List Loc) : Prop := v = none ∧ Fr n0 L ∧ Keep h0 h [a1] ∧ IA Z h a1 n (fun _ => p2)
theorem rm8 (l : Launch) (Z : State) (a0 : Array Value) (hw : ∀ d ∈ tables_1, d.before a0 Z = true) (ws : List Jvm.Cond) (a1 : Addr) (p2 : Int32) (n : Nat) (g : Nat → Int32) (h0 : Heap) (n0 : Nat) (Z0 : n0 ≤ h0.size) (A : IA Z h0 a1 n g) (nb : n0 ≤ a1) (hn : n < 100) :
    MetFree l (⟨"java/util/Arrays", "fill", "([II)V"⟩ : MethodName) (head1 (Jvm.Cond.code (⟨"java/util/Arrays", "fill", "([II)V"⟩ : MethodName) jdk_65_method_103_code 4 (none) :: ws) ({ frames := 0, cells := 0, slots := 0, locals := 0 } : Room)) (fun a U => a = #[(.ref a1), (.int p2)] ∧ Z.Warmed39 U.vm ∧ U.heap = h0) (fun _ _ _ _ _ => True) (fun _ U o U' => ∃ v L, o = .returned v ∧ (Q8 Z a1 p2 n g h0 n0) v U'.heap L ∧ FrameEnd U o U' L ({ frames := 0, cells := 0, slots := 0, locals := 0 } : Room).cells ({ frames := 0, cells := 0, slots := 0, locals := 0 } : Room).slots) := by
  refine MetFree.of_bodySF pn_8 hisR ?_
  intro p e s m args below meth c s₁ Bd hml0 hP hK
  obtain ⟨rfl, hZ, hh⟩ := hP
  have hx := Bd.exec
  have hby := Bd.bytes
  have hml : c.maxLocals = 4 := hml0
  have hown : s.vm.findClass "java/util/Arrays" = some m.cls := findClass_of_methodNamed Bd.named
  have hnm := (name_of_methodNamed Bd.named Bd.method).1
  have X0 : Stand p l e ({ frames := 0, cells := 0, slots := 0, locals := 0 } : Room) s m #[(.ref a1), (.int p2)] below meth c s₁ [] 0 0 := Stand.of_body Bd
  have e0 : s₁.heap = h0 := by rw [← hh, Bd.state]; rfl
  have N0 := Fr.nil n0
  have lk : meth.locks = false := BodyLoose.notSynchronized Bd
  have hret := Bd.returns
  show Ends p e below (EF s ({ frames := 0, cells := 0, slots := 0, locals := 0 } : Room).cells ({ frames := 0, cells := 0, slots := 0, locals := 0 } : Room).slots) (Q8 Z a1 p2 n g h0 n0) (s₁.setTop (entryFrame m #[(.ref a1), (.int p2)] 4))
  refine Ends.cast (ef_8 m a1 p2) ?_
  have loop : ∀ (mm : Nat) (TB : State) (hB : Heap) (lB : List Loc) (ii : Int32) (i : Nat) (gB : Nat → Int32) (XB : Stand p l e ({ frames := 0, cells := 0, slots := 0, locals := 0 } : Room) s m #[(.ref a1), (.int p2)] below meth c TB lB (0) (0)) (eB : TB.heap = hB) (NB : Fr n0 lB) (ZB : n0 ≤ hB.size) (hii : ii.toInt = (i : Int)) (hin : i + mm = n) (AB : IA Z hB a1 n gB) (hg : ∀ j, j < i → gB j = p2) (KB : Keep h0 hB [a1]), Ends p e below (EF s ({ frames := 0, cells := 0, slots := 0, locals := 0 } : Room).cells ({ frames := 0, cells := 0, slots := 0, locals := 0 } : Room).slots) (Q8 Z a1 p2 n g h0 n0) (TB.setTop (mkF m 5 #[.val (.ref a1), .val (.int p2), .val (.int ii), .val (.int (Nat.toInt32 n))] [])) := by
    intro mm
    induction mm with
    | zero =>
      intro TB hB lB ii i gB XB eB NB ZB hii hin AB hg KB
      refine own_iloadN (n := 6) XB hx (hb hby d8_5) rfl rfl ?_
      refine own_iloadN (n := 7) XB hx (hb hby d8_6) rfl rfl ?_
      refine own_icmpYes (n := 20) XB hx (hb hby d8_7) (Jvm.Free.XT.ii_ge_t (by rw [Int32.lt_iff_toInt_lt, len_toInt (by omega)]; omega)) (by decide) (by decide) ?_
      refine own_retV XB hx lk hret (hb hby d8_20) (by decide) (by decide) ?_
      rw [eB]
      exact ⟨rfl, NB, KB, IA.congr AB (fun j hj => hg j (by omega))⟩
    | succ mm ih =>
      intro TB hB lB ii i gB XB eB NB ZB hii hin AB hg KB
      refine own_iloadN (n := 6) XB hx (hb hby d8_5) rfl rfl ?_
      refine own_iloadN (n := 7) XB hx (hb hby d8_6) rfl rfl ?_
      refine own_icmpNo (n := 10) XB hx (hb hby d8_7) (Jvm.Free.XT.ii_ge_f (by rw [Int32.lt_iff_toInt_lt, len_toInt (by omega)]; omega)) rfl ?_
      refine own_aloadN (n := 11) XB hx (hb hby d8_10) rfl rfl rfl ?_
      refine own_iloadN (n := 12) XB hx (hb hby d8_11) rfl rfl ?_
      refine own_iloadN (n := 13) XB hx (hb hby d8_12) rfl rfl ?_
      refine own_iastore (n := 14) XB hx hZ eB AB (i := i) hii (by omega) (hb hby d8_13) rfl ?_
      intro T1 h1 X1 e1 W1 A1
      have N1 := Fr.snoc X1 NB nb
      have Z1 : n0 ≤ h1.size := Nat.le_trans ZB (Keep.of_wr W1).1
      have K1 : Keep _ h1 [a1] := KB.wr W1 (Or.inl (List.mem_of_getElem? (i := 0) rfl))
      refine own_iinc (n := 17) X1 hx (hb hby d8_14) rfl (v := (1 : Int32)) rfl (l' := #[.val (.ref a1), .val (.int p2), .val (.int (ii + (1 : Int32))), .val (.int (Nat.toInt32 n))]) rfl rfl ?_
      refine own_goto (n := 5) X1 hx (hb hby d8_17) (by decide) (by decide) ?_
      show Ends p e below (EF s ({ frames := 0, cells := 0, slots := 0, locals := 0 } : Room).cells ({ frames := 0, cells := 0, slots := 0, locals := 0 } : Room).slots) (Q8 Z a1 p2 n g h0 n0) (T1.setTop (mkF m 5 #[.val (.ref a1), .val (.int p2), .val (.int (ii + (1 : Int32))), .val (.int (Nat.toInt32 n))] []))
      exact ih _ _ _ _ (i + 1) _ X1 e1 N1 Z1 (own_add1 hii (by omega)) (by omega) A1 (fun j hj => by
        by_cases e : j = i
        · simp [e]
        · simp [e, hg j (by omega)]) K1
  refine own_iconst (n := 1) X0 hx (0 : Int32) (hb hby d8_0) rfl rfl ?_
  refine own_istoreN (n := 2) X0 hx (hb hby d8_1) (l' := #[.val (.ref a1), .val (.int p2), .val (.int (0 : Int32)), .unset]) rfl rfl ?_
  refine own_aloadN (n := 3) X0 hx (hb hby d8_2) rfl rfl rfl ?_
  refine own_arraylength (n := 4) X0 hx hZ e0 A (v := (Nat.toInt32 n)) (len_toInt (by omega)) (hb hby d8_3) rfl ?_
  refine own_istoreN (n := 5) X0 hx (hb hby d8_4) (l' := #[.val (.ref a1), .val (.int p2), .val (.int (0 : Int32)), .val (.int (Nat.toInt32 n))]) rfl rfl ?_
  show Ends p e below (EF s ({ frames := 0, cells := 0, slots := 0, locals := 0 } : Room).cells ({ frames := 0, cells := 0, slots := 0, locals := 0 } : Room).slots) (Q8 Z a1 p2 n g h0 n0) (s₁.setTop (mkF m 5 #[.val (.ref a1), .val (.int p2), .val (.int (0 : Int32)), .val (.int (Nat.toInt32 n))] []))
  exact loop n _ _ _ _ 0 _ X0 e0 N0 Z0 rfl (by omega) A (fun j hj => absurd hj (Nat.not_lt_zero _)) (Keep.refl h0 [a1])
theorem d7_0 : decode prog_35_method_2_code 0 = .ok (.aload_n 0, 1) := by decide +kernel
theorem d7_1 : decode prog_35_method_2_code 1 = .ok (.invokespecial 20, 3) := by decide +kernel
theorem d7_4 : decode prog_35_method_2_code 4 = .ok (.aload_n 0, 1) := by decide +kernel
theorem d7_5 : decode prog_35_method_2_code 5 = .ok (.iload_n 1, 1) := by decide +kernel
theorem d7_6 : decode prog_35_method_2_code 6 = .ok (.newarray .int, 2) := by decide +kernel
theorem d7_8 : decode prog_35_method_2_code 8 = .ok (.putfield 23, 3) := by decide +kernel
theorem d7_11 : decode prog_35_method_2_code 11 = .ok (.aload_n 0, 1) := by decide +kernel
theorem d7_12 : decode prog_35_method_2_code 12 = .ok (.getfield 23, 3) := by decide +kernel
theorem d7_15 : decode prog_35_method_2_code 15 = .ok (.iconst (-1), 1) := by decide +kernel
theorem d7_16 : decode prog_35_method_2_code 16 = .ok (.invokestatic 27, 3) := by decide +kernel
theorem d7_19 : decode prog_35_method_2_code 19 = .ok (.aload_n 0, 1) := by decide +kernel
theorem d7_20 : decode prog_35_method_2_code 20 = .ok (.iload_n 1, 1) := by decide +kernel
theorem d7_21 : decode prog_35_method_2_code 21 = .ok (.newarray .int, 2) := by decide +kernel
theorem d7_23 : decode prog_35_method_2_code 23 = .ok (.putfield 33, 3) := by decide +kernel
theorem d7_26 : decode prog_35_method_2_code 26 = .ok (.aload_n 0, 1) := by decide +kernel
theorem d7_27 : decode prog_35_method_2_code 27 = .ok (.iload_n 1, 1) := by decide +kernel
theorem d7_28 : decode prog_35_method_2_code 28 = .ok (.newarray .int, 2) := by decide +kernel
theorem d7_30 : decode prog_35_method_2_code 30 = .ok (.putfield 36, 3) := by decide +kernel
theorem d7_33 : decode prog_35_method_2_code 33 = .ok (.aload_n 0, 1) := by decide +kernel
theorem d7_34 : decode prog_35_method_2_code 34 = .ok (.iload_n 1, 1) := by decide +kernel
theorem d7_35 : decode prog_35_method_2_code 35 = .ok (.anewarray 7, 3) := by decide +kernel
theorem d7_38 : decode prog_35_method_2_code 38 = .ok (.putfield 16, 3) := by decide +kernel
theorem d7_41 : decode prog_35_method_2_code 41 = .ok (.aload_n 0, 1) := by decide +kernel
theorem d7_42 : decode prog_35_method_2_code 42 = .ok (.aload_n 2, 1) := by decide +kernel
theorem d7_43 : decode prog_35_method_2_code 43 = .ok (.putfield 39, 3) := by decide +kernel
theorem d7_46 : decode prog_35_method_2_code 46 = .ok (.aload_n 0, 1) := by decide +kernel
theorem d7_47 : decode prog_35_method_2_code 47 = .ok (.iload_n 1, 1) := by decide +kernel
theorem d7_48 : decode prog_35_method_2_code 48 = .ok (.newarray .double, 2) := by decide +kernel
theorem d7_50 : decode prog_35_method_2_code 50 = .ok (.putfield 43, 3) := by decide +kernel
theorem d7_53 : decode prog_35_method_2_code 53 = .ok (.return_, 1) := by decide +kernel
theorem pn_7 : plainFor (⟨"com/example/revisit/revisit/policy/ChangeRates", "<init>", "(ILcom/example/revisit/revisit/policy/RateLikelihood;)V"⟩ : MethodName) = true := by first | exact plainFor_of_name (by first | (simp [plainName, overriddenIn]; done) | decide +kernel) | decide +kernel
theorem ef_7 (m : MethodId) (a1 : Addr) (p2 : Int32) (a3 : Addr) : entryFrame m #[(.ref a1), (.int p2), (.ref a3)] 3 = mkF m 0 #[.val (.ref a1), .val (.int p2), .val (.ref a3)] [] := by first | (simp [entryFrame, argsToLocals, Value.category, Array.replicate]; done) | rfl
theorem pd_7 : parseMethodDescriptor "(ILcom/example/revisit/revisit/policy/RateLikelihood;)V" = some ⟨[.int, (.object "com/example/revisit/revisit/policy/RateLikelihood")], none⟩ := by decide +kernel
def Q7 (Z : State) (a1 : Addr) (p2 : Int32) (a3 : Addr) (km : Nat) (h0 : Heap) (n0 : Nat) (v : Option Value) (h : Heap) (L : List Loc) : Prop := v = none ∧ Fr n0 L ∧ Keep h0 h [a1] ∧ ∃ lf fe cf lq dt, CR Z h a1 (.ref lf) (.ref fe) (.ref cf) (.ref lq) (.ref a3) (.ref dt) 0 0 0 0 0 ∧ IA Z h lf km (fun _ => -1) ∧ IA Z h fe km (fun _ => 0) ∧ IA Z h cf km (fun _ => 0) ∧ RA Z h lq "com/example/revisit/revisit/policy/RateLikelihood" km (fun _ => .null) ∧ DA Z h dt km (fun _ => 0) ∧ (lf < fe ∧ fe < cf ∧ cf < lq ∧ lq < dt) ∧ (h0.size ≤ lf ∧ h0.size ≤ fe ∧ h0.size ≤ cf ∧ h0.size ≤ lq ∧ h0.size ≤ dt)
theorem rm7 (l : Launch) (Z : State) (a0 : Array Value) (hw : ∀ d ∈ tables_1, d.before a0 Z = true) (ws : List Jvm.Cond) (a1 : Addr) (p2 : Int32) (a3 : Addr) (km : Nat) (h0 : Heap) (n0 : Nat) (Z0 : n0 ≤ h0.size) (F0 : CR Z h0 a1 .null .null .null .null .null .null 0 0 0 0 0) (nb : n0 ≤ a1) (hp : p2.toInt = (km : Int)) (hm3 : km ≤ 3) :
    MetFree l (⟨"com/example/revisit/revisit/policy/ChangeRates", "<init>", "(ILcom/example/revisit/revisit/policy/RateLikelihood;)V"⟩ : MethodName) (head1 (Jvm.Cond.code (⟨"com/example/revisit/revisit/policy/ChangeRates", "<init>", "(ILcom/example/revisit/revisit/policy/RateLikelihood;)V"⟩ : MethodName) prog_35_method_2_code 3 (none) :: ws) ({ frames := 1, cells := 5, slots := 15, locals := 15 } : Room)) (fun a U => a = #[(.ref a1), (.int p2), (.ref a3)] ∧ Z.Warmed39 U.vm ∧ U.heap = h0) (fun _ _ _ _ _ => True) (fun _ U o U' => ∃ v L, o = .returned v ∧ (Q7 Z a1 p2 a3 km h0 n0) v U'.heap L ∧ FrameEnd U o U' L ({ frames := 1, cells := 5, slots := 15, locals := 15 } : Room).cells ({ frames := 1, cells := 5, slots := 15, locals := 15 } : Room).slots) := by
  refine MetFree.of_bodySF pn_7 hisR ?_
  intro p e s m args below meth c s₁ Bd hml0 hP hK
  obtain ⟨rfl, hZ, hh⟩ := hP
  have hx := Bd.exec
  have hby := Bd.bytes
  have hml : c.maxLocals = 3 := hml0
  have hown : s.vm.findClass "com/example/revisit/revisit/policy/ChangeRates" = some m.cls := findClass_of_methodNamed Bd.named
  have hnm := (name_of_methodNamed Bd.named Bd.method).1
  have X0 : Stand p l e ({ frames := 1, cells := 5, slots := 15, locals := 15 } : Room) s m #[(.ref a1), (.int p2), (.ref a3)] below meth c s₁ [] 0 0 := Stand.of_body Bd
  have e0 : s₁.heap = h0 := by rw [← hh, Bd.state]; rfl
  have N0 := Fr.nil n0
  have lk : meth.locks = false := BodyLoose.notSynchronized Bd
  have hret := Bd.returns
  show Ends p e below (EF s ({ frames := 1, cells := 5, slots := 15, locals := 15 } : Room).cells ({ frames := 1, cells := 5, slots := 15, locals := 15 } : Room).slots) (Q7 Z a1 p2 a3 km h0 n0) (s₁.setTop (entryFrame m #[(.ref a1), (.int p2), (.ref a3)] 3))
  refine Ends.cast (ef_7 m a1 p2 a3) ?_
  refine own_aloadN (n := 1) X0 hx (hb hby d7_0) rfl rfl rfl ?_
  refine own_initO (n := 4) X0 hx hZ hown (hw _ (List.mem_of_getElem? (i := 46) rfl)) (hw _ (List.mem_of_getElem? (i := 24) rfl)) (hw _ (List.mem_of_getElem? (i := 25) rfl)) e0 (by rw [hml]; rfl) (hb hby d7_1) rfl (by decide) (W := 0) (Nat.le_of_eq rfl) (by decide) ?_
  intro T1 X1 e1
  refine own_aloadN (n := 5) X1 hx (hb hby d7_4) rfl rfl rfl ?_
  refine own_iloadN (n := 6) X1 hx (hb hby d7_5) rfl rfl ?_
  refine own_newI (n := 8) X1 hx hZ (hw _ (List.mem_of_getElem? (i := 33) rfl)) e1 (i := km) (cap := 3) hp hm3 (by decide) (by decide) (by decide) (hb hby d7_6) rfl ?_
  intro T2 h2 b2 X2 e2 g2 E2 A2
  have Z2 : n0 ≤ h2.size := Nat.le_trans Z0 E2.1
  have nb_b2 : n0 ≤ b2 := Nat.le_trans Z0 (Nat.le_of_eq g2.symm)
  have lt_a1_b2 : a1 < b2 := Nat.lt_of_lt_of_le F0.lt (Nat.le_of_eq g2.symm)
  have ne_a1_b2 : a1 ≠ b2 := Nat.ne_of_lt (Nat.lt_of_lt_of_le F0.lt (Nat.le_of_eq g2.symm))
  have F2_a1 := F0.ext E2
  have K2 : Keep _ h2 [a1] := (Keep.refl h0 [a1]).ext E2
  have big_b2 : _ ≤ b2 := Nat.le_trans (Keep.refl h0 [a1]).1 (Nat.le_of_eq g2.symm)
  refine own_putF (n := 11) X2 hx hZ hown (hw _ (List.mem_of_getElem? (i := 47) rfl)) e2 F2_a1.2.1 F2_a1.1 (Or.inr ⟨(hw _ (List.mem_of_getElem? (i := 48) rfl)), rfl, hnm⟩) (hw _ (List.mem_of_getElem? (i := 9) rfl)) (ty := (.array .int)) (by decide) rfl rfl (hb hby d7_8) rfl ?_
  intro T3 h3 X3 e3 W3
  have N3 := Fr.snoc X3 N0 nb
  have Z3 : n0 ≤ h3.size := Nat.le_trans Z2 (Keep.of_wr W3).1
  have F3_a1 := F2_a1.set_lastFetches hw W3
  have F3_b2 := A2.wrO W3 (Ne.symm ne_a1_b2)
  have K3 : Keep _ h3 [a1] := K2.wr W3 (Or.inl (List.mem_of_getElem? (i := 0) rfl))
  refine own_aloadN (n := 12) X3 hx (hb hby d7_11) rfl rfl rfl ?_
  refine own_getF (n := 15) X3 hx hZ hown (hw _ (List.mem_of_getElem? (i := 47) rfl)) e3 F3_a1.2.1 (hb hby d7_12) rfl ?_
  intro T4 X4 e4
  refine own_iconst (n := 16) X4 hx (-1 : Int32) (hb hby d7_15) (by decide) rfl ?_
  refine own_callS (n := 19) X4 hx hZ hown (hw _ (List.mem_of_getElem? (i := 49) rfl)) (hw _ (List.mem_of_getElem? (i := 50) rfl)) (hw _ (List.mem_of_getElem? (i := 51) rfl)) (hw _ (List.mem_of_getElem? (i := 52) rfl)) (by decide) e4 (rm8 l Z a0 hw [] b2 (-1) km (fun _ => 0) h3 n0 Z3 F3_b2 nb_b2 (by omega)) (W := 0) (by decide) (by decide) (by decide) (by decide) (by rw [hml]; rfl) (argsL := [(.ref b2), (.int (-1 : Int32))]) (rest := []) pd_8 rfl (by rfl) (Nat.le_of_eq rfl) (hb hby d7_16) rfl rfl ?_
  intro v5 T5 h5 L5 X5 e5 q5
  obtain ⟨rfl, M5, K5, F5⟩ := q5
  have N5 := Fr.app N3 M5
  have Z5 : n0 ≤ h5.size := Nat.le_trans Z3 K5.1
  have F5_a1 := F3_a1.keep K5 (ninS ne_a1_b2 nin0)
  have KK5 := K3.trans K5 (fun z hz => by cases List.mem_singleton.mp hz; exact Or.inr big_b2)
  refine own_aloadN (n := 20) X5 hx (hb hby d7_19) rfl rfl rfl ?_
  refine own_iloadN (n := 21) X5 hx (hb hby d7_20) rfl rfl ?_
  refine own_newI (n := 23) X5 hx hZ (hw _ (List.mem_of_getElem? (i := 33) rfl)) e5 (i := km) (cap := 3) hp hm3 (by decide) (by decide) (by decide) (hb hby d7_21) rfl ?_
  intro T6 h6 b6 X6 e6 g6 E6 A6
  have Z6 : n0 ≤ h6.size := Nat.le_trans Z5 E6.1
  have nb_b6 : n0 ≤ b6 := Nat.le_trans Z5 (Nat.le_of_eq g6.symm)
  have lt_a1_b6 : a1 < b6 := Nat.lt_of_lt_of_le F5_a1.lt (Nat.le_of_eq g6.symm)
  have ne_a1_b6 : a1 ≠ b6 := Nat.ne_of_lt (Nat.lt_of_lt_of_le F5_a1.lt (Nat.le_of_eq g6.symm))
  have F6_a1 := F5_a1.ext E6
  have lt_b2_b6 : b2 < b6 := Nat.lt_of_lt_of_le F5.lt (Nat.le_of_eq g6.symm)
  have ne_b2_b6 : b2 ≠ b6 := Nat.ne_of_lt (Nat.lt_of_lt_of_le F5.lt (Nat.le_of_eq g6.symm))
  have F6_b2 := F5.ext E6
  have K6 : Keep _ h6 [a1] := KK5.ext E6
  have big_b6 : _ ≤ b6 := Nat.le_trans KK5.1 (Nat.le_of_eq g6.symm)
  refine own_putF (n := 26) X6 hx hZ hown (hw _ (List.mem_of_getElem? (i := 53) rfl)) e6 F6_a1.2.2.1 F6_a1.1 (Or.inr ⟨(hw _ (List.mem_of_getElem? (i := 54) rfl)), rfl, hnm⟩) (hw _ (List.mem_of_getElem? (i := 9) rfl)) (ty := (.array .int)) (by decide) rfl rfl (hb hby d7_23) rfl ?_
  intro T7 h7 X7 e7 W7
  have N7 := Fr.snoc X7 N5 nb
  have Z7 : n0 ≤ h7.size := Nat.le_trans Z6 (Keep.of_wr W7).1
  have F7_a1 := F6_a1.set_fetches hw W7
  have F7_b2 := F6_b2.wrO W7 (Ne.symm ne_a1_b2)
  have F7_b6 := A6.wrO W7 (Ne.symm ne_a1_b6)
  have K7 : Keep _ h7 [a1] := K6.wr W7 (Or.inl (List.mem_of_getElem? (i := 0) rfl))
  refine own_aloadN (n := 27) X7 hx (hb hby d7_26) rfl rfl rfl ?_
  refine own_iloadN (n := 28) X7 hx (hb hby d7_27) rfl rfl ?_
  refine own_newI (n := 30) X7 hx hZ (hw _ (List.mem_of_getElem? (i := 33) rfl)) e7 (i := km) (cap := 3) hp hm3 (by decide) (by decide) (by decide) (hb hby d7_28) rfl ?_
  intro T8 h8 b8 X8 e8 g8 E8 A8
  have Z8 : n0 ≤ h8.size := Nat.le_trans Z7 E8.1
  have nb_b8 : n0 ≤ b8 := Nat.le_trans Z7 (Nat.le_of_eq g8.symm)
  have lt_a1_b8 : a1 < b8 := Nat.lt_of_lt_of_le F7_a1.lt (Nat.le_of_eq g8.symm)
  have ne_a1_b8 : a1 ≠ b8 := Nat.ne_of_lt (Nat.lt_of_lt_of_le F7_a1.lt (Nat.le_of_eq g8.symm))
  have F8_a1 := F7_a1.ext E8
  have lt_b2_b8 : b2 < b8 := Nat.lt_of_lt_of_le F7_b2.lt (Nat.le_of_eq g8.symm)
  have ne_b2_b8 : b2 ≠ b8 := Nat.ne_of_lt (Nat.lt_of_lt_of_le F7_b2.lt (Nat.le_of_eq g8.symm))
  have F8_b2 := F7_b2.ext E8
  have lt_b6_b8 : b6 < b8 := Nat.lt_of_lt_of_le F7_b6.lt (Nat.le_of_eq g8.symm)
  have ne_b6_b8 : b6 ≠ b8 := Nat.ne_of_lt (Nat.lt_of_lt_of_le F7_b6.lt (Nat.le_of_eq g8.symm))
  have F8_b6 := F7_b6.ext E8
  have K8 : Keep _ h8 [a1] := K7.ext E8
  have big_b8 : _ ≤ b8 := Nat.le_trans K7.1 (Nat.le_of_eq g8.symm)
  refine own_putF (n := 33) X8 hx hZ hown (hw _ (List.mem_of_getElem? (i := 55) rfl)) e8 F8_a1.2.2.2.1 F8_a1.1 (Or.inr ⟨(hw _ (List.mem_of_getElem? (i := 56) rfl)), rfl, hnm⟩) (hw _ (List.mem_of_getElem? (i := 9) rfl)) (ty := (.array .int)) (by decide) rfl rfl (hb hby d7_30) rfl ?_
  intro T9 h9 X9 e9 W9
  have N9 := Fr.snoc X9 N7 nb
  have Z9 : n0 ≤ h9.size := Nat.le_trans Z8 (Keep.of_wr W9).1
  have F9_a1 := F8_a1.set_changedFetches hw W9
  have F9_b2 := F8_b2.wrO W9 (Ne.symm ne_a1_b2)
  have F9_b6 := F8_b6.wrO W9 (Ne.symm ne_a1_b6)
  have F9_b8 := A8.wrO W9 (Ne.symm ne_a1_b8)
  have K9 : Keep _ h9 [a1] := K8.wr W9 (Or.inl (List.mem_of_getElem? (i := 0) rfl))
  refine own_aloadN (n := 34) X9 hx (hb hby d7_33) rfl rfl rfl ?_
  refine own_iloadN (n := 35) X9 hx (hb hby d7_34) rfl rfl ?_
  refine own_newR (n := 38) X9 hx hZ hown (hw _ (List.mem_of_getElem? (i := 17) rfl)) (hw _ (List.mem_of_getElem? (i := 57) rfl)) e9 (i := km) (cap := 3) hp hm3 (by decide) (by decide) (by decide) (hb hby d7_35) rfl ?_
  intro T10 h10 b10 X10 e10 g10 E10 A10
  have Z10 : n0 ≤ h10.size := Nat.le_trans Z9 E10.1
  have nb_b10 : n0 ≤ b10 := Nat.le_trans Z9 (Nat.le_of_eq g10.symm)
  have lt_a1_b10 : a1 < b10 := Nat.lt_of_lt_of_le F9_a1.lt (Nat.le_of_eq g10.symm)
  have ne_a1_b10 : a1 ≠ b10 := Nat.ne_of_lt (Nat.lt_of_lt_of_le F9_a1.lt (Nat.le_of_eq g10.symm))
  have F10_a1 := F9_a1.ext E10
  have lt_b2_b10 : b2 < b10 := Nat.lt_of_lt_of_le F9_b2.lt (Nat.le_of_eq g10.symm)
  have ne_b2_b10 : b2 ≠ b10 := Nat.ne_of_lt (Nat.lt_of_lt_of_le F9_b2.lt (Nat.le_of_eq g10.symm))
  have F10_b2 := F9_b2.ext E10
  have lt_b6_b10 : b6 < b10 := Nat.lt_of_lt_of_le F9_b6.lt (Nat.le_of_eq g10.symm)
  have ne_b6_b10 : b6 ≠ b10 := Nat.ne_of_lt (Nat.lt_of_lt_of_le F9_b6.lt (Nat.le_of_eq g10.symm))
  have F10_b6 := F9_b6.ext E10
  have lt_b8_b10 : b8 < b10 := Nat.lt_of_lt_of_le F9_b8.lt (Nat.le_of_eq g10.symm)
  have ne_b8_b10 : b8 ≠ b10 := Nat.ne_of_lt (Nat.lt_of_lt_of_le F9_b8.lt (Nat.le_of_eq g10.symm))
  have F10_b8 := F9_b8.ext E10
  have K10 : Keep _ h10 [a1] := K9.ext E10
  have big_b10 : _ ≤ b10 := Nat.le_trans K9.1 (Nat.le_of_eq g10.symm)
  refine own_putF (n := 41) X10 hx hZ hown (hw _ (List.mem_of_getElem? (i := 58) rfl)) e10 F10_a1.2.2.2.2.1 F10_a1.1 (Or.inr ⟨(hw _ (List.mem_of_getElem? (i := 59) rfl)), rfl, hnm⟩) (hw _ (List.mem_of_getElem? (i := 9) rfl)) (ty := (.array (.object "com/example/revisit/revisit/policy/RateLikelihood"))) (by decide) rfl rfl (hb hby d7_38) rfl ?_
  intro T11 h11 X11 e11 W11
  have N11 := Fr.snoc X11 N9 nb
  have Z11 : n0 ≤ h11.size := Nat.le_trans Z10 (Keep.of_wr W11).1
  have F11_a1 := F10_a1.set_likelihoods hw W11
  have F11_b2 := F10_b2.wrO W11 (Ne.symm ne_a1_b2)
  have F11_b6 := F10_b6.wrO W11 (Ne.symm ne_a1_b6)
  have F11_b8 := F10_b8.wrO W11 (Ne.symm ne_a1_b8)
  have F11_b10 := A10.wrO W11 (Ne.symm ne_a1_b10)
  have K11 : Keep _ h11 [a1] := K10.wr W11 (Or.inl (List.mem_of_getElem? (i := 0) rfl))
  refine own_aloadN (n := 42) X11 hx (hb hby d7_41) rfl rfl rfl ?_
  refine own_aloadN (n := 43) X11 hx (hb hby d7_42) rfl rfl rfl ?_
  refine own_putF (n := 46) X11 hx hZ hown (hw _ (List.mem_of_getElem? (i := 60) rfl)) e11 F11_a1.2.2.2.2.2.1 F11_a1.1 (Or.inr ⟨(hw _ (List.mem_of_getElem? (i := 61) rfl)), rfl, hnm⟩) (hw _ (List.mem_of_getElem? (i := 9) rfl)) (ty := (.object "com/example/revisit/revisit/policy/RateLikelihood")) (by decide) rfl rfl (hb hby d7_43) rfl ?_
  intro T12 h12 X12 e12 W12
  have N12 := Fr.snoc X12 N11 nb
  have Z12 : n0 ≤ h12.size := Nat.le_trans Z11 (Keep.of_wr W12).1
  have F12_a1 := F11_a1.set_pooled hw W12
  have F12_b2 := F11_b2.wrO W12 (Ne.symm ne_a1_b2)
  have F12_b6 := F11_b6.wrO W12 (Ne.symm ne_a1_b6)
  have F12_b8 := F11_b8.wrO W12 (Ne.symm ne_a1_b8)
  have F12_b10 := F11_b10.wrO W12 (Ne.symm ne_a1_b10)
  have K12 : Keep _ h12 [a1] := K11.wr W12 (Or.inl (List.mem_of_getElem? (i := 0) rfl))
  refine own_aloadN (n := 47) X12 hx (hb hby d7_46) rfl rfl rfl ?_
  refine own_iloadN (n := 48) X12 hx (hb hby d7_47) rfl rfl ?_
  refine own_newDA (n := 50) X12 hx hZ (hw _ (List.mem_of_getElem? (i := 62) rfl)) e12 (i := km) (cap := 3) hp hm3 (by decide) (by decide) (by decide) (hb hby d7_48) rfl ?_
  intro T13 h13 b13 X13 e13 g13 E13 A13
  have Z13 : n0 ≤ h13.size := Nat.le_trans Z12 E13.1
  have nb_b13 : n0 ≤ b13 := Nat.le_trans Z12 (Nat.le_of_eq g13.symm)
  have lt_a1_b13 : a1 < b13 := Nat.lt_of_lt_of_le F12_a1.lt (Nat.le_of_eq g13.symm)
  have ne_a1_b13 : a1 ≠ b13 := Nat.ne_of_lt (Nat.lt_of_lt_of_le F12_a1.lt (Nat.le_of_eq g13.symm))
  have F13_a1 := F12_a1.ext E13
  have lt_b2_b13 : b2 < b13 := Nat.lt_of_lt_of_le F12_b2.lt (Nat.le_of_eq g13.symm)
  have ne_b2_b13 : b2 ≠ b13 := Nat.ne_of_lt (Nat.lt_of_lt_of_le F12_b2.lt (Nat.le_of_eq g13.symm))
  have F13_b2 := F12_b2.ext E13
  have lt_b6_b13 : b6 < b13 := Nat.lt_of_lt_of_le F12_b6.lt (Nat.le_of_eq g13.symm)
  have ne_b6_b13 : b6 ≠ b13 := Nat.ne_of_lt (Nat.lt_of_lt_of_le F12_b6.lt (Nat.le_of_eq g13.symm))
  have F13_b6 := F12_b6.ext E13
  have lt_b8_b13 : b8 < b13 := Nat.lt_of_lt_of_le F12_b8.lt (Nat.le_of_eq g13.symm)
  have ne_b8_b13 : b8 ≠ b13 := Nat.ne_of_lt (Nat.lt_of_lt_of_le F12_b8.lt (Nat.le_of_eq g13.symm))
  have F13_b8 := F12_b8.ext E13
  have lt_b10_b13 : b10 < b13 := Nat.lt_of_lt_of_le F12_b10.lt (Nat.le_of_eq g13.symm)
  have ne_b10_b13 : b10 ≠ b13 := Nat.ne_of_lt (Nat.lt_of_lt_of_le F12_b10.lt (Nat.le_of_eq g13.symm))
  have F13_b10 := F12_b10.ext E13
  have K13 : Keep _ h13 [a1] := K12.ext E13
  have big_b13 : _ ≤ b13 := Nat.le_trans K12.1 (Nat.le_of_eq g13.symm)
  refine own_putF (n := 53) X13 hx hZ hown (hw _ (List.mem_of_getElem? (i := 63) rfl)) e13 F13_a1.2.2.2.2.2.2.1 F13_a1.1 (Or.inr ⟨(hw _ (List.mem_of_getElem? (i := 64) rfl)), rfl, hnm⟩) (hw _ (List.mem_of_getElem? (i := 9) rfl)) (ty := (.array .double)) (by decide) rfl rfl (hb hby d7_50) rfl ?_
  intro T14 h14 X14 e14 W14
  have N14 := Fr.snoc X14 N12 nb
  have Z14 : n0 ≤ h14.size := Nat.le_trans Z13 (Keep.of_wr W14).1
  have F14_a1 := F13_a1.set_dispersionTerms hw W14
  have F14_b2 := F13_b2.wrO W14 (Ne.symm ne_a1_b2)
  have F14_b6 := F13_b6.wrO W14 (Ne.symm ne_a1_b6)
  have F14_b8 := F13_b8.wrO W14 (Ne.symm ne_a1_b8)
  have F14_b10 := F13_b10.wrO W14 (Ne.symm ne_a1_b10)
  have F14_b13 := A13.wrO W14 (Ne.symm ne_a1_b13)
  have K14 : Keep _ h14 [a1] := K13.wr W14 (Or.inl (List.mem_of_getElem? (i := 0) rfl))
  refine own_retV X14 hx lk hret (hb hby d7_53) (by decide) (by decide) ?_
  rw [e14]
  exact ⟨rfl, N14, K14, _, _, _, _, _, F14_a1, F14_b2, F14_b6, F14_b8, F14_b10, F14_b13, ⟨lt_b2_b6, lt_b6_b8, lt_b8_b10, lt_b10_b13⟩, big_b2, big_b6, big_b8, big_b10, big_b13⟩
def OWN (a lf fe cf dt lq r0 r1 r2 : Nat) (x : Nat) : Nat := if x = a then 105 else if x = lf then 100 else if x = fe then 101 else if x = cf then 102 else if x = dt then 103 else if x = lq then 104 else if x < r0 then 50 else if x < r1 then 0 else if x < r2 then 1 else 2
theorem own_owns {a lf fe cf dt lq r0 r1 r2 : Nat} (h1 : a < lf) (h2 : lf < fe) (h3 : fe < cf) (h4 : cf < lq) (h5 : lq < dt) : OWNS (OWN a lf fe cf dt lq r0 r1 r2) a lf fe cf lq dt := by
  unfold OWNS OWN
  refine ⟨?_, ?_, ?_, ?_, ?_, ?_⟩
  · rw [if_pos rfl]
  · rw [if_neg (by omega), if_pos rfl]
  · rw [if_neg (by omega), if_neg (by omega), if_pos rfl]
  · rw [if_neg (by omega), if_neg (by omega), if_neg (by omega), if_pos rfl]
  · rw [if_neg (by omega), if_neg (by omega), if_neg (by omega), if_neg (by omega), if_pos rfl]
  · rw [if_neg (by omega), if_neg (by omega), if_neg (by omega), if_neg (by omega), if_neg (by omega), if_pos rfl]
theorem own_ow {a lf fe cf dt lq r0 r1 r2 x : Nat} (h1 : x ≠ a) (h2 : x ≠ lf) (h3 : x ≠ fe) (h4 : x ≠ cf) (h5 : x ≠ dt) (h6 : x ≠ lq) : OWN a lf fe cf dt lq r0 r1 r2 x = if x < r0 then 50 else if x < r1 then 0 else if x < r2 then 1 else 2 := by
  unfold OWN
  rw [if_neg h1, if_neg h2, if_neg h3, if_neg h4, if_neg h5, if_neg h6]
theorem own_ow50 {a lf fe cf dt lq r0 r1 r2 x : Nat} (h0 : a < x) (h1 : x < lf) (h2 : lf < fe) (h3 : fe < cf) (h4 : cf < lq) (h5 : lq < dt) (h6 : dt < r0) : OWN a lf fe cf dt lq r0 r1 r2 x = 50 := by
  rw [own_ow (by omega) (by omega) (by omega) (by omega) (by omega) (by omega), if_pos (by omega)]
theorem own_ow0 {a lf fe cf dt lq r0 r1 r2 x : Nat} (h0 : a < lf) (h2 : lf < fe) (h3 : fe < cf) (h4 : cf < lq) (h5 : lq < dt) (h6 : dt < r0) (h7 : r0 ≤ x) (h8 : x < r1) : OWN a lf fe cf dt lq r0 r1 r2 x = 0 := by
  rw [own_ow (by omega) (by omega) (by omega) (by omega) (by omega) (by omega), if_neg (by omega), if_pos (by omega)]
theorem own_ow1 {a lf fe cf dt lq r0 r1 r2 x : Nat} (h0 : a < lf) (h2 : lf < fe) (h3 : fe < cf) (h4 : cf < lq) (h5 : lq < dt) (h6 : dt < r0) (h7 : r0 < r1) (h8 : r1 ≤ x) (h9 : x < r2) : OWN a lf fe cf dt lq r0 r1 r2 x = 1 := by
  rw [own_ow (by omega) (by omega) (by omega) (by omega) (by omega) (by omega), if_neg (by omega), if_neg (by omega), if_pos (by omega)]
theorem own_ow2 {a lf fe cf dt lq r0 r1 r2 x : Nat} (h0 : a < lf) (h2 : lf < fe) (h3 : fe < cf) (h4 : cf < lq) (h5 : lq < dt) (h6 : dt < r0) (h7 : r0 < r1) (h8 : r1 < r2) (h9 : r2 ≤ x) : OWN a lf fe cf dt lq r0 r1 r2 x = 2 := by
  rw [own_ow (by omega) (by omega) (by omega) (by omega) (by omega) (by omega), if_neg (by omega), if_neg (by omega), if_neg (by omega)]
theorem d3_0 : decode prog_35_method_1_code 0 = .ok (.aload_n 0, 1) := by decide +kernel
theorem d3_1 : decode prog_35_method_1_code 1 = .ok (.iload_n 1, 1) := by decide +kernel
theorem d3_2 : decode prog_35_method_1_code 2 = .ok (.invokestatic 1, 3) := by decide +kernel
theorem d3_5 : decode prog_35_method_1_code 5 = .ok (.new 7, 3) := by decide +kernel
theorem d3_8 : decode prog_35_method_1_code 8 = .ok (.dup, 1) := by decide +kernel
theorem d3_9 : decode prog_35_method_1_code 9 = .ok (.invokespecial 9, 3) := by decide +kernel
theorem d3_12 : decode prog_35_method_1_code 12 = .ok (.invokespecial 13, 3) := by decide +kernel
theorem d3_15 : decode prog_35_method_1_code 15 = .ok (.iconst 0, 1) := by decide +kernel
theorem d3_16 : decode prog_35_method_1_code 16 = .ok (.istore_n 2, 1) := by decide +kernel
theorem d3_17 : decode prog_35_method_1_code 17 = .ok (.iload_n 2, 1) := by decide +kernel
theorem d3_18 : decode prog_35_method_1_code 18 = .ok (.iload_n 1, 1) := by decide +kernel
theorem d3_19 : decode prog_35_method_1_code 19 = .ok (.if_icmp .ge 22, 3) := by decide +kernel
theorem d3_22 : decode prog_35_method_1_code 22 = .ok (.aload_n 0, 1) := by decide +kernel
theorem d3_23 : decode prog_35_method_1_code 23 = .ok (.getfield 16, 3) := by decide +kernel
theorem d3_26 : decode prog_35_method_1_code 26 = .ok (.iload_n 2, 1) := by decide +kernel
theorem d3_27 : decode prog_35_method_1_code 27 = .ok (.new 7, 3) := by decide +kernel
theorem d3_30 : decode prog_35_method_1_code 30 = .ok (.dup, 1) := by decide +kernel
theorem d3_31 : decode prog_35_method_1_code 31 = .ok (.invokespecial 9, 3) := by decide +kernel
theorem d3_34 : decode prog_35_method_1_code 34 = .ok (.aastore, 1) := by decide +kernel
theorem d3_35 : decode prog_35_method_1_code 35 = .ok (.iinc 2 1, 3) := by decide +kernel
theorem d3_38 : decode prog_35_method_1_code 38 = .ok (.goto (-21), 3) := by decide +kernel
theorem d3_41 : decode prog_35_method_1_code 41 = .ok (.return_, 1) := by decide +kernel
theorem pn_3 : plainFor (⟨"com/example/revisit/revisit/policy/ChangeRates", "<init>", "(I)V"⟩ : MethodName) = true := by first | exact plainFor_of_name (by first | (simp [plainName, overriddenIn]; done) | decide +kernel) | decide +kernel
theorem ef_3 (m : MethodId) (a1 : Addr) (p2 : Int32) : entryFrame m #[(.ref a1), (.int p2)] 3 = mkF m 0 #[.val (.ref a1), .val (.int p2), .unset] [] := by first | (simp [entryFrame, argsToLocals, Value.category, Array.replicate]; done) | rfl
theorem pd_3 : parseMethodDescriptor "(I)V" = some ⟨[.int], none⟩ := by decide +kernel
def Q3 (Z : State) (a1 : Addr) (p2 : Int32) (km : Nat) (h0 : Heap) (n0 : Nat) (v : Option Value) (h : Heap) (L : List Loc) : Prop := v = none ∧ Fr n0 L ∧ Old Z n0 h ∧ CRS Z h n0 a1 km (fun _ => -1) (fun _ => 0) (fun _ => 0) 0 0 0 0 0 0
theorem rm3 (l : Launch) (Z : State) (a0 : Array Value) (hw : ∀ d ∈ tables_1, d.before a0 Z = true) (ws : List Jvm.Cond) (a1 : Addr) (p2 : Int32) (km : Nat) (h0 : Heap) (n0 : Nat) (Z0 : n0 ≤ h0.size) (OL : Old Z n0 h0) (F0 : CR Z h0 a1 .null .null .null .null .null .null 0 0 0 0 0) (nb : n0 ≤ a1) (hp : p2.toInt = (km : Int)) (hkm : km = 2 ∨ km = 3) :
    MetFree l (⟨"com/example/revisit/revisit/policy/ChangeRates", "<init>", "(I)V"⟩ : MethodName) (head1 (Jvm.Cond.code (⟨"com/example/revisit/revisit/policy/ChangeRates", "<init>", "(I)V"⟩ : MethodName) prog_35_method_1_code 3 (none) :: ws) ({ frames := 2, cells := 17, slots := 51, locals := 31 } : Room)) (fun a U => a = #[(.ref a1), (.int p2)] ∧ Z.Warmed39 U.vm ∧ U.heap = h0) (fun _ _ _ _ _ => True) (fun _ U o U' => ∃ v L, o = .returned v ∧ (Q3 Z a1 p2 km h0 n0) v U'.heap L ∧ FrameEnd U o U' L ({ frames := 2, cells := 17, slots := 51, locals := 31 } : Room).cells ({ frames := 2, cells := 17, slots := 51, locals := 31 } : Room).slots) := by
  refine MetFree.of_bodySF pn_3 hisR ?_
  intro p e s m args below meth c s₁ Bd hml0 hP hK
  obtain ⟨rfl, hZ, hh⟩ := hP
  have hx := Bd.exec
  have hby := Bd.bytes
  have hml : c.maxLocals = 3 := hml0
  have hown : s.vm.findClass "com/example/revisit/revisit/policy/ChangeRates" = some m.cls := findClass_of_methodNamed Bd.named
  have hnm := (name_of_methodNamed Bd.named Bd.method).1
  have X0 : Stand p l e ({ frames := 2, cells := 17, slots := 51, locals := 31 } : Room) s m #[(.ref a1), (.int p2)] below meth c s₁ [] 0 0 := Stand.of_body Bd
  have e0 : s₁.heap = h0 := by rw [← hh, Bd.state]; rfl
  have N0 := Fr.nil n0
  have lk : meth.locks = false := BodyLoose.notSynchronized Bd
  have hret := Bd.returns
  show Ends p e below (EF s ({ frames := 2, cells := 17, slots := 51, locals := 31 } : Room).cells ({ frames := 2, cells := 17, slots := 51, locals := 31 } : Room).slots) (Q3 Z a1 p2 km h0 n0) (s₁.setTop (entryFrame m #[(.ref a1), (.int p2)] 3))
  refine Ends.cast (ef_3 m a1 p2) ?_
  rcases hkm with rfl | rfl
  · skip
    refine own_aloadN (n := 1) X0 hx (hb hby d3_0) rfl rfl rfl ?_
    refine own_iloadN (n := 2) X0 hx (hb hby d3_1) rfl rfl ?_
    refine own_callS (n := 5) X0 hx hZ hown (hw _ (List.mem_of_getElem? (i := 14) rfl)) (hw _ (List.mem_of_getElem? (i := 15) rfl)) (hw _ (List.mem_of_getElem? (i := 10) rfl)) (hw _ (List.mem_of_getElem? (i := 16) rfl)) (by decide) e0 (rm4 l Z a0 hw [] p2 h0 n0 Z0 (by have o : (0 : Int32).toInt = 0 := rfl; rw [Int32.lt_iff_toInt_lt, hp]; omega)) (W := 1) (by decide) (by decide) (by decide) (by decide) (by rw [hml]; rfl) (argsL := [(.int p2)]) (rest := [(.ref a1)]) pd_4 rfl (by rfl) (Nat.le_of_eq rfl) (hb hby d3_2) rfl rfl ?_
    intro v1 T1 h1 L1 X1 e1 q1
    obtain ⟨rfl, M1, rfl⟩ := q1
    have N1 := Fr.app N0 M1
    refine own_newO (n := 8) X1 hx hZ hown (hw _ (List.mem_of_getElem? (i := 17) rfl)) (hw _ (List.mem_of_getElem? (i := 18) rfl)) (hw _ (List.mem_of_getElem? (i := 19) rfl)) e1 (by decide) (by decide) (hb hby d3_5) rfl ?_
    intro T2 h2 b2 X2 e2 g2 E2 A2 D2
    have Z2 : n0 ≤ h2.size := Nat.le_trans Z0 E2.1
    have nb_b2 : n0 ≤ b2 := Nat.le_trans Z0 (Nat.le_of_eq g2.symm)
    have OL2 := OL.ext E2
    have lt_a1_b2 : a1 < b2 := Nat.lt_of_lt_of_le F0.lt (Nat.le_of_eq g2.symm)
    have ne_a1_b2 : a1 ≠ b2 := Nat.ne_of_lt (Nat.lt_of_lt_of_le F0.lt (Nat.le_of_eq g2.symm))
    have F2_a1 := F0.ext E2
    have N2_b2 : RL Z h2 b2 (0) (0) (0) (.null) (.null) (0) (0) := ⟨A2, D2 (Or.inl (hw _ (List.mem_of_getElem? (i := 28) rfl))) (ty := .double) (by decide), D2 (Or.inl (hw _ (List.mem_of_getElem? (i := 30) rfl))) (ty := .double) (by decide), D2 (Or.inl (hw _ (List.mem_of_getElem? (i := 32) rfl))) (ty := .double) (by decide), D2 (Or.inl (hw _ (List.mem_of_getElem? (i := 35) rfl))) (ty := (.array .int)) (by decide), D2 (Or.inl (hw _ (List.mem_of_getElem? (i := 38) rfl))) (ty := (.array .long)) (by decide), D2 (Or.inl (hw _ (List.mem_of_getElem? (i := 40) rfl))) (ty := .int) (by decide), D2 (Or.inl (hw _ (List.mem_of_getElem? (i := 42) rfl))) (ty := .long) (by decide)⟩
    refine own_dup (n := 9) X2 hx (hb hby d3_8) rfl rfl ?_
    refine own_callN (n := 12) X2 hx hZ rfl hown (hw _ (List.mem_of_getElem? (i := 20) rfl)) (hw _ (List.mem_of_getElem? (i := 21) rfl)) (hw _ (List.mem_of_getElem? (i := 19) rfl)) (hw _ (List.mem_of_getElem? (i := 22) rfl)) (by decide) e2 (rm5 l Z a0 hw [] b2 h2 n0 Z2 N2_b2 nb_b2) (W := 3) (by decide) (by decide) (by decide) (by decide) (by rw [hml]; rfl) (argsL := []) (rest := [(.ref b2), (.int p2), (.ref a1)]) pd_5 rfl (a := b2) (by rfl) (Nat.le_of_eq rfl) (hb hby d3_9) rfl rfl ?_
    intro v3 T3 h3 L3 X3 e3 q3
    obtain ⟨rfl, M3, K3, la3, ca3, g3, gg3, F3, A3, AA3, bg3, bh3⟩ := q3
    have N3 := Fr.app N1 M3
    have lt_b2_la3 : b2 < la3 := Nat.lt_of_lt_of_le N2_b2.lt bg3
    have lt_b2_ca3 : b2 < ca3 := Nat.lt_of_lt_of_le N2_b2.lt bh3
    have Z3 : n0 ≤ h3.size := Nat.le_trans Z2 K3.1
    have OL3 := OL2.keep K3 (allS nb_b2 all0)
    have F3_a1 := F2_a1.keep K3 (ninS ne_a1_b2 nin0)
    refine own_callN (n := 15) X3 hx hZ rfl hown (hw _ (List.mem_of_getElem? (i := 43) rfl)) (hw _ (List.mem_of_getElem? (i := 44) rfl)) (hw _ (List.mem_of_getElem? (i := 10) rfl)) (hw _ (List.mem_of_getElem? (i := 45) rfl)) (by decide) e3 (rm7 l Z a0 hw [] a1 p2 b2 2 h3 n0 Z3 F3_a1 nb hp (by decide)) (W := 0) (by decide) (by decide) (by decide) (by decide) (by rw [hml]; rfl) (argsL := [(.int p2), (.ref b2)]) (rest := []) pd_7 rfl (a := a1) (by rfl) (Nat.le_of_eq rfl) (hb hby d3_12) rfl rfl ?_
    intro v4 T4 h4 L4 X4 e4 q4
    obtain ⟨rfl, M4, K4, lf, fe, cf, lq, dt, F4, Ai, Aj, Ak, Al, Am, ⟨o1, o2, o3, o4⟩, u1, u2, u3, u4, u5⟩ := q4
    have N4 := Fr.app N3 M4
    have lx_b2 : b2 < lf := Nat.lt_of_lt_of_le F3.lt u1
    have lx_la3 : la3 < lf := Nat.lt_of_lt_of_le A3.lt u1
    have lx_ca3 : ca3 < lf := Nat.lt_of_lt_of_le AA3.lt u1
    have lx_a1 : a1 < lf := Nat.lt_of_lt_of_le F3_a1.lt u1
    have Z4 : n0 ≤ h4.size := Nat.le_trans Z3 K4.1
    have OL4 := OL3.keep K4 (allS nb all0)
    have F4_b2 := F3.keep K4 (ninS (Ne.symm ne_a1_b2) nin0)
    have F4_la3 := A3.keep K4 (ninS (Ne.symm (own_neOA F3_a1.1 (hw _ (List.mem_of_getElem? (i := 9) rfl)) A3)) nin0)
    have F4_ca3 := AA3.keep K4 (ninS (Ne.symm (own_neOA F3_a1.1 (hw _ (List.mem_of_getElem? (i := 9) rfl)) AA3)) nin0)
    refine own_iconst (n := 16) X4 hx (0 : Int32) (hb hby d3_15) rfl rfl ?_
    refine own_istoreN (n := 17) X4 hx (hb hby d3_16) (l' := #[.val (.ref a1), .val (.int p2), .val (.int (0 : Int32))]) rfl rfl ?_
    refine own_iloadN (n := 18) X4 hx (hb hby d3_17) rfl rfl ?_
    refine own_iloadN (n := 19) X4 hx (hb hby d3_18) rfl rfl ?_
    refine own_icmpNo (n := 22) X4 hx (hb hby d3_19) (Jvm.Free.XT.ii_ge_f (by rw [Int32.lt_iff_toInt_lt, hp]; decide)) rfl ?_
    refine own_aloadN (n := 23) X4 hx (hb hby d3_22) rfl rfl rfl ?_
    refine own_getF (n := 26) X4 hx hZ hown (hw _ (List.mem_of_getElem? (i := 58) rfl)) e4 F4.2.2.2.2.1 (hb hby d3_23) rfl ?_
    intro T5 X5 e5
    refine own_iloadN (n := 27) X5 hx (hb hby d3_26) rfl rfl ?_
    refine own_newO (n := 30) X5 hx hZ hown (hw _ (List.mem_of_getElem? (i := 17) rfl)) (hw _ (List.mem_of_getElem? (i := 18) rfl)) (hw _ (List.mem_of_getElem? (i := 19) rfl)) e5 (by decide) (by decide) (hb hby d3_27) rfl ?_
    intro T6 h6 b6 X6 e6 g6 E6 A6 D6
    have Z6 : n0 ≤ h6.size := Nat.le_trans Z4 E6.1
    have nb_b6 : n0 ≤ b6 := Nat.le_trans Z4 (Nat.le_of_eq g6.symm)
    have OL6 := OL4.ext E6
    have lt_b2_b6 : b2 < b6 := Nat.lt_of_lt_of_le F4_b2.lt (Nat.le_of_eq g6.symm)
    have ne_b2_b6 : b2 ≠ b6 := Nat.ne_of_lt (Nat.lt_of_lt_of_le F4_b2.lt (Nat.le_of_eq g6.symm))
    have F6_b2 := F4_b2.ext E6
    have lt_la3_b6 : la3 < b6 := Nat.lt_of_lt_of_le F4_la3.lt (Nat.le_of_eq g6.symm)
    have ne_la3_b6 : la3 ≠ b6 := Nat.ne_of_lt (Nat.lt_of_lt_of_le F4_la3.lt (Nat.le_of_eq g6.symm))
    have F6_la3 := F4_la3.ext E6
    have lt_ca3_b6 : ca3 < b6 := Nat.lt_of_lt_of_le F4_ca3.lt (Nat.le_of_eq g6.symm)
    have ne_ca3_b6 : ca3 ≠ b6 := Nat.ne_of_lt (Nat.lt_of_lt_of_le F4_ca3.lt (Nat.le_of_eq g6.symm))
    have F6_ca3 := F4_ca3.ext E6
    have lt_a1_b6 : a1 < b6 := Nat.lt_of_lt_of_le F4.lt (Nat.le_of_eq g6.symm)
    have ne_a1_b6 : a1 ≠ b6 := Nat.ne_of_lt (Nat.lt_of_lt_of_le F4.lt (Nat.le_of_eq g6.symm))
    have F6_a1 := F4.ext E6
    have lt_lf_b6 : lf < b6 := Nat.lt_of_lt_of_le Ai.lt (Nat.le_of_eq g6.symm)
    have ne_lf_b6 : lf ≠ b6 := Nat.ne_of_lt (Nat.lt_of_lt_of_le Ai.lt (Nat.le_of_eq g6.symm))
    have F6_lf := Ai.ext E6
    have lt_fe_b6 : fe < b6 := Nat.lt_of_lt_of_le Aj.lt (Nat.le_of_eq g6.symm)
    have ne_fe_b6 : fe ≠ b6 := Nat.ne_of_lt (Nat.lt_of_lt_of_le Aj.lt (Nat.le_of_eq g6.symm))
    have F6_fe := Aj.ext E6
    have lt_cf_b6 : cf < b6 := Nat.lt_of_lt_of_le Ak.lt (Nat.le_of_eq g6.symm)
    have ne_cf_b6 : cf ≠ b6 := Nat.ne_of_lt (Nat.lt_of_lt_of_le Ak.lt (Nat.le_of_eq g6.symm))
    have F6_cf := Ak.ext E6
    have lt_lq_b6 : lq < b6 := Nat.lt_of_lt_of_le Al.lt (Nat.le_of_eq g6.symm)
    have ne_lq_b6 : lq ≠ b6 := Nat.ne_of_lt (Nat.lt_of_lt_of_le Al.lt (Nat.le_of_eq g6.symm))
    have F6_lq := Al.ext E6
    have lt_dt_b6 : dt < b6 := Nat.lt_of_lt_of_le Am.lt (Nat.le_of_eq g6.symm)
    have ne_dt_b6 : dt ≠ b6 := Nat.ne_of_lt (Nat.lt_of_lt_of_le Am.lt (Nat.le_of_eq g6.symm))
    have F6_dt := Am.ext E6
    have N6_b6 : RL Z h6 b6 (0) (0) (0) (.null) (.null) (0) (0) := ⟨A6, D6 (Or.inl (hw _ (List.mem_of_getElem? (i := 28) rfl))) (ty := .double) (by decide), D6 (Or.inl (hw _ (List.mem_of_getElem? (i := 30) rfl))) (ty := .double) (by decide), D6 (Or.inl (hw _ (List.mem_of_getElem? (i := 32) rfl))) (ty := .double) (by decide), D6 (Or.inl (hw _ (List.mem_of_getElem? (i := 35) rfl))) (ty := (.array .int)) (by decide), D6 (Or.inl (hw _ (List.mem_of_getElem? (i := 38) rfl))) (ty := (.array .long)) (by decide), D6 (Or.inl (hw _ (List.mem_of_getElem? (i := 40) rfl))) (ty := .int) (by decide), D6 (Or.inl (hw _ (List.mem_of_getElem? (i := 42) rfl))) (ty := .long) (by decide)⟩
    refine own_dup (n := 31) X6 hx (hb hby d3_30) rfl rfl ?_
    refine own_callN (n := 34) X6 hx hZ rfl hown (hw _ (List.mem_of_getElem? (i := 20) rfl)) (hw _ (List.mem_of_getElem? (i := 21) rfl)) (hw _ (List.mem_of_getElem? (i := 19) rfl)) (hw _ (List.mem_of_getElem? (i := 22) rfl)) (by decide) e6 (rm5 l Z a0 hw [] b6 h6 n0 Z6 N6_b6 nb_b6) (W := 3) (by decide) (by decide) (by decide) (by decide) (by rw [hml]; rfl) (argsL := []) (rest := [(.ref b6), (.int (0 : Int32)), (.ref lq)]) pd_5 rfl (a := b6) (by rfl) (Nat.le_of_eq rfl) (hb hby d3_31) rfl rfl ?_
    intro v7 T7 h7 L7 X7 e7 q7
    obtain ⟨rfl, M7, K7, la7, ca7, g7, gg7, F7, A7, AA7, bg7, bh7⟩ := q7
    have N7 := Fr.app N4 M7
    have lt_b6_la7 : b6 < la7 := Nat.lt_of_lt_of_le N6_b6.lt bg7
    have lt_b6_ca7 : b6 < ca7 := Nat.lt_of_lt_of_le N6_b6.lt bh7
    have Z7 : n0 ≤ h7.size := Nat.le_trans Z6 K7.1
    have OL7 := OL6.keep K7 (allS nb_b6 all0)
    have F7_b2 := F6_b2.keep K7 (ninS ne_b2_b6 nin0)
    have F7_la3 := F6_la3.keep K7 (ninS ne_la3_b6 nin0)
    have F7_ca3 := F6_ca3.keep K7 (ninS ne_ca3_b6 nin0)
    have F7_a1 := F6_a1.keep K7 (ninS ne_a1_b6 nin0)
    have F7_lf := F6_lf.keep K7 (ninS ne_lf_b6 nin0)
    have F7_fe := F6_fe.keep K7 (ninS ne_fe_b6 nin0)
    have F7_cf := F6_cf.keep K7 (ninS ne_cf_b6 nin0)
    have F7_lq := F6_lq.keep K7 (ninS ne_lq_b6 nin0)
    have F7_dt := F6_dt.keep K7 (ninS ne_dt_b6 nin0)
    refine own_aastore (n := 35) X7 hx hZ e7 F7_lq (Ins.of_exa F7.1 (hw _ (List.mem_of_getElem? (i := 65) rfl))) (i := 0) (by decide) (by decide) (hb hby d3_34) rfl ?_
    intro T8 h8 X8 e8 W8 A8
    have N8 := Fr.snoc X8 N7 (Nat.le_trans Z3 u4)
    have Z8 : n0 ≤ h8.size := Nat.le_trans Z7 (Keep.of_wr W8).1
    have OL8 := OL7.wr W8 (Nat.le_trans Z3 u4)
    have F8_b2 := F7_b2.wrO W8 (own_neOA F7_b2.1 (hw _ (List.mem_of_getElem? (i := 18) rfl)) F7_lq.va)
    have F8_la3 := F7_la3.wrO W8 (own_neAA F7_la3 F7_lq.va (by decide))
    have F8_ca3 := F7_ca3.wrO W8 (own_neAA F7_ca3 F7_lq.va (by decide))
    have F8_a1 := F7_a1.wrO W8 (own_neOA F7_a1.1 (hw _ (List.mem_of_getElem? (i := 9) rfl)) F7_lq.va)
    have F8_lf := F7_lf.wrO W8 (own_neAA F7_lf F7_lq.va (by decide))
    have F8_fe := F7_fe.wrO W8 (own_neAA F7_fe F7_lq.va (by decide))
    have F8_cf := F7_cf.wrO W8 (own_neAA F7_cf F7_lq.va (by decide))
    have F8_dt := F7_dt.wrO W8 (own_neAA F7_dt F7_lq.va (by decide))
    have F8_b6 := F7.wrO W8 (Ne.symm ne_lq_b6)
    have F8_la7 := A7.wrO W8 (own_neAA A7 F7_lq.va (by decide))
    have F8_ca7 := AA7.wrO W8 (own_neAA AA7 F7_lq.va (by decide))
    refine own_iinc (n := 38) X8 hx (hb hby d3_35) rfl (v := (1 : Int32)) rfl (l' := #[.val (.ref a1), .val (.int p2), .val (.int ((0 : Int32) + (1 : Int32)))]) rfl rfl ?_
    refine own_goto (n := 17) X8 hx (hb hby d3_38) (by decide) (by decide) ?_
    refine own_iloadN (n := 18) X8 hx (hb hby d3_17) rfl rfl ?_
    refine own_iloadN (n := 19) X8 hx (hb hby d3_18) rfl rfl ?_
    refine own_icmpNo (n := 22) X8 hx (hb hby d3_19) (Jvm.Free.XT.ii_ge_f (by rw [Int32.lt_iff_toInt_lt, hp]; decide)) rfl ?_
    refine own_aloadN (n := 23) X8 hx (hb hby d3_22) rfl rfl rfl ?_
    refine own_getF (n := 26) X8 hx hZ hown (hw _ (List.mem_of_getElem? (i := 58) rfl)) e8 F8_a1.2.2.2.2.1 (hb hby d3_23) rfl ?_
    intro T9 X9 e9
    refine own_iloadN (n := 27) X9 hx (hb hby d3_26) rfl rfl ?_
    refine own_newO (n := 30) X9 hx hZ hown (hw _ (List.mem_of_getElem? (i := 17) rfl)) (hw _ (List.mem_of_getElem? (i := 18) rfl)) (hw _ (List.mem_of_getElem? (i := 19) rfl)) e9 (by decide) (by decide) (hb hby d3_27) rfl ?_
    intro T10 h10 b10 X10 e10 g10 E10 A10 D10
    have Z10 : n0 ≤ h10.size := Nat.le_trans Z8 E10.1
    have nb_b10 : n0 ≤ b10 := Nat.le_trans Z8 (Nat.le_of_eq g10.symm)
    have OL10 := OL8.ext E10
    have lt_b2_b10 : b2 < b10 := Nat.lt_of_lt_of_le F8_b2.lt (Nat.le_of_eq g10.symm)
    have ne_b2_b10 : b2 ≠ b10 := Nat.ne_of_lt (Nat.lt_of_lt_of_le F8_b2.lt (Nat.le_of_eq g10.symm))
    have F10_b2 := F8_b2.ext E10
    have lt_la3_b10 : la3 < b10 := Nat.lt_of_lt_of_le F8_la3.lt (Nat.le_of_eq g10.symm)
    have ne_la3_b10 : la3 ≠ b10 := Nat.ne_of_lt (Nat.lt_of_lt_of_le F8_la3.lt (Nat.le_of_eq g10.symm))
    have F10_la3 := F8_la3.ext E10
    have lt_ca3_b10 : ca3 < b10 := Nat.lt_of_lt_of_le F8_ca3.lt (Nat.le_of_eq g10.symm)
    have ne_ca3_b10 : ca3 ≠ b10 := Nat.ne_of_lt (Nat.lt_of_lt_of_le F8_ca3.lt (Nat.le_of_eq g10.symm))
    have F10_ca3 := F8_ca3.ext E10
    have lt_a1_b10 : a1 < b10 := Nat.lt_of_lt_of_le F8_a1.lt (Nat.le_of_eq g10.symm)
    have ne_a1_b10 : a1 ≠ b10 := Nat.ne_of_lt (Nat.lt_of_lt_of_le F8_a1.lt (Nat.le_of_eq g10.symm))
    have F10_a1 := F8_a1.ext E10
    have lt_lf_b10 : lf < b10 := Nat.lt_of_lt_of_le F8_lf.lt (Nat.le_of_eq g10.symm)
    have ne_lf_b10 : lf ≠ b10 := Nat.ne_of_lt (Nat.lt_of_lt_of_le F8_lf.lt (Nat.le_of_eq g10.symm))
    have F10_lf := F8_lf.ext E10
    have lt_fe_b10 : fe < b10 := Nat.lt_of_lt_of_le F8_fe.lt (Nat.le_of_eq g10.symm)
    have ne_fe_b10 : fe ≠ b10 := Nat.ne_of_lt (Nat.lt_of_lt_of_le F8_fe.lt (Nat.le_of_eq g10.symm))
    have F10_fe := F8_fe.ext E10
    have lt_cf_b10 : cf < b10 := Nat.lt_of_lt_of_le F8_cf.lt (Nat.le_of_eq g10.symm)
    have ne_cf_b10 : cf ≠ b10 := Nat.ne_of_lt (Nat.lt_of_lt_of_le F8_cf.lt (Nat.le_of_eq g10.symm))
    have F10_cf := F8_cf.ext E10
    have lt_lq_b10 : lq < b10 := Nat.lt_of_lt_of_le A8.lt (Nat.le_of_eq g10.symm)
    have ne_lq_b10 : lq ≠ b10 := Nat.ne_of_lt (Nat.lt_of_lt_of_le A8.lt (Nat.le_of_eq g10.symm))
    have F10_lq := A8.ext E10
    have lt_dt_b10 : dt < b10 := Nat.lt_of_lt_of_le F8_dt.lt (Nat.le_of_eq g10.symm)
    have ne_dt_b10 : dt ≠ b10 := Nat.ne_of_lt (Nat.lt_of_lt_of_le F8_dt.lt (Nat.le_of_eq g10.symm))
    have F10_dt := F8_dt.ext E10
    have lt_b6_b10 : b6 < b10 := Nat.lt_of_lt_of_le F8_b6.lt (Nat.le_of_eq g10.symm)
    have ne_b6_b10 : b6 ≠ b10 := Nat.ne_of_lt (Nat.lt_of_lt_of_le F8_b6.lt (Nat.le_of_eq g10.symm))
    have F10_b6 := F8_b6.ext E10
    have lt_la7_b10 : la7 < b10 := Nat.lt_of_lt_of_le F8_la7.lt (Nat.le_of_eq g10.symm)
    have ne_la7_b10 : la7 ≠ b10 := Nat.ne_of_lt (Nat.lt_of_lt_of_le F8_la7.lt (Nat.le_of_eq g10.symm))
    have F10_la7 := F8_la7.ext E10
    have lt_ca7_b10 : ca7 < b10 := Nat.lt_of_lt_of_le F8_ca7.lt (Nat.le_of_eq g10.symm)
    have ne_ca7_b10 : ca7 ≠ b10 := Nat.ne_of_lt (Nat.lt_of_lt_of_le F8_ca7.lt (Nat.le_of_eq g10.symm))
    have F10_ca7 := F8_ca7.ext E10
    have N10_b10 : RL Z h10 b10 (0) (0) (0) (.null) (.null) (0) (0) := ⟨A10, D10 (Or.inl (hw _ (List.mem_of_getElem? (i := 28) rfl))) (ty := .double) (by decide), D10 (Or.inl (hw _ (List.mem_of_getElem? (i := 30) rfl))) (ty := .double) (by decide), D10 (Or.inl (hw _ (List.mem_of_getElem? (i := 32) rfl))) (ty := .double) (by decide), D10 (Or.inl (hw _ (List.mem_of_getElem? (i := 35) rfl))) (ty := (.array .int)) (by decide), D10 (Or.inl (hw _ (List.mem_of_getElem? (i := 38) rfl))) (ty := (.array .long)) (by decide), D10 (Or.inl (hw _ (List.mem_of_getElem? (i := 40) rfl))) (ty := .int) (by decide), D10 (Or.inl (hw _ (List.mem_of_getElem? (i := 42) rfl))) (ty := .long) (by decide)⟩
    refine own_dup (n := 31) X10 hx (hb hby d3_30) rfl rfl ?_
    refine own_callN (n := 34) X10 hx hZ rfl hown (hw _ (List.mem_of_getElem? (i := 20) rfl)) (hw _ (List.mem_of_getElem? (i := 21) rfl)) (hw _ (List.mem_of_getElem? (i := 19) rfl)) (hw _ (List.mem_of_getElem? (i := 22) rfl)) (by decide) e10 (rm5 l Z a0 hw [] b10 h10 n0 Z10 N10_b10 nb_b10) (W := 3) (by decide) (by decide) (by decide) (by decide) (by rw [hml]; rfl) (argsL := []) (rest := [(.ref b10), (.int ((0 : Int32) + (1 : Int32))), (.ref lq)]) pd_5 rfl (a := b10) (by rfl) (Nat.le_of_eq rfl) (hb hby d3_31) rfl rfl ?_
    intro v11 T11 h11 L11 X11 e11 q11
    obtain ⟨rfl, M11, K11, la11, ca11, g11, gg11, F11, A11, AA11, bg11, bh11⟩ := q11
    have N11 := Fr.app N8 M11
    have lt_b10_la11 : b10 < la11 := Nat.lt_of_lt_of_le N10_b10.lt bg11
    have lt_b10_ca11 : b10 < ca11 := Nat.lt_of_lt_of_le N10_b10.lt bh11
    have Z11 : n0 ≤ h11.size := Nat.le_trans Z10 K11.1
    have OL11 := OL10.keep K11 (allS nb_b10 all0)
    have F11_b2 := F10_b2.keep K11 (ninS ne_b2_b10 nin0)
    have F11_la3 := F10_la3.keep K11 (ninS ne_la3_b10 nin0)
    have F11_ca3 := F10_ca3.keep K11 (ninS ne_ca3_b10 nin0)
    have F11_a1 := F10_a1.keep K11 (ninS ne_a1_b10 nin0)
    have F11_lf := F10_lf.keep K11 (ninS ne_lf_b10 nin0)
    have F11_fe := F10_fe.keep K11 (ninS ne_fe_b10 nin0)
    have F11_cf := F10_cf.keep K11 (ninS ne_cf_b10 nin0)
    have F11_lq := F10_lq.keep K11 (ninS ne_lq_b10 nin0)
    have F11_dt := F10_dt.keep K11 (ninS ne_dt_b10 nin0)
    have F11_b6 := F10_b6.keep K11 (ninS ne_b6_b10 nin0)
    have F11_la7 := F10_la7.keep K11 (ninS ne_la7_b10 nin0)
    have F11_ca7 := F10_ca7.keep K11 (ninS ne_ca7_b10 nin0)
    refine own_aastore (n := 35) X11 hx hZ e11 F11_lq (Ins.of_exa F11.1 (hw _ (List.mem_of_getElem? (i := 65) rfl))) (i := 1) (by decide) (by decide) (hb hby d3_34) rfl ?_
    intro T12 h12 X12 e12 W12 A12
    have N12 := Fr.snoc X12 N11 (Nat.le_trans Z3 u4)
    have Z12 : n0 ≤ h12.size := Nat.le_trans Z11 (Keep.of_wr W12).1
    have OL12 := OL11.wr W12 (Nat.le_trans Z3 u4)
    have F12_b2 := F11_b2.wrO W12 (own_neOA F11_b2.1 (hw _ (List.mem_of_getElem? (i := 18) rfl)) F11_lq.va)
    have F12_la3 := F11_la3.wrO W12 (own_neAA F11_la3 F11_lq.va (by decide))
    have F12_ca3 := F11_ca3.wrO W12 (own_neAA F11_ca3 F11_lq.va (by decide))
    have F12_a1 := F11_a1.wrO W12 (own_neOA F11_a1.1 (hw _ (List.mem_of_getElem? (i := 9) rfl)) F11_lq.va)
    have F12_lf := F11_lf.wrO W12 (own_neAA F11_lf F11_lq.va (by decide))
    have F12_fe := F11_fe.wrO W12 (own_neAA F11_fe F11_lq.va (by decide))
    have F12_cf := F11_cf.wrO W12 (own_neAA F11_cf F11_lq.va (by decide))
    have F12_dt := F11_dt.wrO W12 (own_neAA F11_dt F11_lq.va (by decide))
    have F12_b6 := F11_b6.wrO W12 (Ne.symm ne_lq_b6)
    have F12_la7 := F11_la7.wrO W12 (own_neAA F11_la7 F11_lq.va (by decide))
    have F12_ca7 := F11_ca7.wrO W12 (own_neAA F11_ca7 F11_lq.va (by decide))
    have F12_b10 := F11.wrO W12 (Ne.symm ne_lq_b10)
    have F12_la11 := A11.wrO W12 (own_neAA A11 F11_lq.va (by decide))
    have F12_ca11 := AA11.wrO W12 (own_neAA AA11 F11_lq.va (by decide))
    refine own_iinc (n := 38) X12 hx (hb hby d3_35) rfl (v := (1 : Int32)) rfl (l' := #[.val (.ref a1), .val (.int p2), .val (.int (((0 : Int32) + (1 : Int32)) + (1 : Int32)))]) rfl rfl ?_
    refine own_goto (n := 17) X12 hx (hb hby d3_38) (by decide) (by decide) ?_
    refine own_iloadN (n := 18) X12 hx (hb hby d3_17) rfl rfl ?_
    refine own_iloadN (n := 19) X12 hx (hb hby d3_18) rfl rfl ?_
    refine own_icmpYes (n := 41) X12 hx (hb hby d3_19) (Jvm.Free.XT.ii_ge_t (by rw [Int32.lt_iff_toInt_lt, hp]; decide)) (by decide) (by decide) ?_
    refine own_retV X12 hx lk hret (hb hby d3_41) (by decide) (by decide) ?_
    rw [e12]
    have W0 : OWNS (OWN a1 lf fe cf dt lq b6 b10 (h12.size)) a1 lf fe cf lq dt := own_owns lx_a1 o1 o2 o3 o4
    have w_b2 : (OWN a1 lf fe cf dt lq b6 b10 (h12.size)) b2 = 50 := own_ow50 lt_a1_b2 lx_b2 o1 o2 o3 o4 lt_dt_b6
    have w_la3 : (OWN a1 lf fe cf dt lq b6 b10 (h12.size)) la3 = 50 := own_ow50 (Nat.lt_trans lt_a1_b2 lt_b2_la3) lx_la3 o1 o2 o3 o4 lt_dt_b6
    have w_ca3 : (OWN a1 lf fe cf dt lq b6 b10 (h12.size)) ca3 = 50 := own_ow50 (Nat.lt_trans lt_a1_b2 lt_b2_ca3) lx_ca3 o1 o2 o3 o4 lt_dt_b6
    have w_b6 : (OWN a1 lf fe cf dt lq b6 b10 (h12.size)) b6 = 0 := own_ow0 lx_a1 o1 o2 o3 o4 lt_dt_b6 (Nat.le_refl _) lt_b6_b10
    have w_la7 : (OWN a1 lf fe cf dt lq b6 b10 (h12.size)) la7 = 0 := own_ow0 lx_a1 o1 o2 o3 o4 lt_dt_b6 (Nat.le_of_lt lt_b6_la7) lt_la7_b10
    have w_ca7 : (OWN a1 lf fe cf dt lq b6 b10 (h12.size)) ca7 = 0 := own_ow0 lx_a1 o1 o2 o3 o4 lt_dt_b6 (Nat.le_of_lt lt_b6_ca7) lt_ca7_b10
    have w_b10 : (OWN a1 lf fe cf dt lq b6 b10 (h12.size)) b10 = 1 := own_ow1 lx_a1 o1 o2 o3 o4 lt_dt_b6 lt_b6_b10 (Nat.le_refl _) F12_b10.lt
    have w_la11 : (OWN a1 lf fe cf dt lq b6 b10 (h12.size)) la11 = 1 := own_ow1 lx_a1 o1 o2 o3 o4 lt_dt_b6 lt_b6_b10 (Nat.le_of_lt lt_b10_la11) F12_la11.lt
    have w_ca11 : (OWN a1 lf fe cf dt lq b6 b10 (h12.size)) ca11 = 1 := own_ow1 lx_a1 o1 o2 o3 o4 lt_dt_b6 lt_b6_b10 (Nat.le_of_lt lt_b10_ca11) F12_ca11.lt
    refine ⟨rfl, N12, OL12, (OWN a1 lf fe cf dt lq b6 b10 (h12.size)), lf, fe, cf, lq, b2, dt, (fun j => if j = 0 then b6 else if j = 1 then b10 else b10), _, F12_a1, F12_lf, F12_fe, F12_cf, RA.congr A12 (fun j hj => ?_), F12_dt, W0, ⟨nb, Nat.le_trans Z3 u1, Nat.le_trans Z3 u2, Nat.le_trans Z3 u3, Nat.le_trans Z3 u5⟩, fun j hj => ?_, ⟨1, Nat.le_refl _, la3, ca3, 1, _, _, _, _, _, _, F12_b2, F12_la3, F12_ca3, w_b2, w_la3, w_ca3, nb_b2, Nat.le_trans nb_b2 (Nat.le_of_lt lt_b2_la3), Nat.le_trans nb_b2 (Nat.le_of_lt lt_b2_ca3), Nat.le_refl _, Nat.le_refl _, by decide⟩⟩
    · rcases (show j = 0 ∨ j = 1 by omega) with rfl | rfl <;> rfl
    · rcases (show j = 0 ∨ j = 1 by omega) with rfl | rfl
      · exact ⟨1, Nat.le_refl _, la7, ca7, 1, _, _, _, _, _, _, F12_b6, F12_la7, F12_ca7, w_b6, w_la7, w_ca7, nb_b6, Nat.le_trans nb_b6 (Nat.le_of_lt lt_b6_la7), Nat.le_trans nb_b6 (Nat.le_of_lt lt_b6_ca7), Nat.le_refl _, Nat.le_refl _, by decide⟩
      · exact ⟨1, Nat.le_refl _, la11, ca11, 1, _, _, _, _, _, _, F12_b10, F12_la11, F12_ca11, w_b10, w_la11, w_ca11, nb_b10, Nat.le_trans nb_b10 (Nat.le_of_lt lt_b10_la11), Nat.le_trans nb_b10 (Nat.le_of_lt lt_b10_ca11), Nat.le_refl _, Nat.le_refl _, by decide⟩
  · skip
    refine own_aloadN (n := 1) X0 hx (hb hby d3_0) rfl rfl rfl ?_
    refine own_iloadN (n := 2) X0 hx (hb hby d3_1) rfl rfl ?_
    refine own_callS (n := 5) X0 hx hZ hown (hw _ (List.mem_of_getElem? (i := 14) rfl)) (hw _ (List.mem_of_getElem? (i := 15) rfl)) (hw _ (List.mem_of_getElem? (i := 10) rfl)) (hw _ (List.mem_of_getElem? (i := 16) rfl)) (by decide) e0 (rm4 l Z a0 hw [] p2 h0 n0 Z0 (by have o : (0 : Int32).toInt = 0 := rfl; rw [Int32.lt_iff_toInt_lt, hp]; omega)) (W := 1) (by decide) (by decide) (by decide) (by decide) (by rw [hml]; rfl) (argsL := [(.int p2)]) (rest := [(.ref a1)]) pd_4 rfl (by rfl) (Nat.le_of_eq rfl) (hb hby d3_2) rfl rfl ?_
    intro v13 T13 h13 L13 X13 e13 q13
    obtain ⟨rfl, M13, rfl⟩ := q13
    have N13 := Fr.app N0 M13
    refine own_newO (n := 8) X13 hx hZ hown (hw _ (List.mem_of_getElem? (i := 17) rfl)) (hw _ (List.mem_of_getElem? (i := 18) rfl)) (hw _ (List.mem_of_getElem? (i := 19) rfl)) e13 (by decide) (by decide) (hb hby d3_5) rfl ?_
    intro T14 h14 b14 X14 e14 g14 E14 A14 D14
    have Z14 : n0 ≤ h14.size := Nat.le_trans Z0 E14.1
    have nb_b14 : n0 ≤ b14 := Nat.le_trans Z0 (Nat.le_of_eq g14.symm)
    have OL14 := OL.ext E14
    have lt_a1_b14 : a1 < b14 := Nat.lt_of_lt_of_le F0.lt (Nat.le_of_eq g14.symm)
    have ne_a1_b14 : a1 ≠ b14 := Nat.ne_of_lt (Nat.lt_of_lt_of_le F0.lt (Nat.le_of_eq g14.symm))
    have F14_a1 := F0.ext E14
    have N14_b14 : RL Z h14 b14 (0) (0) (0) (.null) (.null) (0) (0) := ⟨A14, D14 (Or.inl (hw _ (List.mem_of_getElem? (i := 28) rfl))) (ty := .double) (by decide), D14 (Or.inl (hw _ (List.mem_of_getElem? (i := 30) rfl))) (ty := .double) (by decide), D14 (Or.inl (hw _ (List.mem_of_getElem? (i := 32) rfl))) (ty := .double) (by decide), D14 (Or.inl (hw _ (List.mem_of_getElem? (i := 35) rfl))) (ty := (.array .int)) (by decide), D14 (Or.inl (hw _ (List.mem_of_getElem? (i := 38) rfl))) (ty := (.array .long)) (by decide), D14 (Or.inl (hw _ (List.mem_of_getElem? (i := 40) rfl))) (ty := .int) (by decide), D14 (Or.inl (hw _ (List.mem_of_getElem? (i := 42) rfl))) (ty := .long) (by decide)⟩
    refine own_dup (n := 9) X14 hx (hb hby d3_8) rfl rfl ?_
    refine own_callN (n := 12) X14 hx hZ rfl hown (hw _ (List.mem_of_getElem? (i := 20) rfl)) (hw _ (List.mem_of_getElem? (i := 21) rfl)) (hw _ (List.mem_of_getElem? (i := 19) rfl)) (hw _ (List.mem_of_getElem? (i := 22) rfl)) (by decide) e14 (rm5 l Z a0 hw [] b14 h14 n0 Z14 N14_b14 nb_b14) (W := 3) (by decide) (by decide) (by decide) (by decide) (by rw [hml]; rfl) (argsL := []) (rest := [(.ref b14), (.int p2), (.ref a1)]) pd_5 rfl (a := b14) (by rfl) (Nat.le_of_eq rfl) (hb hby d3_9) rfl rfl ?_
    intro v15 T15 h15 L15 X15 e15 q15
    obtain ⟨rfl, M15, K15, la15, ca15, g15, gg15, F15, A15, AA15, bg15, bh15⟩ := q15
    have N15 := Fr.app N13 M15
    have lt_b14_la15 : b14 < la15 := Nat.lt_of_lt_of_le N14_b14.lt bg15
    have lt_b14_ca15 : b14 < ca15 := Nat.lt_of_lt_of_le N14_b14.lt bh15
    have Z15 : n0 ≤ h15.size := Nat.le_trans Z14 K15.1
    have OL15 := OL14.keep K15 (allS nb_b14 all0)
    have F15_a1 := F14_a1.keep K15 (ninS ne_a1_b14 nin0)
    refine own_callN (n := 15) X15 hx hZ rfl hown (hw _ (List.mem_of_getElem? (i := 43) rfl)) (hw _ (List.mem_of_getElem? (i := 44) rfl)) (hw _ (List.mem_of_getElem? (i := 10) rfl)) (hw _ (List.mem_of_getElem? (i := 45) rfl)) (by decide) e15 (rm7 l Z a0 hw [] a1 p2 b14 3 h15 n0 Z15 F15_a1 nb hp (by decide)) (W := 0) (by decide) (by decide) (by decide) (by decide) (by rw [hml]; rfl) (argsL := [(.int p2), (.ref b14)]) (rest := []) pd_7 rfl (a := a1) (by rfl) (Nat.le_of_eq rfl) (hb hby d3_12) rfl rfl ?_
    intro v16 T16 h16 L16 X16 e16 q16
    obtain ⟨rfl, M16, K16, lf, fe, cf, lq, dt, F16, Ai, Aj, Ak, Al, Am, ⟨o1, o2, o3, o4⟩, u1, u2, u3, u4, u5⟩ := q16
    have N16 := Fr.app N15 M16
    have lx_b14 : b14 < lf := Nat.lt_of_lt_of_le F15.lt u1
    have lx_la15 : la15 < lf := Nat.lt_of_lt_of_le A15.lt u1
    have lx_ca15 : ca15 < lf := Nat.lt_of_lt_of_le AA15.lt u1
    have lx_a1 : a1 < lf := Nat.lt_of_lt_of_le F15_a1.lt u1
    have Z16 : n0 ≤ h16.size := Nat.le_trans Z15 K16.1
    have OL16 := OL15.keep K16 (allS nb all0)
    have F16_b14 := F15.keep K16 (ninS (Ne.symm ne_a1_b14) nin0)
    have F16_la15 := A15.keep K16 (ninS (Ne.symm (own_neOA F15_a1.1 (hw _ (List.mem_of_getElem? (i := 9) rfl)) A15)) nin0)
    have F16_ca15 := AA15.keep K16 (ninS (Ne.symm (own_neOA F15_a1.1 (hw _ (List.mem_of_getElem? (i := 9) rfl)) AA15)) nin0)
    refine own_iconst (n := 16) X16 hx (0 : Int32) (hb hby d3_15) rfl rfl ?_
    refine own_istoreN (n := 17) X16 hx (hb hby d3_16) (l' := #[.val (.ref a1), .val (.int p2), .val (.int (0 : Int32))]) rfl rfl ?_
    refine own_iloadN (n := 18) X16 hx (hb hby d3_17) rfl rfl ?_
    refine own_iloadN (n := 19) X16 hx (hb hby d3_18) rfl rfl ?_
    refine own_icmpNo (n := 22) X16 hx (hb hby d3_19) (Jvm.Free.XT.ii_ge_f (by rw [Int32.lt_iff_toInt_lt, hp]; decide)) rfl ?_
    refine own_aloadN (n := 23) X16 hx (hb hby d3_22) rfl rfl rfl ?_
    refine own_getF (n := 26) X16 hx hZ hown (hw _ (List.mem_of_getElem? (i := 58) rfl)) e16 F16.2.2.2.2.1 (hb hby d3_23) rfl ?_
    intro T17 X17 e17
    refine own_iloadN (n := 27) X17 hx (hb hby d3_26) rfl rfl ?_
    refine own_newO (n := 30) X17 hx hZ hown (hw _ (List.mem_of_getElem? (i := 17) rfl)) (hw _ (List.mem_of_getElem? (i := 18) rfl)) (hw _ (List.mem_of_getElem? (i := 19) rfl)) e17 (by decide) (by decide) (hb hby d3_27) rfl ?_
    intro T18 h18 b18 X18 e18 g18 E18 A18 D18
    have Z18 : n0 ≤ h18.size := Nat.le_trans Z16 E18.1
    have nb_b18 : n0 ≤ b18 := Nat.le_trans Z16 (Nat.le_of_eq g18.symm)
    have OL18 := OL16.ext E18
    have lt_b14_b18 : b14 < b18 := Nat.lt_of_lt_of_le F16_b14.lt (Nat.le_of_eq g18.symm)
    have ne_b14_b18 : b14 ≠ b18 := Nat.ne_of_lt (Nat.lt_of_lt_of_le F16_b14.lt (Nat.le_of_eq g18.symm))
    have F18_b14 := F16_b14.ext E18
    have lt_la15_b18 : la15 < b18 := Nat.lt_of_lt_of_le F16_la15.lt (Nat.le_of_eq g18.symm)
    have ne_la15_b18 : la15 ≠ b18 := Nat.ne_of_lt (Nat.lt_of_lt_of_le F16_la15.lt (Nat.le_of_eq g18.symm))
    have F18_la15 := F16_la15.ext E18
    have lt_ca15_b18 : ca15 < b18 := Nat.lt_of_lt_of_le F16_ca15.lt (Nat.le_of_eq g18.symm)
    have ne_ca15_b18 : ca15 ≠ b18 := Nat.ne_of_lt (Nat.lt_of_lt_of_le F16_ca15.lt (Nat.le_of_eq g18.symm))
    have F18_ca15 := F16_ca15.ext E18
    have lt_a1_b18 : a1 < b18 := Nat.lt_of_lt_of_le F16.lt (Nat.le_of_eq g18.symm)
    have ne_a1_b18 : a1 ≠ b18 := Nat.ne_of_lt (Nat.lt_of_lt_of_le F16.lt (Nat.le_of_eq g18.symm))
    have F18_a1 := F16.ext E18
    have lt_lf_b18 : lf < b18 := Nat.lt_of_lt_of_le Ai.lt (Nat.le_of_eq g18.symm)
    have ne_lf_b18 : lf ≠ b18 := Nat.ne_of_lt (Nat.lt_of_lt_of_le Ai.lt (Nat.le_of_eq g18.symm))
    have F18_lf := Ai.ext E18
    have lt_fe_b18 : fe < b18 := Nat.lt_of_lt_of_le Aj.lt (Nat.le_of_eq g18.symm)
    have ne_fe_b18 : fe ≠ b18 := Nat.ne_of_lt (Nat.lt_of_lt_of_le Aj.lt (Nat.le_of_eq g18.symm))
    have F18_fe := Aj.ext E18
    have lt_cf_b18 : cf < b18 := Nat.lt_of_lt_of_le Ak.lt (Nat.le_of_eq g18.symm)
    have ne_cf_b18 : cf ≠ b18 := Nat.ne_of_lt (Nat.lt_of_lt_of_le Ak.lt (Nat.le_of_eq g18.symm))
    have F18_cf := Ak.ext E18
    have lt_lq_b18 : lq < b18 := Nat.lt_of_lt_of_le Al.lt (Nat.le_of_eq g18.symm)
    have ne_lq_b18 : lq ≠ b18 := Nat.ne_of_lt (Nat.lt_of_lt_of_le Al.lt (Nat.le_of_eq g18.symm))
    have F18_lq := Al.ext E18
    have lt_dt_b18 : dt < b18 := Nat.lt_of_lt_of_le Am.lt (Nat.le_of_eq g18.symm)
    have ne_dt_b18 : dt ≠ b18 := Nat.ne_of_lt (Nat.lt_of_lt_of_le Am.lt (Nat.le_of_eq g18.symm))
    have F18_dt := Am.ext E18
    have N18_b18 : RL Z h18 b18 (0) (0) (0) (.null) (.null) (0) (0) := ⟨A18, D18 (Or.inl (hw _ (List.mem_of_getElem? (i := 28) rfl))) (ty := .double) (by decide), D18 (Or.inl (hw _ (List.mem_of_getElem? (i := 30) rfl))) (ty := .double) (by decide), D18 (Or.inl (hw _ (List.mem_of_getElem? (i := 32) rfl))) (ty := .double) (by decide), D18 (Or.inl (hw _ (List.mem_of_getElem? (i := 35) rfl))) (ty := (.array .int)) (by decide), D18 (Or.inl (hw _ (List.mem_of_getElem? (i := 38) rfl))) (ty := (.array .long)) (by decide), D18 (Or.inl (hw _ (List.mem_of_getElem? (i := 40) rfl))) (ty := .int) (by decide), D18 (Or.inl (hw _ (List.mem_of_getElem? (i := 42) rfl))) (ty := .long) (by decide)⟩
    refine own_dup (n := 31) X18 hx (hb hby d3_30) rfl rfl ?_
    refine own_callN (n := 34) X18 hx hZ rfl hown (hw _ (List.mem_of_getElem? (i := 20) rfl)) (hw _ (List.mem_of_getElem? (i := 21) rfl)) (hw _ (List.mem_of_getElem? (i := 19) rfl)) (hw _ (List.mem_of_getElem? (i := 22) rfl)) (by decide) e18 (rm5 l Z a0 hw [] b18 h18 n0 Z18 N18_b18 nb_b18) (W := 3) (by decide) (by decide) (by decide) (by decide) (by rw [hml]; rfl) (argsL := []) (rest := [(.ref b18), (.int (0 : Int32)), (.ref lq)]) pd_5 rfl (a := b18) (by rfl) (Nat.le_of_eq rfl) (hb hby d3_31) rfl rfl ?_
    intro v19 T19 h19 L19 X19 e19 q19
    obtain ⟨rfl, M19, K19, la19, ca19, g19, gg19, F19, A19, AA19, bg19, bh19⟩ := q19
    have N19 := Fr.app N16 M19
    have lt_b18_la19 : b18 < la19 := Nat.lt_of_lt_of_le N18_b18.lt bg19
    have lt_b18_ca19 : b18 < ca19 := Nat.lt_of_lt_of_le N18_b18.lt bh19
    have Z19 : n0 ≤ h19.size := Nat.le_trans Z18 K19.1
    have OL19 := OL18.keep K19 (allS nb_b18 all0)
    have F19_b14 := F18_b14.keep K19 (ninS ne_b14_b18 nin0)
    have F19_la15 := F18_la15.keep K19 (ninS ne_la15_b18 nin0)
    have F19_ca15 := F18_ca15.keep K19 (ninS ne_ca15_b18 nin0)
    have F19_a1 := F18_a1.keep K19 (ninS ne_a1_b18 nin0)
    have F19_lf := F18_lf.keep K19 (ninS ne_lf_b18 nin0)
    have F19_fe := F18_fe.keep K19 (ninS ne_fe_b18 nin0)
    have F19_cf := F18_cf.keep K19 (ninS ne_cf_b18 nin0)
    have F19_lq := F18_lq.keep K19 (ninS ne_lq_b18 nin0)
    have F19_dt := F18_dt.keep K19 (ninS ne_dt_b18 nin0)
    refine own_aastore (n := 35) X19 hx hZ e19 F19_lq (Ins.of_exa F19.1 (hw _ (List.mem_of_getElem? (i := 65) rfl))) (i := 0) (by decide) (by decide) (hb hby d3_34) rfl ?_
    intro T20 h20 X20 e20 W20 A20
    have N20 := Fr.snoc X20 N19 (Nat.le_trans Z15 u4)
    have Z20 : n0 ≤ h20.size := Nat.le_trans Z19 (Keep.of_wr W20).1
    have OL20 := OL19.wr W20 (Nat.le_trans Z15 u4)
    have F20_b14 := F19_b14.wrO W20 (own_neOA F19_b14.1 (hw _ (List.mem_of_getElem? (i := 18) rfl)) F19_lq.va)
    have F20_la15 := F19_la15.wrO W20 (own_neAA F19_la15 F19_lq.va (by decide))
    have F20_ca15 := F19_ca15.wrO W20 (own_neAA F19_ca15 F19_lq.va (by decide))
    have F20_a1 := F19_a1.wrO W20 (own_neOA F19_a1.1 (hw _ (List.mem_of_getElem? (i := 9) rfl)) F19_lq.va)
    have F20_lf := F19_lf.wrO W20 (own_neAA F19_lf F19_lq.va (by decide))
    have F20_fe := F19_fe.wrO W20 (own_neAA F19_fe F19_lq.va (by decide))
    have F20_cf := F19_cf.wrO W20 (own_neAA F19_cf F19_lq.va (by decide))
    have F20_dt := F19_dt.wrO W20 (own_neAA F19_dt F19_lq.va (by decide))
    have F20_b18 := F19.wrO W20 (Ne.symm ne_lq_b18)
    have F20_la19 := A19.wrO W20 (own_neAA A19 F19_lq.va (by decide))
    have F20_ca19 := AA19.wrO W20 (own_neAA AA19 F19_lq.va (by decide))
    refine own_iinc (n := 38) X20 hx (hb hby d3_35) rfl (v := (1 : Int32)) rfl (l' := #[.val (.ref a1), .val (.int p2), .val (.int ((0 : Int32) + (1 : Int32)))]) rfl rfl ?_
    refine own_goto (n := 17) X20 hx (hb hby d3_38) (by decide) (by decide) ?_
    refine own_iloadN (n := 18) X20 hx (hb hby d3_17) rfl rfl ?_
    refine own_iloadN (n := 19) X20 hx (hb hby d3_18) rfl rfl ?_
    refine own_icmpNo (n := 22) X20 hx (hb hby d3_19) (Jvm.Free.XT.ii_ge_f (by rw [Int32.lt_iff_toInt_lt, hp]; decide)) rfl ?_
    refine own_aloadN (n := 23) X20 hx (hb hby d3_22) rfl rfl rfl ?_
    refine own_getF (n := 26) X20 hx hZ hown (hw _ (List.mem_of_getElem? (i := 58) rfl)) e20 F20_a1.2.2.2.2.1 (hb hby d3_23) rfl ?_
    intro T21 X21 e21
    refine own_iloadN (n := 27) X21 hx (hb hby d3_26) rfl rfl ?_
    refine own_newO (n := 30) X21 hx hZ hown (hw _ (List.mem_of_getElem? (i := 17) rfl)) (hw _ (List.mem_of_getElem? (i := 18) rfl)) (hw _ (List.mem_of_getElem? (i := 19) rfl)) e21 (by decide) (by decide) (hb hby d3_27) rfl ?_
    intro T22 h22 b22 X22 e22 g22 E22 A22 D22
    have Z22 : n0 ≤ h22.size := Nat.le_trans Z20 E22.1
    have nb_b22 : n0 ≤ b22 := Nat.le_trans Z20 (Nat.le_of_eq g22.symm)
    have OL22 := OL20.ext E22
    have lt_b14_b22 : b14 < b22 := Nat.lt_of_lt_of_le F20_b14.lt (Nat.le_of_eq g22.symm)
    have ne_b14_b22 : b14 ≠ b22 := Nat.ne_of_lt (Nat.lt_of_lt_of_le F20_b14.lt (Nat.le_of_eq g22.symm))
    have F22_b14 := F20_b14.ext E22
    have lt_la15_b22 : la15 < b22 := Nat.lt_of_lt_of_le F20_la15.lt (Nat.le_of_eq g22.symm)
    have ne_la15_b22 : la15 ≠ b22 := Nat.ne_of_lt (Nat.lt_of_lt_of_le F20_la15.lt (Nat.le_of_eq g22.symm))
    have F22_la15 := F20_la15.ext E22
    have lt_ca15_b22 : ca15 < b22 := Nat.lt_of_lt_of_le F20_ca15.lt (Nat.le_of_eq g22.symm)
    have ne_ca15_b22 : ca15 ≠ b22 := Nat.ne_of_lt (Nat.lt_of_lt_of_le F20_ca15.lt (Nat.le_of_eq g22.symm))
    have F22_ca15 := F20_ca15.ext E22
    have lt_a1_b22 : a1 < b22 := Nat.lt_of_lt_of_le F20_a1.lt (Nat.le_of_eq g22.symm)
    have ne_a1_b22 : a1 ≠ b22 := Nat.ne_of_lt (Nat.lt_of_lt_of_le F20_a1.lt (Nat.le_of_eq g22.symm))
    have F22_a1 := F20_a1.ext E22
    have lt_lf_b22 : lf < b22 := Nat.lt_of_lt_of_le F20_lf.lt (Nat.le_of_eq g22.symm)
    have ne_lf_b22 : lf ≠ b22 := Nat.ne_of_lt (Nat.lt_of_lt_of_le F20_lf.lt (Nat.le_of_eq g22.symm))
    have F22_lf := F20_lf.ext E22
    have lt_fe_b22 : fe < b22 := Nat.lt_of_lt_of_le F20_fe.lt (Nat.le_of_eq g22.symm)
    have ne_fe_b22 : fe ≠ b22 := Nat.ne_of_lt (Nat.lt_of_lt_of_le F20_fe.lt (Nat.le_of_eq g22.symm))
    have F22_fe := F20_fe.ext E22
    have lt_cf_b22 : cf < b22 := Nat.lt_of_lt_of_le F20_cf.lt (Nat.le_of_eq g22.symm)
    have ne_cf_b22 : cf ≠ b22 := Nat.ne_of_lt (Nat.lt_of_lt_of_le F20_cf.lt (Nat.le_of_eq g22.symm))
    have F22_cf := F20_cf.ext E22
    have lt_lq_b22 : lq < b22 := Nat.lt_of_lt_of_le A20.lt (Nat.le_of_eq g22.symm)
    have ne_lq_b22 : lq ≠ b22 := Nat.ne_of_lt (Nat.lt_of_lt_of_le A20.lt (Nat.le_of_eq g22.symm))
    have F22_lq := A20.ext E22
    have lt_dt_b22 : dt < b22 := Nat.lt_of_lt_of_le F20_dt.lt (Nat.le_of_eq g22.symm)
    have ne_dt_b22 : dt ≠ b22 := Nat.ne_of_lt (Nat.lt_of_lt_of_le F20_dt.lt (Nat.le_of_eq g22.symm))
    have F22_dt := F20_dt.ext E22
    have lt_b18_b22 : b18 < b22 := Nat.lt_of_lt_of_le F20_b18.lt (Nat.le_of_eq g22.symm)
    have ne_b18_b22 : b18 ≠ b22 := Nat.ne_of_lt (Nat.lt_of_lt_of_le F20_b18.lt (Nat.le_of_eq g22.symm))
    have F22_b18 := F20_b18.ext E22
    have lt_la19_b22 : la19 < b22 := Nat.lt_of_lt_of_le F20_la19.lt (Nat.le_of_eq g22.symm)
    have ne_la19_b22 : la19 ≠ b22 := Nat.ne_of_lt (Nat.lt_of_lt_of_le F20_la19.lt (Nat.le_of_eq g22.symm))
    have F22_la19 := F20_la19.ext E22
    have lt_ca19_b22 : ca19 < b22 := Nat.lt_of_lt_of_le F20_ca19.lt (Nat.le_of_eq g22.symm)
    have ne_ca19_b22 : ca19 ≠ b22 := Nat.ne_of_lt (Nat.lt_of_lt_of_le F20_ca19.lt (Nat.le_of_eq g22.symm))
    have F22_ca19 := F20_ca19.ext E22
    have N22_b22 : RL Z h22 b22 (0) (0) (0) (.null) (.null) (0) (0) := ⟨A22, D22 (Or.inl (hw _ (List.mem_of_getElem? (i := 28) rfl))) (ty := .double) (by decide), D22 (Or.inl (hw _ (List.mem_of_getElem? (i := 30) rfl))) (ty := .double) (by decide), D22 (Or.inl (hw _ (List.mem_of_getElem? (i := 32) rfl))) (ty := .double) (by decide), D22 (Or.inl (hw _ (List.mem_of_getElem? (i := 35) rfl))) (ty := (.array .int)) (by decide), D22 (Or.inl (hw _ (List.mem_of_getElem? (i := 38) rfl))) (ty := (.array .long)) (by decide), D22 (Or.inl (hw _ (List.mem_of_getElem? (i := 40) rfl))) (ty := .int) (by decide), D22 (Or.inl (hw _ (List.mem_of_getElem? (i := 42) rfl))) (ty := .long) (by decide)⟩
    refine own_dup (n := 31) X22 hx (hb hby d3_30) rfl rfl ?_
    refine own_callN (n := 34) X22 hx hZ rfl hown (hw _ (List.mem_of_getElem? (i := 20) rfl)) (hw _ (List.mem_of_getElem? (i := 21) rfl)) (hw _ (List.mem_of_getElem? (i := 19) rfl)) (hw _ (List.mem_of_getElem? (i := 22) rfl)) (by decide) e22 (rm5 l Z a0 hw [] b22 h22 n0 Z22 N22_b22 nb_b22) (W := 3) (by decide) (by decide) (by decide) (by decide) (by rw [hml]; rfl) (argsL := []) (rest := [(.ref b22), (.int ((0 : Int32) + (1 : Int32))), (.ref lq)]) pd_5 rfl (a := b22) (by rfl) (Nat.le_of_eq rfl) (hb hby d3_31) rfl rfl ?_
    intro v23 T23 h23 L23 X23 e23 q23
    obtain ⟨rfl, M23, K23, la23, ca23, g23, gg23, F23, A23, AA23, bg23, bh23⟩ := q23
    have N23 := Fr.app N20 M23
    have lt_b22_la23 : b22 < la23 := Nat.lt_of_lt_of_le N22_b22.lt bg23
    have lt_b22_ca23 : b22 < ca23 := Nat.lt_of_lt_of_le N22_b22.lt bh23
    have Z23 : n0 ≤ h23.size := Nat.le_trans Z22 K23.1
    have OL23 := OL22.keep K23 (allS nb_b22 all0)
    have F23_b14 := F22_b14.keep K23 (ninS ne_b14_b22 nin0)
    have F23_la15 := F22_la15.keep K23 (ninS ne_la15_b22 nin0)
    have F23_ca15 := F22_ca15.keep K23 (ninS ne_ca15_b22 nin0)
    have F23_a1 := F22_a1.keep K23 (ninS ne_a1_b22 nin0)
    have F23_lf := F22_lf.keep K23 (ninS ne_lf_b22 nin0)
    have F23_fe := F22_fe.keep K23 (ninS ne_fe_b22 nin0)
    have F23_cf := F22_cf.keep K23 (ninS ne_cf_b22 nin0)
    have F23_lq := F22_lq.keep K23 (ninS ne_lq_b22 nin0)
    have F23_dt := F22_dt.keep K23 (ninS ne_dt_b22 nin0)
    have F23_b18 := F22_b18.keep K23 (ninS ne_b18_b22 nin0)
    have F23_la19 := F22_la19.keep K23 (ninS ne_la19_b22 nin0)
    have F23_ca19 := F22_ca19.keep K23 (ninS ne_ca19_b22 nin0)
    refine own_aastore (n := 35) X23 hx hZ e23 F23_lq (Ins.of_exa F23.1 (hw _ (List.mem_of_getElem? (i := 65) rfl))) (i := 1) (by decide) (by decide) (hb hby d3_34) rfl ?_
    intro T24 h24 X24 e24 W24 A24
    have N24 := Fr.snoc X24 N23 (Nat.le_trans Z15 u4)
    have Z24 : n0 ≤ h24.size := Nat.le_trans Z23 (Keep.of_wr W24).1
    have OL24 := OL23.wr W24 (Nat.le_trans Z15 u4)
    have F24_b14 := F23_b14.wrO W24 (own_neOA F23_b14.1 (hw _ (List.mem_of_getElem? (i := 18) rfl)) F23_lq.va)
    have F24_la15 := F23_la15.wrO W24 (own_neAA F23_la15 F23_lq.va (by decide))
    have F24_ca15 := F23_ca15.wrO W24 (own_neAA F23_ca15 F23_lq.va (by decide))
    have F24_a1 := F23_a1.wrO W24 (own_neOA F23_a1.1 (hw _ (List.mem_of_getElem? (i := 9) rfl)) F23_lq.va)
    have F24_lf := F23_lf.wrO W24 (own_neAA F23_lf F23_lq.va (by decide))
    have F24_fe := F23_fe.wrO W24 (own_neAA F23_fe F23_lq.va (by decide))
    have F24_cf := F23_cf.wrO W24 (own_neAA F23_cf F23_lq.va (by decide))
    have F24_dt := F23_dt.wrO W24 (own_neAA F23_dt F23_lq.va (by decide))
    have F24_b18 := F23_b18.wrO W24 (Ne.symm ne_lq_b18)
    have F24_la19 := F23_la19.wrO W24 (own_neAA F23_la19 F23_lq.va (by decide))
    have F24_ca19 := F23_ca19.wrO W24 (own_neAA F23_ca19 F23_lq.va (by decide))
    have F24_b22 := F23.wrO W24 (Ne.symm ne_lq_b22)
    have F24_la23 := A23.wrO W24 (own_neAA A23 F23_lq.va (by decide))
    have F24_ca23 := AA23.wrO W24 (own_neAA AA23 F23_lq.va (by decide))
    refine own_iinc (n := 38) X24 hx (hb hby d3_35) rfl (v := (1 : Int32)) rfl (l' := #[.val (.ref a1), .val (.int p2), .val (.int (((0 : Int32) + (1 : Int32)) + (1 : Int32)))]) rfl rfl ?_
    refine own_goto (n := 17) X24 hx (hb hby d3_38) (by decide) (by decide) ?_
    refine own_iloadN (n := 18) X24 hx (hb hby d3_17) rfl rfl ?_
    refine own_iloadN (n := 19) X24 hx (hb hby d3_18) rfl rfl ?_
    refine own_icmpNo (n := 22) X24 hx (hb hby d3_19) (Jvm.Free.XT.ii_ge_f (by rw [Int32.lt_iff_toInt_lt, hp]; decide)) rfl ?_
    refine own_aloadN (n := 23) X24 hx (hb hby d3_22) rfl rfl rfl ?_
    refine own_getF (n := 26) X24 hx hZ hown (hw _ (List.mem_of_getElem? (i := 58) rfl)) e24 F24_a1.2.2.2.2.1 (hb hby d3_23) rfl ?_
    intro T25 X25 e25
    refine own_iloadN (n := 27) X25 hx (hb hby d3_26) rfl rfl ?_
    refine own_newO (n := 30) X25 hx hZ hown (hw _ (List.mem_of_getElem? (i := 17) rfl)) (hw _ (List.mem_of_getElem? (i := 18) rfl)) (hw _ (List.mem_of_getElem? (i := 19) rfl)) e25 (by decide) (by decide) (hb hby d3_27) rfl ?_
    intro T26 h26 b26 X26 e26 g26 E26 A26 D26
    have Z26 : n0 ≤ h26.size := Nat.le_trans Z24 E26.1
    have nb_b26 : n0 ≤ b26 := Nat.le_trans Z24 (Nat.le_of_eq g26.symm)
    have OL26 := OL24.ext E26
    have lt_b14_b26 : b14 < b26 := Nat.lt_of_lt_of_le F24_b14.lt (Nat.le_of_eq g26.symm)
    have ne_b14_b26 : b14 ≠ b26 := Nat.ne_of_lt (Nat.lt_of_lt_of_le F24_b14.lt (Nat.le_of_eq g26.symm))
    have F26_b14 := F24_b14.ext E26
    have lt_la15_b26 : la15 < b26 := Nat.lt_of_lt_of_le F24_la15.lt (Nat.le_of_eq g26.symm)
    have ne_la15_b26 : la15 ≠ b26 := Nat.ne_of_lt (Nat.lt_of_lt_of_le F24_la15.lt (Nat.le_of_eq g26.symm))
    have F26_la15 := F24_la15.ext E26
    have lt_ca15_b26 : ca15 < b26 := Nat.lt_of_lt_of_le F24_ca15.lt (Nat.le_of_eq g26.symm)
    have ne_ca15_b26 : ca15 ≠ b26 := Nat.ne_of_lt (Nat.lt_of_lt_of_le F24_ca15.lt (Nat.le_of_eq g26.symm))
    have F26_ca15 := F24_ca15.ext E26
    have lt_a1_b26 : a1 < b26 := Nat.lt_of_lt_of_le F24_a1.lt (Nat.le_of_eq g26.symm)
    have ne_a1_b26 : a1 ≠ b26 := Nat.ne_of_lt (Nat.lt_of_lt_of_le F24_a1.lt (Nat.le_of_eq g26.symm))
    have F26_a1 := F24_a1.ext E26
    have lt_lf_b26 : lf < b26 := Nat.lt_of_lt_of_le F24_lf.lt (Nat.le_of_eq g26.symm)
    have ne_lf_b26 : lf ≠ b26 := Nat.ne_of_lt (Nat.lt_of_lt_of_le F24_lf.lt (Nat.le_of_eq g26.symm))
    have F26_lf := F24_lf.ext E26
    have lt_fe_b26 : fe < b26 := Nat.lt_of_lt_of_le F24_fe.lt (Nat.le_of_eq g26.symm)
    have ne_fe_b26 : fe ≠ b26 := Nat.ne_of_lt (Nat.lt_of_lt_of_le F24_fe.lt (Nat.le_of_eq g26.symm))
    have F26_fe := F24_fe.ext E26
    have lt_cf_b26 : cf < b26 := Nat.lt_of_lt_of_le F24_cf.lt (Nat.le_of_eq g26.symm)
    have ne_cf_b26 : cf ≠ b26 := Nat.ne_of_lt (Nat.lt_of_lt_of_le F24_cf.lt (Nat.le_of_eq g26.symm))
    have F26_cf := F24_cf.ext E26
    have lt_lq_b26 : lq < b26 := Nat.lt_of_lt_of_le A24.lt (Nat.le_of_eq g26.symm)
    have ne_lq_b26 : lq ≠ b26 := Nat.ne_of_lt (Nat.lt_of_lt_of_le A24.lt (Nat.le_of_eq g26.symm))
    have F26_lq := A24.ext E26
    have lt_dt_b26 : dt < b26 := Nat.lt_of_lt_of_le F24_dt.lt (Nat.le_of_eq g26.symm)
    have ne_dt_b26 : dt ≠ b26 := Nat.ne_of_lt (Nat.lt_of_lt_of_le F24_dt.lt (Nat.le_of_eq g26.symm))
    have F26_dt := F24_dt.ext E26
    have lt_b18_b26 : b18 < b26 := Nat.lt_of_lt_of_le F24_b18.lt (Nat.le_of_eq g26.symm)
    have ne_b18_b26 : b18 ≠ b26 := Nat.ne_of_lt (Nat.lt_of_lt_of_le F24_b18.lt (Nat.le_of_eq g26.symm))
    have F26_b18 := F24_b18.ext E26
    have lt_la19_b26 : la19 < b26 := Nat.lt_of_lt_of_le F24_la19.lt (Nat.le_of_eq g26.symm)
    have ne_la19_b26 : la19 ≠ b26 := Nat.ne_of_lt (Nat.lt_of_lt_of_le F24_la19.lt (Nat.le_of_eq g26.symm))
    have F26_la19 := F24_la19.ext E26
    have lt_ca19_b26 : ca19 < b26 := Nat.lt_of_lt_of_le F24_ca19.lt (Nat.le_of_eq g26.symm)
    have ne_ca19_b26 : ca19 ≠ b26 := Nat.ne_of_lt (Nat.lt_of_lt_of_le F24_ca19.lt (Nat.le_of_eq g26.symm))
    have F26_ca19 := F24_ca19.ext E26
    have lt_b22_b26 : b22 < b26 := Nat.lt_of_lt_of_le F24_b22.lt (Nat.le_of_eq g26.symm)
    have ne_b22_b26 : b22 ≠ b26 := Nat.ne_of_lt (Nat.lt_of_lt_of_le F24_b22.lt (Nat.le_of_eq g26.symm))
    have F26_b22 := F24_b22.ext E26
    have lt_la23_b26 : la23 < b26 := Nat.lt_of_lt_of_le F24_la23.lt (Nat.le_of_eq g26.symm)
    have ne_la23_b26 : la23 ≠ b26 := Nat.ne_of_lt (Nat.lt_of_lt_of_le F24_la23.lt (Nat.le_of_eq g26.symm))
    have F26_la23 := F24_la23.ext E26
    have lt_ca23_b26 : ca23 < b26 := Nat.lt_of_lt_of_le F24_ca23.lt (Nat.le_of_eq g26.symm)
    have ne_ca23_b26 : ca23 ≠ b26 := Nat.ne_of_lt (Nat.lt_of_lt_of_le F24_ca23.lt (Nat.le_of_eq g26.symm))
    have F26_ca23 := F24_ca23.ext E26
    have N26_b26 : RL Z h26 b26 (0) (0) (0) (.null) (.null) (0) (0) := ⟨A26, D26 (Or.inl (hw _ (List.mem_of_getElem? (i := 28) rfl))) (ty := .double) (by decide), D26 (Or.inl (hw _ (List.mem_of_getElem? (i := 30) rfl))) (ty := .double) (by decide), D26 (Or.inl (hw _ (List.mem_of_getElem? (i := 32) rfl))) (ty := .double) (by decide), D26 (Or.inl (hw _ (List.mem_of_getElem? (i := 35) rfl))) (ty := (.array .int)) (by decide), D26 (Or.inl (hw _ (List.mem_of_getElem? (i := 38) rfl))) (ty := (.array .long)) (by decide), D26 (Or.inl (hw _ (List.mem_of_getElem? (i := 40) rfl))) (ty := .int) (by decide), D26 (Or.inl (hw _ (List.mem_of_getElem? (i := 42) rfl))) (ty := .long) (by decide)⟩
    refine own_dup (n := 31) X26 hx (hb hby d3_30) rfl rfl ?_
    refine own_callN (n := 34) X26 hx hZ rfl hown (hw _ (List.mem_of_getElem? (i := 20) rfl)) (hw _ (List.mem_of_getElem? (i := 21) rfl)) (hw _ (List.mem_of_getElem? (i := 19) rfl)) (hw _ (List.mem_of_getElem? (i := 22) rfl)) (by decide) e26 (rm5 l Z a0 hw [] b26 h26 n0 Z26 N26_b26 nb_b26) (W := 3) (by decide) (by decide) (by decide) (by decide) (by rw [hml]; rfl) (argsL := []) (rest := [(.ref b26), (.int (((0 : Int32) + (1 : Int32)) + (1 : Int32))), (.ref lq)]) pd_5 rfl (a := b26) (by rfl) (Nat.le_of_eq rfl) (hb hby d3_31) rfl rfl ?_
    intro v27 T27 h27 L27 X27 e27 q27
    obtain ⟨rfl, M27, K27, la27, ca27, g27, gg27, F27, A27, AA27, bg27, bh27⟩ := q27
    have N27 := Fr.app N24 M27
    have lt_b26_la27 : b26 < la27 := Nat.lt_of_lt_of_le N26_b26.lt bg27
    have lt_b26_ca27 : b26 < ca27 := Nat.lt_of_lt_of_le N26_b26.lt bh27
    have Z27 : n0 ≤ h27.size := Nat.le_trans Z26 K27.1
    have OL27 := OL26.keep K27 (allS nb_b26 all0)
    have F27_b14 := F26_b14.keep K27 (ninS ne_b14_b26 nin0)
    have F27_la15 := F26_la15.keep K27 (ninS ne_la15_b26 nin0)
    have F27_ca15 := F26_ca15.keep K27 (ninS ne_ca15_b26 nin0)
    have F27_a1 := F26_a1.keep K27 (ninS ne_a1_b26 nin0)
    have F27_lf := F26_lf.keep K27 (ninS ne_lf_b26 nin0)
    have F27_fe := F26_fe.keep K27 (ninS ne_fe_b26 nin0)
    have F27_cf := F26_cf.keep K27 (ninS ne_cf_b26 nin0)
    have F27_lq := F26_lq.keep K27 (ninS ne_lq_b26 nin0)
    have F27_dt := F26_dt.keep K27 (ninS ne_dt_b26 nin0)
    have F27_b18 := F26_b18.keep K27 (ninS ne_b18_b26 nin0)
    have F27_la19 := F26_la19.keep K27 (ninS ne_la19_b26 nin0)
    have F27_ca19 := F26_ca19.keep K27 (ninS ne_ca19_b26 nin0)
    have F27_b22 := F26_b22.keep K27 (ninS ne_b22_b26 nin0)
    have F27_la23 := F26_la23.keep K27 (ninS ne_la23_b26 nin0)
    have F27_ca23 := F26_ca23.keep K27 (ninS ne_ca23_b26 nin0)
    refine own_aastore (n := 35) X27 hx hZ e27 F27_lq (Ins.of_exa F27.1 (hw _ (List.mem_of_getElem? (i := 65) rfl))) (i := 2) (by decide) (by decide) (hb hby d3_34) rfl ?_
    intro T28 h28 X28 e28 W28 A28
    have N28 := Fr.snoc X28 N27 (Nat.le_trans Z15 u4)
    have Z28 : n0 ≤ h28.size := Nat.le_trans Z27 (Keep.of_wr W28).1
    have OL28 := OL27.wr W28 (Nat.le_trans Z15 u4)
    have F28_b14 := F27_b14.wrO W28 (own_neOA F27_b14.1 (hw _ (List.mem_of_getElem? (i := 18) rfl)) F27_lq.va)
    have F28_la15 := F27_la15.wrO W28 (own_neAA F27_la15 F27_lq.va (by decide))
    have F28_ca15 := F27_ca15.wrO W28 (own_neAA F27_ca15 F27_lq.va (by decide))
    have F28_a1 := F27_a1.wrO W28 (own_neOA F27_a1.1 (hw _ (List.mem_of_getElem? (i := 9) rfl)) F27_lq.va)
    have F28_lf := F27_lf.wrO W28 (own_neAA F27_lf F27_lq.va (by decide))
    have F28_fe := F27_fe.wrO W28 (own_neAA F27_fe F27_lq.va (by decide))
    have F28_cf := F27_cf.wrO W28 (own_neAA F27_cf F27_lq.va (by decide))
    have F28_dt := F27_dt.wrO W28 (own_neAA F27_dt F27_lq.va (by decide))
    have F28_b18 := F27_b18.wrO W28 (Ne.symm ne_lq_b18)
    have F28_la19 := F27_la19.wrO W28 (own_neAA F27_la19 F27_lq.va (by decide))
    have F28_ca19 := F27_ca19.wrO W28 (own_neAA F27_ca19 F27_lq.va (by decide))
    have F28_b22 := F27_b22.wrO W28 (Ne.symm ne_lq_b22)
    have F28_la23 := F27_la23.wrO W28 (own_neAA F27_la23 F27_lq.va (by decide))
    have F28_ca23 := F27_ca23.wrO W28 (own_neAA F27_ca23 F27_lq.va (by decide))
    have F28_b26 := F27.wrO W28 (Ne.symm ne_lq_b26)
    have F28_la27 := A27.wrO W28 (own_neAA A27 F27_lq.va (by decide))
    have F28_ca27 := AA27.wrO W28 (own_neAA AA27 F27_lq.va (by decide))
    refine own_iinc (n := 38) X28 hx (hb hby d3_35) rfl (v := (1 : Int32)) rfl (l' := #[.val (.ref a1), .val (.int p2), .val (.int ((((0 : Int32) + (1 : Int32)) + (1 : Int32)) + (1 : Int32)))]) rfl rfl ?_
    refine own_goto (n := 17) X28 hx (hb hby d3_38) (by decide) (by decide) ?_
    refine own_iloadN (n := 18) X28 hx (hb hby d3_17) rfl rfl ?_
    refine own_iloadN (n := 19) X28 hx (hb hby d3_18) rfl rfl ?_
    refine own_icmpYes (n := 41) X28 hx (hb hby d3_19) (Jvm.Free.XT.ii_ge_t (by rw [Int32.lt_iff_toInt_lt, hp]; decide)) (by decide) (by decide) ?_
    refine own_retV X28 hx lk hret (hb hby d3_41) (by decide) (by decide) ?_
    rw [e28]
    have W0 : OWNS (OWN a1 lf fe cf dt lq b18 b22 b26) a1 lf fe cf lq dt := own_owns lx_a1 o1 o2 o3 o4
    have w_b14 : (OWN a1 lf fe cf dt lq b18 b22 b26) b14 = 50 := own_ow50 lt_a1_b14 lx_b14 o1 o2 o3 o4 lt_dt_b18
    have w_la15 : (OWN a1 lf fe cf dt lq b18 b22 b26) la15 = 50 := own_ow50 (Nat.lt_trans lt_a1_b14 lt_b14_la15) lx_la15 o1 o2 o3 o4 lt_dt_b18
    have w_ca15 : (OWN a1 lf fe cf dt lq b18 b22 b26) ca15 = 50 := own_ow50 (Nat.lt_trans lt_a1_b14 lt_b14_ca15) lx_ca15 o1 o2 o3 o4 lt_dt_b18
    have w_b18 : (OWN a1 lf fe cf dt lq b18 b22 b26) b18 = 0 := own_ow0 lx_a1 o1 o2 o3 o4 lt_dt_b18 (Nat.le_refl _) lt_b18_b22
    have w_la19 : (OWN a1 lf fe cf dt lq b18 b22 b26) la19 = 0 := own_ow0 lx_a1 o1 o2 o3 o4 lt_dt_b18 (Nat.le_of_lt lt_b18_la19) lt_la19_b22
    have w_ca19 : (OWN a1 lf fe cf dt lq b18 b22 b26) ca19 = 0 := own_ow0 lx_a1 o1 o2 o3 o4 lt_dt_b18 (Nat.le_of_lt lt_b18_ca19) lt_ca19_b22
    have w_b22 : (OWN a1 lf fe cf dt lq b18 b22 b26) b22 = 1 := own_ow1 lx_a1 o1 o2 o3 o4 lt_dt_b18 lt_b18_b22 (Nat.le_refl _) lt_b22_b26
    have w_la23 : (OWN a1 lf fe cf dt lq b18 b22 b26) la23 = 1 := own_ow1 lx_a1 o1 o2 o3 o4 lt_dt_b18 lt_b18_b22 (Nat.le_of_lt lt_b22_la23) lt_la23_b26
    have w_ca23 : (OWN a1 lf fe cf dt lq b18 b22 b26) ca23 = 1 := own_ow1 lx_a1 o1 o2 o3 o4 lt_dt_b18 lt_b18_b22 (Nat.le_of_lt lt_b22_ca23) lt_ca23_b26
    have w_b26 : (OWN a1 lf fe cf dt lq b18 b22 b26) b26 = 2 := own_ow2 lx_a1 o1 o2 o3 o4 lt_dt_b18 lt_b18_b22 lt_b22_b26 (Nat.le_refl _)
    have w_la27 : (OWN a1 lf fe cf dt lq b18 b22 b26) la27 = 2 := own_ow2 lx_a1 o1 o2 o3 o4 lt_dt_b18 lt_b18_b22 lt_b22_b26 (Nat.le_of_lt lt_b26_la27)
    have w_ca27 : (OWN a1 lf fe cf dt lq b18 b22 b26) ca27 = 2 := own_ow2 lx_a1 o1 o2 o3 o4 lt_dt_b18 lt_b18_b22 lt_b22_b26 (Nat.le_of_lt lt_b26_ca27)
    refine ⟨rfl, N28, OL28, (OWN a1 lf fe cf dt lq b18 b22 b26), lf, fe, cf, lq, b14, dt, (fun j => if j = 0 then b18 else if j = 1 then b22 else b26), _, F28_a1, F28_lf, F28_fe, F28_cf, RA.congr A28 (fun j hj => ?_), F28_dt, W0, ⟨nb, Nat.le_trans Z15 u1, Nat.le_trans Z15 u2, Nat.le_trans Z15 u3, Nat.le_trans Z15 u5⟩, fun j hj => ?_, ⟨1, Nat.le_refl _, la15, ca15, 1, _, _, _, _, _, _, F28_b14, F28_la15, F28_ca15, w_b14, w_la15, w_ca15, nb_b14, Nat.le_trans nb_b14 (Nat.le_of_lt lt_b14_la15), Nat.le_trans nb_b14 (Nat.le_of_lt lt_b14_ca15), Nat.le_refl _, Nat.le_refl _, by decide⟩⟩
    · rcases (show j = 0 ∨ j = 1 ∨ j = 2 by omega) with rfl | rfl | rfl <;> rfl
    · rcases (show j = 0 ∨ j = 1 ∨ j = 2 by omega) with rfl | rfl | rfl
      · exact ⟨1, Nat.le_refl _, la19, ca19, 1, _, _, _, _, _, _, F28_b18, F28_la19, F28_ca19, w_b18, w_la19, w_ca19, nb_b18, Nat.le_trans nb_b18 (Nat.le_of_lt lt_b18_la19), Nat.le_trans nb_b18 (Nat.le_of_lt lt_b18_ca19), Nat.le_refl _, Nat.le_refl _, by decide⟩
      · exact ⟨1, Nat.le_refl _, la23, ca23, 1, _, _, _, _, _, _, F28_b22, F28_la23, F28_ca23, w_b22, w_la23, w_ca23, nb_b22, Nat.le_trans nb_b22 (Nat.le_of_lt lt_b22_la23), Nat.le_trans nb_b22 (Nat.le_of_lt lt_b22_ca23), Nat.le_refl _, Nat.le_refl _, by decide⟩
      · exact ⟨1, Nat.le_refl _, la27, ca27, 1, _, _, _, _, _, _, F28_b26, F28_la27, F28_ca27, w_b26, w_la27, w_ca27, nb_b26, Nat.le_trans nb_b26 (Nat.le_of_lt lt_b26_la27), Nat.le_trans nb_b26 (Nat.le_of_lt lt_b26_ca27), Nat.le_refl _, Nat.le_refl _, by decide⟩
theorem own_mid {lo hi : Int32} {x y : Nat} (h1 : lo.toInt = (x : Int)) (h2 : hi.toInt = (y : Int) - 1) (hy : y ≤ 8) (hxy : x < y) : (((lo + hi).toUInt32 >>> ((1 : Int32) &&& 31).toUInt32).toInt32).toInt = (((x + y - 1) / 2 : Nat) : Int) := by
  have e1 : (lo + hi).toInt = (x : Int) + (y : Int) - 1 := by
    have := c_iadd lo hi
    have r := rng32 (lo + hi)
    omega
  rw [c_iushr (lo + hi) 1 1 (by decide) (by decide), e1]
  omega
theorem own_st6 {v0 v1 v2 v3 v4 v5 : Value} {o o2 : Slot} {v : Int32} (h : One o) (h2 : One o2) (q5 : v5.category = 1) : storeLocals #[.val v0, .val v1, .val v2, .val v3, .val v4, .val v5, o, o2] 6 (.int v) = some #[.val v0, .val v1, .val v2, .val v3, .val v4, .val v5, .val (.int v), o2] := by
  rcases h with rfl | ⟨w, rfl, hw⟩ <;> rcases h2 with rfl | ⟨w2, rfl, hw2⟩ <;> cases v5 <;> first | rfl | (simp [Value.category] at q5; done) | (cases w <;> first | rfl | (simp [Value.category] at hw; done))
theorem own_st7 {v0 v1 v2 v3 v4 v5 v6 : Value} {o : Slot} {v : Int32} (h : One o) (q6 : v6.category = 1) : storeLocals #[.val v0, .val v1, .val v2, .val v3, .val v4, .val v5, .val v6, o] 7 (.int v) = some #[.val v0, .val v1, .val v2, .val v3, .val v4, .val v5, .val v6, .val (.int v)] := by
  rcases h with rfl | ⟨w, rfl, hw⟩ <;> cases v6 <;> first | rfl | (simp [Value.category] at q6; done) | (cases w <;> first | rfl | (simp [Value.category] at hw; done))
theorem own_neg1 {lo : Int32} {x : Nat} (h : lo.toInt = (x : Int)) (hx : x < 100) : (-(lo + (1 : Int32))).toInt = -((x : Int) + 1) := by
  have a := own_add1 h (by omega)
  have q := c_ineg (lo + 1)
  have r := rng32 (-(lo + 1))
  omega
theorem own_unneg {r : Int32} {x : Nat} (h : r.toInt = -((x : Int) + 1)) (hx : x < 100) : (-r - (1 : Int32)).toInt = (x : Int) := by
  have q := c_ineg r
  have q2 := c_isub (-r) 1
  have r1 := rng32 (-r)
  have r2 := rng32 (-r - 1)
  have o : (1 : Int32).toInt = 1 := rfl
  omega
theorem own_subN {y : Int32} {d x : Nat} (h : y.toInt = (x : Int)) (hx : x ≤ d) (hd : d < 100) : (Nat.toInt32 d - y).toInt = ((d - x : Nat) : Int) := by
  have q := c_isub (Nat.toInt32 d) y
  have r := rng32 (Nat.toInt32 d - y)
  have l := len_toInt (n := d) (by omega)
  omega
theorem own_dbl {d : Nat} (hd : d < 100) : ((2 : Int32) * Nat.toInt32 d).toInt = ((2 * d : Nat) : Int) := by
  have q := c_imul 2 (Nat.toInt32 d)
  have r := rng32 ((2 : Int32) * Nat.toInt32 d)
  have l := len_toInt (n := d) (by omega)
  have o : (2 : Int32).toInt = 2 := rfl
  rw [o, l] at q
  omega
theorem own_succ {k : Nat} (h : k < 1000) : Nat.toInt32 k + 1 = Nat.toInt32 (k + 1) := own_inj (by rw [own_add1 (len_toInt (by omega)) (by omega), len_toInt (by omega)])
theorem own_kmono {h h' : Heap} {ws ws' : List Addr} (K : Keep h h' ws) (q : ∀ x ∈ ws, x ∈ ws') : Keep h h' ws' := ⟨K.1, fun x c e r => K.2.1 x c e (fun z => r (q x z)), K.2.2⟩
theorem d20_0 : decode jdk_65_method_59_code 0 = .ok (.iload_n 1, 1) := by decide +kernel
theorem d20_1 : decode jdk_65_method_59_code 1 = .ok (.istore 4, 2) := by decide +kernel
theorem d20_3 : decode jdk_65_method_59_code 3 = .ok (.iload_n 2, 1) := by decide +kernel
theorem d20_4 : decode jdk_65_method_59_code 4 = .ok (.iconst 1, 1) := by decide +kernel
theorem d20_5 : decode jdk_65_method_59_code 5 = .ok (.isub, 1) := by decide +kernel
theorem d20_6 : decode jdk_65_method_59_code 6 = .ok (.istore 5, 2) := by decide +kernel
theorem d20_8 : decode jdk_65_method_59_code 8 = .ok (.iload 4, 2) := by decide +kernel
theorem d20_10 : decode jdk_65_method_59_code 10 = .ok (.iload 5, 2) := by decide +kernel
theorem d20_12 : decode jdk_65_method_59_code 12 = .ok (.if_icmp .gt 54, 3) := by decide +kernel
theorem d20_15 : decode jdk_65_method_59_code 15 = .ok (.iload 4, 2) := by decide +kernel
theorem d20_17 : decode jdk_65_method_59_code 17 = .ok (.iload 5, 2) := by decide +kernel
theorem d20_19 : decode jdk_65_method_59_code 19 = .ok (.iadd, 1) := by decide +kernel
theorem d20_20 : decode jdk_65_method_59_code 20 = .ok (.iconst 1, 1) := by decide +kernel
theorem d20_21 : decode jdk_65_method_59_code 21 = .ok (.iushr, 1) := by decide +kernel
theorem d20_22 : decode jdk_65_method_59_code 22 = .ok (.istore 6, 2) := by decide +kernel
theorem d20_24 : decode jdk_65_method_59_code 24 = .ok (.aload_n 0, 1) := by decide +kernel
theorem d20_25 : decode jdk_65_method_59_code 25 = .ok (.iload 6, 2) := by decide +kernel
theorem d20_27 : decode jdk_65_method_59_code 27 = .ok (.iaload, 1) := by decide +kernel
theorem d20_28 : decode jdk_65_method_59_code 28 = .ok (.istore 7, 2) := by decide +kernel
theorem d20_30 : decode jdk_65_method_59_code 30 = .ok (.iload 7, 2) := by decide +kernel
theorem d20_32 : decode jdk_65_method_59_code 32 = .ok (.iload_n 3, 1) := by decide +kernel
theorem d20_33 : decode jdk_65_method_59_code 33 = .ok (.if_icmp .ge 12, 3) := by decide +kernel
theorem d20_36 : decode jdk_65_method_59_code 36 = .ok (.iload 6, 2) := by decide +kernel
theorem d20_38 : decode jdk_65_method_59_code 38 = .ok (.iconst 1, 1) := by decide +kernel
theorem d20_39 : decode jdk_65_method_59_code 39 = .ok (.iadd, 1) := by decide +kernel
theorem d20_40 : decode jdk_65_method_59_code 40 = .ok (.istore 4, 2) := by decide +kernel
theorem d20_42 : decode jdk_65_method_59_code 42 = .ok (.goto 21, 3) := by decide +kernel
theorem d20_45 : decode jdk_65_method_59_code 45 = .ok (.iload 7, 2) := by decide +kernel
theorem d20_47 : decode jdk_65_method_59_code 47 = .ok (.iload_n 3, 1) := by decide +kernel
theorem d20_48 : decode jdk_65_method_59_code 48 = .ok (.if_icmp .le 12, 3) := by decide +kernel
theorem d20_51 : decode jdk_65_method_59_code 51 = .ok (.iload 6, 2) := by decide +kernel
theorem d20_53 : decode jdk_65_method_59_code 53 = .ok (.iconst 1, 1) := by decide +kernel
theorem d20_54 : decode jdk_65_method_59_code 54 = .ok (.isub, 1) := by decide +kernel
theorem d20_55 : decode jdk_65_method_59_code 55 = .ok (.istore 5, 2) := by decide +kernel
theorem d20_57 : decode jdk_65_method_59_code 57 = .ok (.goto 6, 3) := by decide +kernel
theorem d20_60 : decode jdk_65_method_59_code 60 = .ok (.iload 6, 2) := by decide +kernel
theorem d20_62 : decode jdk_65_method_59_code 62 = .ok (.ireturn, 1) := by decide +kernel
theorem d20_63 : decode jdk_65_method_59_code 63 = .ok (.goto (-55), 3) := by decide +kernel
theorem d20_66 : decode jdk_65_method_59_code 66 = .ok (.iload 4, 2) := by decide +kernel
theorem d20_68 : decode jdk_65_method_59_code 68 = .ok (.iconst 1, 1) := by decide +kernel
theorem d20_69 : decode jdk_65_method_59_code 69 = .ok (.iadd, 1) := by decide +kernel
theorem d20_70 : decode jdk_65_method_59_code 70 = .ok (.ineg, 1) := by decide +kernel
theorem d20_71 : decode jdk_65_method_59_code 71 = .ok (.ireturn, 1) := by decide +kernel
theorem pn_20 : plainFor (⟨"java/util/Arrays", "binarySearch0", "([IIII)I"⟩ : MethodName) = true := by first | exact plainFor_of_name (by first | (simp [plainName, overriddenIn]; done) | decide +kernel) | decide +kernel
theorem ef_20 (m : MethodId) (a1 : Addr) (p2 : Int32) (p3 : Int32) (p4 : Int32) : entryFrame m #[(.ref a1), (.int p2), (.int p3), (.int p4)] 8 = mkF m 0 #[.val (.ref a1), .val (.int p2), .val (.int p3), .val (.int p4), .unset, .unset, .unset, .unset] [] := by first | (simp [entryFrame, argsToLocals, Value.category, Array.replicate]; done) | rfl
theorem pd_20 : parseMethodDescriptor "([IIII)I" = some ⟨[(.array .int), .int, .int, .int], some .int⟩ := by decide +kernel
def Q20 (Z : State) (a1 : Addr) (p2 : Int32) (p3 : Int32) (p4 : Int32) (n : Nat) (g : Nat → Int32) (d : Nat) (h0 : Heap) (n0 : Nat) (v : Option Value) (h : Heap) (L : List Loc) : Prop := ∃ r, v = some (.int r) ∧ ((∃ i, i < d ∧ r.toInt = (i : Int)) ∨ ∃ i, i ≤ d ∧ r.toInt = -((i : Int) + 1)) ∧ Fr n0 L ∧ h0 = h
theorem rm20 (l : Launch) (Z : State) (a0 : Array Value) (hw : ∀ d ∈ tables_1, d.before a0 Z = true) (ws : List Jvm.Cond) (a1 : Addr) (p2 : Int32) (p3 : Int32) (p4 : Int32) (n : Nat) (g : Nat → Int32) (d : Nat) (h0 : Heap) (n0 : Nat) (Z0 : n0 ≤ h0.size) (A : IA Z h0 a1 n g) (z2 : p2 = 0) (hp : p3.toInt = (d : Int)) (hdn : d ≤ n) (hn8 : n ≤ 8) :
    MetFree l (⟨"java/util/Arrays", "binarySearch0", "([IIII)I"⟩ : MethodName) (head1 (Jvm.Cond.code (⟨"java/util/Arrays", "binarySearch0", "([IIII)I"⟩ : MethodName) jdk_65_method_59_code 8 (some .int) :: ws) ({ frames := 0, cells := 0, slots := 0, locals := 0 } : Room)) (fun a U => a = #[(.ref a1), (.int p2), (.int p3), (.int p4)] ∧ Z.Warmed39 U.vm ∧ U.heap = h0) (fun _ _ _ _ _ => True) (fun _ U o U' => ∃ v L, o = .returned v ∧ (Q20 Z a1 p2 p3 p4 n g d h0 n0) v U'.heap L ∧ FrameEnd U o U' L ({ frames := 0, cells := 0, slots := 0, locals := 0 } : Room).cells ({ frames := 0, cells := 0, slots := 0, locals := 0 } : Room).slots) := by
  refine MetFree.of_bodySF pn_20 hisR ?_
  intro p e s m args below meth c s₁ Bd hml0 hP hK
  obtain ⟨rfl, hZ, hh⟩ := hP
  have hx := Bd.exec
  have hby := Bd.bytes
  have hml : c.maxLocals = 8 := hml0
  have hown : s.vm.findClass "java/util/Arrays" = some m.cls := findClass_of_methodNamed Bd.named
  have hnm := (name_of_methodNamed Bd.named Bd.method).1
  have X0 : Stand p l e ({ frames := 0, cells := 0, slots := 0, locals := 0 } : Room) s m #[(.ref a1), (.int p2), (.int p3), (.int p4)] below meth c s₁ [] 0 0 := Stand.of_body Bd
  have e0 : s₁.heap = h0 := by rw [← hh, Bd.state]; rfl
  have N0 := Fr.nil n0
  have lk : meth.locks = false := BodyLoose.notSynchronized Bd
  have hret := Bd.returns
  show Ends p e below (EF s ({ frames := 0, cells := 0, slots := 0, locals := 0 } : Room).cells ({ frames := 0, cells := 0, slots := 0, locals := 0 } : Room).slots) (Q20 Z a1 p2 p3 p4 n g d h0 n0) (s₁.setTop (entryFrame m #[(.ref a1), (.int p2), (.int p3), (.int p4)] 8))
  refine Ends.cast (ef_20 m a1 p2 p3 p4) ?_
  have loop : ∀ (mm : Nat) (TB : State) (hB : Heap) (lB : List Loc) (lo : Int32) (hi : Int32) (sx : Slot) (sy : Slot) (ux : Nat) (uy : Nat) (XB : Stand p l e ({ frames := 0, cells := 0, slots := 0, locals := 0 } : Room) s m #[(.ref a1), (.int p2), (.int p3), (.int p4)] below meth c TB lB (0) (0)) (eB : TB.heap = hB) (NB : Fr n0 lB) (ZB : n0 ≤ hB.size) (hlo : lo.toInt = (ux : Int)) (hhi : hi.toInt = (uy : Int) - 1) (hxy : ux ≤ uy) (hyd : uy ≤ d) (hmm : uy - ux = mm) (hsx : One sx) (hsy : One sy) (hb0 : h0 = hB), Ends p e below (EF s ({ frames := 0, cells := 0, slots := 0, locals := 0 } : Room).cells ({ frames := 0, cells := 0, slots := 0, locals := 0 } : Room).slots) (Q20 Z a1 p2 p3 p4 n g d h0 n0) (TB.setTop (mkF m 8 #[.val (.ref a1), .val (.int p2), .val (.int p3), .val (.int p4), .val (.int lo), .val (.int hi), sx, sy] [])) := by
    intro mm
    induction mm using Nat.strongRecOn with
    | ind mm ih =>
      intro TB hB lB lo hi sx sy ux uy XB eB NB ZB hlo hhi hxy hyd hmm hsx hsy hb0
      subst hb0
      refine own_iload (n := 10) XB hx (hb hby d20_8) rfl rfl ?_
      refine own_iload (n := 12) XB hx (hb hby d20_10) rfl rfl ?_
      by_cases c12 : hi < lo
      · refine own_icmpYes (n := 66) XB hx (hb hby d20_12) (Jvm.Free.XT.ii_gt_t c12) (by decide) (by decide) ?_
        refine own_iload (n := 68) XB hx (hb hby d20_66) rfl rfl ?_
        refine own_iconst (n := 69) XB hx (1 : Int32) (hb hby d20_68) rfl rfl ?_
        refine own_iadd (n := 70) XB hx (hb hby d20_69) rfl ?_
        refine own_ineg (n := 71) XB hx (hb hby d20_70) rfl ?_
        refine own_retI XB hx lk hret (hb hby d20_71) (by decide) (by decide) ?_
        rw [eB]
        exact ⟨_, rfl, Or.inr ⟨ux, by omega, own_neg1 hlo (by omega)⟩, NB, rfl⟩
      · refine own_icmpNo (n := 15) XB hx (hb hby d20_12) (Jvm.Free.XT.ii_gt_f c12) rfl ?_
        refine own_iload (n := 17) XB hx (hb hby d20_15) rfl rfl ?_
        refine own_iload (n := 19) XB hx (hb hby d20_17) rfl rfl ?_
        refine own_iadd (n := 20) XB hx (hb hby d20_19) rfl ?_
        refine own_iconst (n := 21) XB hx (1 : Int32) (hb hby d20_20) rfl rfl ?_
        refine own_iushr (n := 22) XB hx (hb hby d20_21) rfl ?_
        refine own_istore (n := 24) XB hx (hb hby d20_22) (l' := #[.val (.ref a1), .val (.int p2), .val (.int p3), .val (.int p4), .val (.int lo), .val (.int hi), .val (.int (((lo + hi).toUInt32 >>> ((1 : Int32) &&& 31).toUInt32).toInt32)), sy]) (own_st6 hsx hsy rfl) rfl ?_
        show Ends p e below (EF s ({ frames := 0, cells := 0, slots := 0, locals := 0 } : Room).cells ({ frames := 0, cells := 0, slots := 0, locals := 0 } : Room).slots) (Q20 Z a1 p2 p3 p4 n g d h0 n0) (TB.setTop (mkF m 24 #[.val (.ref a1), .val (.int p2), .val (.int p3), .val (.int p4), .val (.int lo), .val (.int hi), .val (.int (((lo + hi).toUInt32 >>> ((1 : Int32) &&& 31).toUInt32).toInt32)), sy] []))
        generalize g_md : (((lo + hi).toUInt32 >>> ((1 : Int32) &&& 31).toUInt32).toInt32) = md
        have hxl : ux < uy := by rw [Int32.lt_iff_toInt_lt] at c12; omega
        have hmd : md.toInt = ((((ux + uy - 1) / 2) : Nat) : Int) := by rw [← g_md]; exact own_mid hlo hhi (by omega) hxl
        refine own_aloadN (n := 25) XB hx (hb hby d20_24) rfl rfl rfl ?_
        refine own_iload (n := 27) XB hx (hb hby d20_25) rfl rfl ?_
        refine own_iaload (n := 28) XB hx hZ eB A (i := ((ux + uy - 1) / 2)) hmd (by omega) (hb hby d20_27) rfl ?_
        refine own_istore (n := 30) XB hx (hb hby d20_28) (l' := #[.val (.ref a1), .val (.int p2), .val (.int p3), .val (.int p4), .val (.int lo), .val (.int hi), .val (.int md), .val (.int (g ((ux + uy - 1) / 2)))]) (own_st7 hsy rfl) rfl ?_
        refine own_iload (n := 32) XB hx (hb hby d20_30) rfl rfl ?_
        refine own_iloadN (n := 33) XB hx (hb hby d20_32) rfl rfl ?_
        by_cases c33 : (g ((ux + uy - 1) / 2)) < p4
        · refine own_icmpNo (n := 36) XB hx (hb hby d20_33) (Jvm.Free.XT.ii_ge_f c33) rfl ?_
          refine own_iload (n := 38) XB hx (hb hby d20_36) rfl rfl ?_
          refine own_iconst (n := 39) XB hx (1 : Int32) (hb hby d20_38) rfl rfl ?_
          refine own_iadd (n := 40) XB hx (hb hby d20_39) rfl ?_
          refine own_istore (n := 42) XB hx (hb hby d20_40) (l' := #[.val (.ref a1), .val (.int p2), .val (.int p3), .val (.int p4), .val (.int (md + (1 : Int32))), .val (.int hi), .val (.int md), .val (.int (g ((ux + uy - 1) / 2)))]) rfl rfl ?_
          refine own_goto (n := 63) XB hx (hb hby d20_42) (by decide) (by decide) ?_
          refine own_goto (n := 8) XB hx (hb hby d20_63) (by decide) (by decide) ?_
          show Ends p e below (EF s ({ frames := 0, cells := 0, slots := 0, locals := 0 } : Room).cells ({ frames := 0, cells := 0, slots := 0, locals := 0 } : Room).slots) (Q20 Z a1 p2 p3 p4 n g d h0 n0) (TB.setTop (mkF m 8 #[.val (.ref a1), .val (.int p2), .val (.int p3), .val (.int p4), .val (.int (md + (1 : Int32))), .val (.int hi), .val (.int md), .val (.int (g ((ux + uy - 1) / 2)))] []))
          exact ih (uy - (((ux + uy - 1) / 2) + 1)) (by omega) _ _ _ _ _ _ _ (((ux + uy - 1) / 2) + 1) uy XB eB NB ZB (own_add1 hmd (by omega)) hhi (by omega) hyd rfl (One.val rfl) (One.val rfl) rfl
        · refine own_icmpYes (n := 45) XB hx (hb hby d20_33) (Jvm.Free.XT.ii_ge_t c33) (by decide) (by decide) ?_
          refine own_iload (n := 47) XB hx (hb hby d20_45) rfl rfl ?_
          refine own_iloadN (n := 48) XB hx (hb hby d20_47) rfl rfl ?_
          by_cases c48 : p4 < (g ((ux + uy - 1) / 2))
          · refine own_icmpNo (n := 51) XB hx (hb hby d20_48) (Jvm.Free.XT.ii_le_f c48) rfl ?_
            refine own_iload (n := 53) XB hx (hb hby d20_51) rfl rfl ?_
            refine own_iconst (n := 54) XB hx (1 : Int32) (hb hby d20_53) rfl rfl ?_
            refine own_isub (n := 55) XB hx (hb hby d20_54) rfl ?_
            refine own_istore (n := 57) XB hx (hb hby d20_55) (l' := #[.val (.ref a1), .val (.int p2), .val (.int p3), .val (.int p4), .val (.int lo), .val (.int (md - (1 : Int32))), .val (.int md), .val (.int (g ((ux + uy - 1) / 2)))]) rfl rfl ?_
            refine own_goto (n := 63) XB hx (hb hby d20_57) (by decide) (by decide) ?_
            refine own_goto (n := 8) XB hx (hb hby d20_63) (by decide) (by decide) ?_
            show Ends p e below (EF s ({ frames := 0, cells := 0, slots := 0, locals := 0 } : Room).cells ({ frames := 0, cells := 0, slots := 0, locals := 0 } : Room).slots) (Q20 Z a1 p2 p3 p4 n g d h0 n0) (TB.setTop (mkF m 8 #[.val (.ref a1), .val (.int p2), .val (.int p3), .val (.int p4), .val (.int lo), .val (.int (md - (1 : Int32))), .val (.int md), .val (.int (g ((ux + uy - 1) / 2)))] []))
            exact ih (((ux + uy - 1) / 2) - ux) (by omega) _ _ _ _ _ _ _ ux ((ux + uy - 1) / 2) XB eB NB ZB hlo (by have q := c_isub md 1; have r := rng32 (md - 1); have o : (1 : Int32).toInt = 1 := rfl; omega) (by omega) (by omega) rfl (One.val rfl) (One.val rfl) rfl
          · refine own_icmpYes (n := 60) XB hx (hb hby d20_48) (Jvm.Free.XT.ii_le_t c48) (by decide) (by decide) ?_
            refine own_iload (n := 62) XB hx (hb hby d20_60) rfl rfl ?_
            refine own_retI XB hx lk hret (hb hby d20_62) (by decide) (by decide) ?_
            rw [eB]
            exact ⟨_, rfl, Or.inl ⟨((ux + uy - 1) / 2), by omega, hmd⟩, NB, rfl⟩
  refine own_iloadN (n := 1) X0 hx (hb hby d20_0) rfl rfl ?_
  refine own_istore (n := 3) X0 hx (hb hby d20_1) (l' := #[.val (.ref a1), .val (.int p2), .val (.int p3), .val (.int p4), .val (.int p2), .unset, .unset, .unset]) rfl rfl ?_
  refine own_iloadN (n := 4) X0 hx (hb hby d20_3) rfl rfl ?_
  refine own_iconst (n := 5) X0 hx (1 : Int32) (hb hby d20_4) rfl rfl ?_
  refine own_isub (n := 6) X0 hx (hb hby d20_5) rfl ?_
  refine own_istore (n := 8) X0 hx (hb hby d20_6) (l' := #[.val (.ref a1), .val (.int p2), .val (.int p3), .val (.int p4), .val (.int p2), .val (.int (p3 - (1 : Int32))), .unset, .unset]) rfl rfl ?_
  show Ends p e below (EF s ({ frames := 0, cells := 0, slots := 0, locals := 0 } : Room).cells ({ frames := 0, cells := 0, slots := 0, locals := 0 } : Room).slots) (Q20 Z a1 p2 p3 p4 n g d h0 n0) (s₁.setTop (mkF m 8 #[.val (.ref a1), .val (.int p2), .val (.int p3), .val (.int p4), .val (.int p2), .val (.int (p3 - (1 : Int32))), .unset, .unset] []))
  exact loop d _ _ _ _ _ _ _ 0 d X0 e0 N0 Z0 (by rw [z2]; rfl) (by have q := c_isub p3 1; have r := rng32 (p3 - 1); have o : (1 : Int32).toInt = 1 := rfl; omega) (Nat.zero_le _) (Nat.le_refl _) (Nat.sub_zero _) (Or.inl rfl) (Or.inl rfl) rfl
theorem d18_0 : decode jdk_65_method_58_code 0 = .ok (.aload_n 0, 1) := by decide +kernel
theorem d18_1 : decode jdk_65_method_58_code 1 = .ok (.arraylength, 1) := by decide +kernel
theorem d18_2 : decode jdk_65_method_58_code 2 = .ok (.iload_n 1, 1) := by decide +kernel
theorem d18_3 : decode jdk_65_method_58_code 3 = .ok (.iload_n 2, 1) := by decide +kernel
theorem d18_4 : decode jdk_65_method_58_code 4 = .ok (.invokestatic 13, 3) := by decide +kernel
theorem d18_7 : decode jdk_65_method_58_code 7 = .ok (.aload_n 0, 1) := by decide +kernel
theorem d18_8 : decode jdk_65_method_58_code 8 = .ok (.iload_n 1, 1) := by decide +kernel
theorem d18_9 : decode jdk_65_method_58_code 9 = .ok (.iload_n 2, 1) := by decide +kernel
theorem d18_10 : decode jdk_65_method_58_code 10 = .ok (.iload_n 3, 1) := by decide +kernel
theorem d18_11 : decode jdk_65_method_58_code 11 = .ok (.invokestatic 209, 3) := by decide +kernel
theorem d18_14 : decode jdk_65_method_58_code 14 = .ok (.ireturn, 1) := by decide +kernel
theorem pn_18 : plainFor (⟨"java/util/Arrays", "binarySearch", "([IIII)I"⟩ : MethodName) = true := by first | exact plainFor_of_name (by first | (simp [plainName, overriddenIn]; done) | decide +kernel) | decide +kernel
theorem ef_18 (m : MethodId) (a1 : Addr) (p2 : Int32) (p3 : Int32) (p4 : Int32) : entryFrame m #[(.ref a1), (.int p2), (.int p3), (.int p4)] 4 = mkF m 0 #[.val (.ref a1), .val (.int p2), .val (.int p3), .val (.int p4)] [] := by first | (simp [entryFrame, argsToLocals, Value.category, Array.replicate]; done) | rfl
theorem pd_18 : parseMethodDescriptor "([IIII)I" = some ⟨[(.array .int), .int, .int, .int], some .int⟩ := by decide +kernel
def Q18 (Z : State) (a1 : Addr) (p2 : Int32) (p3 : Int32) (p4 : Int32) (n : Nat) (g : Nat → Int32) (d : Nat) (h0 : Heap) (n0 : Nat) (v : Option Value) (h : Heap) (L : List Loc) : Prop := ∃ r, v = some (.int r) ∧ ((∃ i, i < d ∧ r.toInt = (i : Int)) ∨ ∃ i, i ≤ d ∧ r.toInt = -((i : Int) + 1)) ∧ Fr n0 L ∧ h0 = h
theorem rm18 (l : Launch) (Z : State) (a0 : Array Value) (hw : ∀ d ∈ tables_1, d.before a0 Z = true) (ws : List Jvm.Cond) (a1 : Addr) (p2 : Int32) (p3 : Int32) (p4 : Int32) (n : Nat) (g : Nat → Int32) (d : Nat) (h0 : Heap) (n0 : Nat) (Z0 : n0 ≤ h0.size) (A : IA Z h0 a1 n g) (z2 : p2 = 0) (hp : p3.toInt = (d : Int)) (hdn : d ≤ n) (hn8 : n ≤ 8) :
    MetFree l (⟨"java/util/Arrays", "binarySearch", "([IIII)I"⟩ : MethodName) (head1 (Jvm.Cond.code (⟨"java/util/Arrays", "binarySearch", "([IIII)I"⟩ : MethodName) jdk_65_method_58_code 4 (some .int) :: ws) ({ frames := 1, cells := 0, slots := 0, locals := 19 } : Room)) (fun a U => a = #[(.ref a1), (.int p2), (.int p3), (.int p4)] ∧ Z.Warmed39 U.vm ∧ U.heap = h0) (fun _ _ _ _ _ => True) (fun _ U o U' => ∃ v L, o = .returned v ∧ (Q18 Z a1 p2 p3 p4 n g d h0 n0) v U'.heap L ∧ FrameEnd U o U' L ({ frames := 1, cells := 0, slots := 0, locals := 19 } : Room).cells ({ frames := 1, cells := 0, slots := 0, locals := 19 } : Room).slots) := by
  refine MetFree.of_bodySF pn_18 hisR ?_
  intro p e s m args below meth c s₁ Bd hml0 hP hK
  obtain ⟨rfl, hZ, hh⟩ := hP
  have hx := Bd.exec
  have hby := Bd.bytes
  have hml : c.maxLocals = 4 := hml0
  have hown : s.vm.findClass "java/util/Arrays" = some m.cls := findClass_of_methodNamed Bd.named
  have hnm := (name_of_methodNamed Bd.named Bd.method).1
  have X0 : Stand p l e ({ frames := 1, cells := 0, slots := 0, locals := 19 } : Room) s m #[(.ref a1), (.int p2), (.int p3), (.int p4)] below meth c s₁ [] 0 0 := Stand.of_body Bd
  have e0 : s₁.heap = h0 := by rw [← hh, Bd.state]; rfl
  have N0 := Fr.nil n0
  have lk : meth.locks = false := BodyLoose.notSynchronized Bd
  have hret := Bd.returns
  show Ends p e below (EF s ({ frames := 1, cells := 0, slots := 0, locals := 19 } : Room).cells ({ frames := 1, cells := 0, slots := 0, locals := 19 } : Room).slots) (Q18 Z a1 p2 p3 p4 n g d h0 n0) (s₁.setTop (entryFrame m #[(.ref a1), (.int p2), (.int p3), (.int p4)] 4))
  refine Ends.cast (ef_18 m a1 p2 p3 p4) ?_
  refine own_aloadN (n := 1) X0 hx (hb hby d18_0) rfl rfl rfl ?_
  refine own_arraylength (n := 2) X0 hx hZ e0 A (v := (Nat.toInt32 n)) (len_toInt (by omega)) (hb hby d18_1) rfl ?_
  refine own_iloadN (n := 3) X0 hx (hb hby d18_2) rfl rfl ?_
  refine own_iloadN (n := 4) X0 hx (hb hby d18_3) rfl rfl ?_
  refine own_callS (n := 7) X0 hx hZ hown (hw _ (List.mem_of_getElem? (i := 119) rfl)) (hw _ (List.mem_of_getElem? (i := 120) rfl)) (hw _ (List.mem_of_getElem? (i := 51) rfl)) (hw _ (List.mem_of_getElem? (i := 121) rfl)) (by decide) e0 (rm19 l Z a0 hw [] (Nat.toInt32 n) p2 p3 h0 n0 Z0 (by rw [Int32.lt_iff_toInt_lt, z2]; have o : (0 : Int32).toInt = 0 := rfl; omega) (by rw [z2]; decide) (by rw [Int32.lt_iff_toInt_lt, len_toInt (by omega)]; omega)) (W := 0) (by decide) (by decide) (by decide) (by decide) (by rw [hml]; rfl) (argsL := [(.int (Nat.toInt32 n)), (.int p2), (.int p3)]) (rest := []) pd_19 rfl (by rfl) (Nat.le_of_eq rfl) (hb hby d18_4) rfl rfl ?_
  intro v1 T1 h1 L1 X1 e1 q1
  obtain ⟨rfl, M1, rfl⟩ := q1
  have N1 := Fr.app N0 M1
  refine own_aloadN (n := 8) X1 hx (hb hby d18_7) rfl rfl rfl ?_
  refine own_iloadN (n := 9) X1 hx (hb hby d18_8) rfl rfl ?_
  refine own_iloadN (n := 10) X1 hx (hb hby d18_9) rfl rfl ?_
  refine own_iloadN (n := 11) X1 hx (hb hby d18_10) rfl rfl ?_
  refine own_callS (n := 14) X1 hx hZ hown (hw _ (List.mem_of_getElem? (i := 122) rfl)) (hw _ (List.mem_of_getElem? (i := 123) rfl)) (hw _ (List.mem_of_getElem? (i := 51) rfl)) (hw _ (List.mem_of_getElem? (i := 124) rfl)) (by decide) e1 (rm20 l Z a0 hw [] a1 p2 p3 p4 n g d h0 n0 Z0 A z2 hp hdn hn8) (W := 0) (by decide) (by decide) (by decide) (by decide) (by rw [hml]; rfl) (argsL := [(.ref a1), (.int p2), (.int p3), (.int p4)]) (rest := []) pd_20 rfl (by rfl) (Nat.le_of_eq rfl) (hb hby d18_11) rfl rfl ?_
  intro v2 T2 h2 L2 X2 e2 q2
  obtain ⟨r2, rfl, D2, M2, rfl⟩ := q2
  have N2 := Fr.app N1 M2
  refine own_retI X2 hx lk hret (hb hby d18_14) (by decide) (by decide) ?_
  rw [e2]
  exact ⟨_, rfl, D2, N2, rfl⟩
theorem d21_0 : decode jdk_65_method_123_code 0 = .ok (.iload_n 1, 1) := by decide +kernel
theorem d21_1 : decode jdk_65_method_123_code 1 = .ok (.aload_n 0, 1) := by decide +kernel
theorem d21_2 : decode jdk_65_method_123_code 2 = .ok (.arraylength, 1) := by decide +kernel
theorem d21_3 : decode jdk_65_method_123_code 3 = .ok (.if_icmp .ne 11, 3) := by decide +kernel
theorem d21_6 : decode jdk_65_method_123_code 6 = .ok (.aload_n 0, 1) := by decide +kernel
theorem d21_7 : decode jdk_65_method_123_code 7 = .ok (.invokevirtual 316, 3) := by decide +kernel
theorem d21_10 : decode jdk_65_method_123_code 10 = .ok (.checkcast 317, 3) := by decide +kernel
theorem d21_13 : decode jdk_65_method_123_code 13 = .ok (.areturn, 1) := by decide +kernel
theorem d21_14 : decode jdk_65_method_123_code 14 = .ok (.iload_n 1, 1) := by decide +kernel
theorem d21_15 : decode jdk_65_method_123_code 15 = .ok (.newarray .int, 2) := by decide +kernel
theorem d21_17 : decode jdk_65_method_123_code 17 = .ok (.astore_n 2, 1) := by decide +kernel
theorem d21_18 : decode jdk_65_method_123_code 18 = .ok (.aload_n 0, 1) := by decide +kernel
theorem d21_19 : decode jdk_65_method_123_code 19 = .ok (.iconst 0, 1) := by decide +kernel
theorem d21_20 : decode jdk_65_method_123_code 20 = .ok (.aload_n 2, 1) := by decide +kernel
theorem d21_21 : decode jdk_65_method_123_code 21 = .ok (.iconst 0, 1) := by decide +kernel
theorem d21_22 : decode jdk_65_method_123_code 22 = .ok (.aload_n 0, 1) := by decide +kernel
theorem d21_23 : decode jdk_65_method_123_code 23 = .ok (.arraylength, 1) := by decide +kernel
theorem d21_24 : decode jdk_65_method_123_code 24 = .ok (.iload_n 1, 1) := by decide +kernel
theorem d21_25 : decode jdk_65_method_123_code 25 = .ok (.invokestatic 304, 3) := by decide +kernel
theorem d21_28 : decode jdk_65_method_123_code 28 = .ok (.invokestatic 150, 3) := by decide +kernel
theorem d21_31 : decode jdk_65_method_123_code 31 = .ok (.aload_n 2, 1) := by decide +kernel
theorem d21_32 : decode jdk_65_method_123_code 32 = .ok (.areturn, 1) := by decide +kernel
theorem pn_21 : plainFor (⟨"java/util/Arrays", "copyOf", "([II)[I"⟩ : MethodName) = true := by first | exact plainFor_of_name (by first | (simp [plainName, overriddenIn]; done) | decide +kernel) | decide +kernel
theorem ef_21 (m : MethodId) (a1 : Addr) (p2 : Int32) : entryFrame m #[(.ref a1), (.int p2)] 3 = mkF m 0 #[.val (.ref a1), .val (.int p2), .unset] [] := by first | (simp [entryFrame, argsToLocals, Value.category, Array.replicate]; done) | rfl
theorem pd_21 : parseMethodDescriptor "([II)[I" = some ⟨[(.array .int), .int], some (.array .int)⟩ := by decide +kernel
def Q21 (Z : State) (a1 : Addr) (p2 : Int32) (n : Nat) (g : Nat → Int32) (k : Nat) (h0 : Heap) (n0 : Nat) (v : Option Value) (h : Heap) (L : List Loc) : Prop := ∃ a g', v = some (.ref a) ∧ Fr n0 L ∧ Keep h0 h [] ∧ IA Z h a k g' ∧ h0.size ≤ a
theorem rm21 (l : Launch) (Z : State) (a0 : Array Value) (hw : ∀ d ∈ tables_1, d.before a0 Z = true) (ws : List Jvm.Cond) (a1 : Addr) (p2 : Int32) (n : Nat) (g : Nat → Int32) (k : Nat) (h0 : Heap) (n0 : Nat) (Z0 : n0 ≤ h0.size) (A : IA Z h0 a1 n g) (hp : p2.toInt = (k : Int)) (hnk : n < k) (hk8 : k ≤ 8) :
    MetFree l (⟨"java/util/Arrays", "copyOf", "([II)[I"⟩ : MethodName) (head1 (Jvm.Cond.code (⟨"java/util/Arrays", "copyOf", "([II)[I"⟩ : MethodName) jdk_65_method_123_code 3 (some (.array .int)) :: ws) ({ frames := 1, cells := 1, slots := 8, locals := 60 } : Room)) (fun a U => a = #[(.ref a1), (.int p2)] ∧ Z.Warmed39 U.vm ∧ U.heap = h0) (fun _ _ _ _ _ => True) (fun _ U o U' => ∃ v L, o = .returned v ∧ (Q21 Z a1 p2 n g k h0 n0) v U'.heap L ∧ FrameEnd U o U' L ({ frames := 1, cells := 1, slots := 8, locals := 60 } : Room).cells ({ frames := 1, cells := 1, slots := 8, locals := 60 } : Room).slots) := by
  refine MetFree.of_bodySF pn_21 hisR ?_
  intro p e s m args below meth c s₁ Bd hml0 hP hK
  obtain ⟨rfl, hZ, hh⟩ := hP
  have hx := Bd.exec
  have hby := Bd.bytes
  have hml : c.maxLocals = 3 := hml0
  have hown : s.vm.findClass "java/util/Arrays" = some m.cls := findClass_of_methodNamed Bd.named
  have hnm := (name_of_methodNamed Bd.named Bd.method).1
  have X0 : Stand p l e ({ frames := 1, cells := 1, slots := 8, locals := 60 } : Room) s m #[(.ref a1), (.int p2)] below meth c s₁ [] 0 0 := Stand.of_body Bd
  have e0 : s₁.heap = h0 := by rw [← hh, Bd.state]; rfl
  have N0 := Fr.nil n0
  have lk : meth.locks = false := BodyLoose.notSynchronized Bd
  have hret := Bd.returns
  show Ends p e below (EF s ({ frames := 1, cells := 1, slots := 8, locals := 60 } : Room).cells ({ frames := 1, cells := 1, slots := 8, locals := 60 } : Room).slots) (Q21 Z a1 p2 n g k h0 n0) (s₁.setTop (entryFrame m #[(.ref a1), (.int p2)] 3))
  refine Ends.cast (ef_21 m a1 p2) ?_
  refine own_iloadN (n := 1) X0 hx (hb hby d21_0) rfl rfl ?_
  refine own_aloadN (n := 2) X0 hx (hb hby d21_1) rfl rfl rfl ?_
  refine own_arraylength (n := 3) X0 hx hZ e0 A (v := (Nat.toInt32 n)) (len_toInt (by omega)) (hb hby d21_2) rfl ?_
  refine own_icmpYes (n := 14) X0 hx (hb hby d21_3) (Jvm.Free.XT.ii_ne_t (fun z => by rw [z, len_toInt (by omega)] at hp; omega)) (by decide) (by decide) ?_
  refine own_iloadN (n := 15) X0 hx (hb hby d21_14) rfl rfl ?_
  refine own_newI (n := 17) X0 hx hZ (hw _ (List.mem_of_getElem? (i := 33) rfl)) e0 (i := k) (cap := 8) hp hk8 (by decide) (by decide) (by decide) (hb hby d21_15) rfl ?_
  intro T1 h1 b1 X1 e1 g1 E1 A1
  have Z1 : n0 ≤ h1.size := Nat.le_trans Z0 E1.1
  have nb_b1 : n0 ≤ b1 := Nat.le_trans Z0 (Nat.le_of_eq g1.symm)
  have ne_a1_b1 : a1 ≠ b1 := Nat.ne_of_lt (Nat.lt_of_lt_of_le A.lt (Nat.le_of_eq g1.symm))
  have F1_a1 := A.ext E1
  have K1 : Keep _ h1 [] := (Keep.refl h0 []).ext E1
  have big_b1 : _ ≤ b1 := Nat.le_trans (Keep.refl h0 []).1 (Nat.le_of_eq g1.symm)
  refine own_astoreN (n := 18) X1 hx (hb hby d21_17) rfl (l' := #[.val (.ref a1), .val (.int p2), .val (.ref b1)]) rfl rfl ?_
  refine own_aloadN (n := 19) X1 hx (hb hby d21_18) rfl rfl rfl ?_
  refine own_iconst (n := 20) X1 hx (0 : Int32) (hb hby d21_19) rfl rfl ?_
  refine own_aloadN (n := 21) X1 hx (hb hby d21_20) rfl rfl rfl ?_
  refine own_iconst (n := 22) X1 hx (0 : Int32) (hb hby d21_21) rfl rfl ?_
  refine own_aloadN (n := 23) X1 hx (hb hby d21_22) rfl rfl rfl ?_
  refine own_arraylength (n := 24) X1 hx hZ e1 F1_a1 (v := (Nat.toInt32 n)) (len_toInt (by omega)) (hb hby d21_23) rfl ?_
  refine own_iloadN (n := 25) X1 hx (hb hby d21_24) rfl rfl ?_
  refine own_callS (n := 28) X1 hx hZ hown (hw _ (List.mem_of_getElem? (i := 128) rfl)) (hw _ (List.mem_of_getElem? (i := 129) rfl)) (hw _ (List.mem_of_getElem? (i := 130) rfl)) (hw _ (List.mem_of_getElem? (i := 131) rfl)) (by decide) e1 (rm22 l Z a0 hw [] (Nat.toInt32 n) p2 h1 n0 Z1 ) (W := 4) (by decide) (by decide) (by decide) (by decide) (by rw [hml]; rfl) (argsL := [(.int (Nat.toInt32 n)), (.int p2)]) (rest := [(.int (0 : Int32)), (.ref b1), (.int (0 : Int32)), (.ref a1)]) pd_22 rfl (by rfl) (Nat.le_of_eq rfl) (hb hby d21_25) rfl rfl ?_
  intro v2 T2 h2 L2 X2 e2 q2
  obtain ⟨rfl, M2, rfl⟩ := q2
  have N2 := Fr.app N0 M2
  refine own_cpI (n := 31) X2 hx hZ hown (hw _ (List.mem_of_getElem? (i := 132) rfl)) (hw _ (List.mem_of_getElem? (i := 135) rfl)) (hw _ (List.mem_of_getElem? (i := 133) rfl)) (hw _ (List.mem_of_getElem? (i := 134) rfl)) e2 F1_a1 A1 (sn := 0) (dn := 0) (nn := n) rfl rfl (by rw [if_neg (by rw [Int32.lt_iff_toInt_lt, len_toInt (by omega)]; omega)]; exact len_toInt (by omega)) (by omega) (by omega) N2 nb_b1 (by rw [hml]; rfl) (hb hby d21_28) rfl (by decide) (W := 0) (Nat.le_of_eq rfl) (by decide) ?_
  intro T3 h3 L3 gq3 X3 e3 N3 K3 A3
  have Z3 : n0 ≤ h3.size := Nat.le_trans Z1 K3.1
  have F3_a1 := F1_a1.keep K3 (ninS ne_a1_b1 nin0)
  have KK3 := K1.trans K3 (fun z hz => by cases List.mem_singleton.mp hz; exact Or.inr big_b1)
  refine own_aloadN (n := 32) X3 hx (hb hby d21_31) rfl rfl rfl ?_
  refine own_retA X3 hx lk hret rfl rfl (hb hby d21_32) (by decide) (by decide) ?_
  rw [e3]
  exact ⟨_, _, rfl, N3, KK3, A3, big_b1⟩
theorem d23_0 : decode jdk_65_method_124_code 0 = .ok (.iload_n 1, 1) := by decide +kernel
theorem d23_1 : decode jdk_65_method_124_code 1 = .ok (.aload_n 0, 1) := by decide +kernel
theorem d23_2 : decode jdk_65_method_124_code 2 = .ok (.arraylength, 1) := by decide +kernel
theorem d23_3 : decode jdk_65_method_124_code 3 = .ok (.if_icmp .ne 11, 3) := by decide +kernel
theorem d23_6 : decode jdk_65_method_124_code 6 = .ok (.aload_n 0, 1) := by decide +kernel
theorem d23_7 : decode jdk_65_method_124_code 7 = .ok (.invokevirtual 319, 3) := by decide +kernel
theorem d23_10 : decode jdk_65_method_124_code 10 = .ok (.checkcast 320, 3) := by decide +kernel
theorem d23_13 : decode jdk_65_method_124_code 13 = .ok (.areturn, 1) := by decide +kernel
theorem d23_14 : decode jdk_65_method_124_code 14 = .ok (.iload_n 1, 1) := by decide +kernel
theorem d23_15 : decode jdk_65_method_124_code 15 = .ok (.newarray .long, 2) := by decide +kernel
theorem d23_17 : decode jdk_65_method_124_code 17 = .ok (.astore_n 2, 1) := by decide +kernel
theorem d23_18 : decode jdk_65_method_124_code 18 = .ok (.aload_n 0, 1) := by decide +kernel
theorem d23_19 : decode jdk_65_method_124_code 19 = .ok (.iconst 0, 1) := by decide +kernel
theorem d23_20 : decode jdk_65_method_124_code 20 = .ok (.aload_n 2, 1) := by decide +kernel
theorem d23_21 : decode jdk_65_method_124_code 21 = .ok (.iconst 0, 1) := by decide +kernel
theorem d23_22 : decode jdk_65_method_124_code 22 = .ok (.aload_n 0, 1) := by decide +kernel
theorem d23_23 : decode jdk_65_method_124_code 23 = .ok (.arraylength, 1) := by decide +kernel
theorem d23_24 : decode jdk_65_method_124_code 24 = .ok (.iload_n 1, 1) := by decide +kernel
theorem d23_25 : decode jdk_65_method_124_code 25 = .ok (.invokestatic 304, 3) := by decide +kernel
theorem d23_28 : decode jdk_65_method_124_code 28 = .ok (.invokestatic 150, 3) := by decide +kernel
theorem d23_31 : decode jdk_65_method_124_code 31 = .ok (.aload_n 2, 1) := by decide +kernel
theorem d23_32 : decode jdk_65_method_124_code 32 = .ok (.areturn, 1) := by decide +kernel
theorem pn_23 : plainFor (⟨"java/util/Arrays", "copyOf", "([JI)[J"⟩ : MethodName) = true := by first | exact plainFor_of_name (by first | (simp [plainName, overriddenIn]; done) | decide +kernel) | decide +kernel
theorem ef_23 (m : MethodId) (a1 : Addr) (p2 : Int32) : entryFrame m #[(.ref a1), (.int p2)] 3 = mkF m 0 #[.val (.ref a1), .val (.int p2), .unset] [] := by first | (simp [entryFrame, argsToLocals, Value.category, Array.replicate]; done) | rfl
theorem pd_23 : parseMethodDescriptor "([JI)[J" = some ⟨[(.array .long), .int], some (.array .long)⟩ := by decide +kernel
def Q23 (Z : State) (a1 : Addr) (p2 : Int32) (n : Nat) (g : Nat → Int64) (k : Nat) (h0 : Heap) (n0 : Nat) (v : Option Value) (h : Heap) (L : List Loc) : Prop := ∃ a g', v = some (.ref a) ∧ Fr n0 L ∧ Keep h0 h [] ∧ JA Z h a k g' ∧ h0.size ≤ a
theorem rm23 (l : Launch) (Z : State) (a0 : Array Value) (hw : ∀ d ∈ tables_1, d.before a0 Z = true) (ws : List Jvm.Cond) (a1 : Addr) (p2 : Int32) (n : Nat) (g : Nat → Int64) (k : Nat) (h0 : Heap) (n0 : Nat) (Z0 : n0 ≤ h0.size) (A : JA Z h0 a1 n g) (hp : p2.toInt = (k : Int)) (hnk : n < k) (hk8 : k ≤ 8) :
    MetFree l (⟨"java/util/Arrays", "copyOf", "([JI)[J"⟩ : MethodName) (head1 (Jvm.Cond.code (⟨"java/util/Arrays", "copyOf", "([JI)[J"⟩ : MethodName) jdk_65_method_124_code 3 (some (.array .long)) :: ws) ({ frames := 1, cells := 1, slots := 8, locals := 60 } : Room)) (fun a U => a = #[(.ref a1), (.int p2)] ∧ Z.Warmed39 U.vm ∧ U.heap = h0) (fun _ _ _ _ _ => True) (fun _ U o U' => ∃ v L, o = .returned v ∧ (Q23 Z a1 p2 n g k h0 n0) v U'.heap L ∧ FrameEnd U o U' L ({ frames := 1, cells := 1, slots := 8, locals := 60 } : Room).cells ({ frames := 1, cells := 1, slots := 8, locals := 60 } : Room).slots) := by
  refine MetFree.of_bodySF pn_23 hisR ?_
  intro p e s m args below meth c s₁ Bd hml0 hP hK
  obtain ⟨rfl, hZ, hh⟩ := hP
  have hx := Bd.exec
  have hby := Bd.bytes
  have hml : c.maxLocals = 3 := hml0
  have hown : s.vm.findClass "java/util/Arrays" = some m.cls := findClass_of_methodNamed Bd.named
  have hnm := (name_of_methodNamed Bd.named Bd.method).1
  have X0 : Stand p l e ({ frames := 1, cells := 1, slots := 8, locals := 60 } : Room) s m #[(.ref a1), (.int p2)] below meth c s₁ [] 0 0 := Stand.of_body Bd
  have e0 : s₁.heap = h0 := by rw [← hh, Bd.state]; rfl
  have N0 := Fr.nil n0
  have lk : meth.locks = false := BodyLoose.notSynchronized Bd
  have hret := Bd.returns
  show Ends p e below (EF s ({ frames := 1, cells := 1, slots := 8, locals := 60 } : Room).cells ({ frames := 1, cells := 1, slots := 8, locals := 60 } : Room).slots) (Q23 Z a1 p2 n g k h0 n0) (s₁.setTop (entryFrame m #[(.ref a1), (.int p2)] 3))
  refine Ends.cast (ef_23 m a1 p2) ?_
  refine own_iloadN (n := 1) X0 hx (hb hby d23_0) rfl rfl ?_
  refine own_aloadN (n := 2) X0 hx (hb hby d23_1) rfl rfl rfl ?_
  refine own_arraylength (n := 3) X0 hx hZ e0 A (v := (Nat.toInt32 n)) (len_toInt (by omega)) (hb hby d23_2) rfl ?_
  refine own_icmpYes (n := 14) X0 hx (hb hby d23_3) (Jvm.Free.XT.ii_ne_t (fun z => by rw [z, len_toInt (by omega)] at hp; omega)) (by decide) (by decide) ?_
  refine own_iloadN (n := 15) X0 hx (hb hby d23_14) rfl rfl ?_
  refine own_newJA (n := 17) X0 hx hZ (hw _ (List.mem_of_getElem? (i := 36) rfl)) e0 (i := k) (cap := 8) hp hk8 (by decide) (by decide) (by decide) (hb hby d23_15) rfl ?_
  intro T1 h1 b1 X1 e1 g1 E1 A1
  have Z1 : n0 ≤ h1.size := Nat.le_trans Z0 E1.1
  have nb_b1 : n0 ≤ b1 := Nat.le_trans Z0 (Nat.le_of_eq g1.symm)
  have ne_a1_b1 : a1 ≠ b1 := Nat.ne_of_lt (Nat.lt_of_lt_of_le A.lt (Nat.le_of_eq g1.symm))
  have F1_a1 := A.ext E1
  have K1 : Keep _ h1 [] := (Keep.refl h0 []).ext E1
  have big_b1 : _ ≤ b1 := Nat.le_trans (Keep.refl h0 []).1 (Nat.le_of_eq g1.symm)
  refine own_astoreN (n := 18) X1 hx (hb hby d23_17) rfl (l' := #[.val (.ref a1), .val (.int p2), .val (.ref b1)]) rfl rfl ?_
  refine own_aloadN (n := 19) X1 hx (hb hby d23_18) rfl rfl rfl ?_
  refine own_iconst (n := 20) X1 hx (0 : Int32) (hb hby d23_19) rfl rfl ?_
  refine own_aloadN (n := 21) X1 hx (hb hby d23_20) rfl rfl rfl ?_
  refine own_iconst (n := 22) X1 hx (0 : Int32) (hb hby d23_21) rfl rfl ?_
  refine own_aloadN (n := 23) X1 hx (hb hby d23_22) rfl rfl rfl ?_
  refine own_arraylength (n := 24) X1 hx hZ e1 F1_a1 (v := (Nat.toInt32 n)) (len_toInt (by omega)) (hb hby d23_23) rfl ?_
  refine own_iloadN (n := 25) X1 hx (hb hby d23_24) rfl rfl ?_
  refine own_callS (n := 28) X1 hx hZ hown (hw _ (List.mem_of_getElem? (i := 128) rfl)) (hw _ (List.mem_of_getElem? (i := 129) rfl)) (hw _ (List.mem_of_getElem? (i := 130) rfl)) (hw _ (List.mem_of_getElem? (i := 131) rfl)) (by decide) e1 (rm22 l Z a0 hw [] (Nat.toInt32 n) p2 h1 n0 Z1 ) (W := 4) (by decide) (by decide) (by decide) (by decide) (by rw [hml]; rfl) (argsL := [(.int (Nat.toInt32 n)), (.int p2)]) (rest := [(.int (0 : Int32)), (.ref b1), (.int (0 : Int32)), (.ref a1)]) pd_22 rfl (by rfl) (Nat.le_of_eq rfl) (hb hby d23_25) rfl rfl ?_
  intro v2 T2 h2 L2 X2 e2 q2
  obtain ⟨rfl, M2, rfl⟩ := q2
  have N2 := Fr.app N0 M2
  refine own_cpJ (n := 31) X2 hx hZ hown (hw _ (List.mem_of_getElem? (i := 132) rfl)) (hw _ (List.mem_of_getElem? (i := 135) rfl)) (hw _ (List.mem_of_getElem? (i := 133) rfl)) (hw _ (List.mem_of_getElem? (i := 134) rfl)) e2 F1_a1 A1 (sn := 0) (dn := 0) (nn := n) rfl rfl (by rw [if_neg (by rw [Int32.lt_iff_toInt_lt, len_toInt (by omega)]; omega)]; exact len_toInt (by omega)) (by omega) (by omega) N2 nb_b1 (by rw [hml]; rfl) (hb hby d23_28) rfl (by decide) (W := 0) (Nat.le_of_eq rfl) (by decide) ?_
  intro T3 h3 L3 gq3 X3 e3 N3 K3 A3
  have Z3 : n0 ≤ h3.size := Nat.le_trans Z1 K3.1
  have F3_a1 := F1_a1.keep K3 (ninS ne_a1_b1 nin0)
  have KK3 := K1.trans K3 (fun z hz => by cases List.mem_singleton.mp hz; exact Or.inr big_b1)
  refine own_aloadN (n := 32) X3 hx (hb hby d23_31) rfl rfl rfl ?_
  refine own_retA X3 hx lk hret rfl rfl (hb hby d23_32) (by decide) (by decide) ?_
  rw [e3]
  exact ⟨_, _, rfl, N3, KK3, A3, big_b1⟩
theorem own_low {h : Heap} {own : Addr → Nat} {i : Nat} {x : Addr} (hx : x < h.size) (w : own x = i) : (fun x => if h.size ≤ x then i else own x) x = i := (if_neg (Nat.not_le.mpr hx)).trans w
theorem own_ws3 {own : Addr → Nat} {i : Nat} {a b c : Addr} (h1 : own a = i) (h2 : own b = i) (h3 : own c = i) : ∀ x ∈ [a, b, c], own x = i := fun x hx => by
  simp only [List.mem_cons, List.not_mem_nil, or_false] at hx
  rcases hx with rfl | rfl | rfl
  · exact h1
  · exact h2
  · exact h3
theorem d17_0 : decode prog_54_method_11_code 0 = .ok (.aload_n 0, 1) := by decide +kernel
theorem d17_1 : decode prog_54_method_11_code 1 = .ok (.getfield 23, 3) := by decide +kernel
theorem d17_4 : decode prog_54_method_11_code 4 = .ok (.iconst 0, 1) := by decide +kernel
theorem d17_5 : decode prog_54_method_11_code 5 = .ok (.aload_n 0, 1) := by decide +kernel
theorem d17_6 : decode prog_54_method_11_code 6 = .ok (.getfield 31, 3) := by decide +kernel
theorem d17_9 : decode prog_54_method_11_code 9 = .ok (.iload_n 1, 1) := by decide +kernel
theorem d17_10 : decode prog_54_method_11_code 10 = .ok (.invokestatic 120, 3) := by decide +kernel
theorem d17_13 : decode prog_54_method_11_code 13 = .ok (.istore_n 2, 1) := by decide +kernel
theorem d17_14 : decode prog_54_method_11_code 14 = .ok (.iload_n 2, 1) := by decide +kernel
theorem d17_15 : decode prog_54_method_11_code 15 = .ok (.ifCond .lt 14, 3) := by decide +kernel
theorem d17_18 : decode prog_54_method_11_code 18 = .ok (.aload_n 0, 1) := by decide +kernel
theorem d17_19 : decode prog_54_method_11_code 19 = .ok (.getfield 27, 3) := by decide +kernel
theorem d17_22 : decode prog_54_method_11_code 22 = .ok (.iload_n 2, 1) := by decide +kernel
theorem d17_23 : decode prog_54_method_11_code 23 = .ok (.dup2, 1) := by decide +kernel
theorem d17_24 : decode prog_54_method_11_code 24 = .ok (.laload, 1) := by decide +kernel
theorem d17_25 : decode prog_54_method_11_code 25 = .ok (.lconst 1, 1) := by decide +kernel
theorem d17_26 : decode prog_54_method_11_code 26 = .ok (.ladd, 1) := by decide +kernel
theorem d17_27 : decode prog_54_method_11_code 27 = .ok (.lastore, 1) := by decide +kernel
theorem d17_28 : decode prog_54_method_11_code 28 = .ok (.return_, 1) := by decide +kernel
theorem d17_29 : decode prog_54_method_11_code 29 = .ok (.iload_n 2, 1) := by decide +kernel
theorem d17_30 : decode prog_54_method_11_code 30 = .ok (.ineg, 1) := by decide +kernel
theorem d17_31 : decode prog_54_method_11_code 31 = .ok (.iconst 1, 1) := by decide +kernel
theorem d17_32 : decode prog_54_method_11_code 32 = .ok (.isub, 1) := by decide +kernel
theorem d17_33 : decode prog_54_method_11_code 33 = .ok (.istore_n 2, 1) := by decide +kernel
theorem d17_34 : decode prog_54_method_11_code 34 = .ok (.aload_n 0, 1) := by decide +kernel
theorem d17_35 : decode prog_54_method_11_code 35 = .ok (.getfield 31, 3) := by decide +kernel
theorem d17_38 : decode prog_54_method_11_code 38 = .ok (.aload_n 0, 1) := by decide +kernel
theorem d17_39 : decode prog_54_method_11_code 39 = .ok (.getfield 23, 3) := by decide +kernel
theorem d17_42 : decode prog_54_method_11_code 42 = .ok (.arraylength, 1) := by decide +kernel
theorem d17_43 : decode prog_54_method_11_code 43 = .ok (.if_icmp .ne 37, 3) := by decide +kernel
theorem d17_46 : decode prog_54_method_11_code 46 = .ok (.aload_n 0, 1) := by decide +kernel
theorem d17_47 : decode prog_54_method_11_code 47 = .ok (.aload_n 0, 1) := by decide +kernel
theorem d17_48 : decode prog_54_method_11_code 48 = .ok (.getfield 23, 3) := by decide +kernel
theorem d17_51 : decode prog_54_method_11_code 51 = .ok (.iconst 2, 1) := by decide +kernel
theorem d17_52 : decode prog_54_method_11_code 52 = .ok (.aload_n 0, 1) := by decide +kernel
theorem d17_53 : decode prog_54_method_11_code 53 = .ok (.getfield 31, 3) := by decide +kernel
theorem d17_56 : decode prog_54_method_11_code 56 = .ok (.imul, 1) := by decide +kernel
theorem d17_57 : decode prog_54_method_11_code 57 = .ok (.invokestatic 69, 3) := by decide +kernel
theorem d17_60 : decode prog_54_method_11_code 60 = .ok (.putfield 23, 3) := by decide +kernel
theorem d17_63 : decode prog_54_method_11_code 63 = .ok (.aload_n 0, 1) := by decide +kernel
theorem d17_64 : decode prog_54_method_11_code 64 = .ok (.aload_n 0, 1) := by decide +kernel
theorem d17_65 : decode prog_54_method_11_code 65 = .ok (.getfield 27, 3) := by decide +kernel
theorem d17_68 : decode prog_54_method_11_code 68 = .ok (.iconst 2, 1) := by decide +kernel
theorem d17_69 : decode prog_54_method_11_code 69 = .ok (.aload_n 0, 1) := by decide +kernel
theorem d17_70 : decode prog_54_method_11_code 70 = .ok (.getfield 31, 3) := by decide +kernel
theorem d17_73 : decode prog_54_method_11_code 73 = .ok (.imul, 1) := by decide +kernel
theorem d17_74 : decode prog_54_method_11_code 74 = .ok (.invokestatic 75, 3) := by decide +kernel
theorem d17_77 : decode prog_54_method_11_code 77 = .ok (.putfield 27, 3) := by decide +kernel
theorem d17_80 : decode prog_54_method_11_code 80 = .ok (.aload_n 0, 1) := by decide +kernel
theorem d17_81 : decode prog_54_method_11_code 81 = .ok (.getfield 23, 3) := by decide +kernel
theorem d17_84 : decode prog_54_method_11_code 84 = .ok (.iload_n 2, 1) := by decide +kernel
theorem d17_85 : decode prog_54_method_11_code 85 = .ok (.aload_n 0, 1) := by decide +kernel
theorem d17_86 : decode prog_54_method_11_code 86 = .ok (.getfield 23, 3) := by decide +kernel
theorem d17_89 : decode prog_54_method_11_code 89 = .ok (.iload_n 2, 1) := by decide +kernel
theorem d17_90 : decode prog_54_method_11_code 90 = .ok (.iconst 1, 1) := by decide +kernel
theorem d17_91 : decode prog_54_method_11_code 91 = .ok (.iadd, 1) := by decide +kernel
theorem d17_92 : decode prog_54_method_11_code 92 = .ok (.aload_n 0, 1) := by decide +kernel
theorem d17_93 : decode prog_54_method_11_code 93 = .ok (.getfield 31, 3) := by decide +kernel
theorem d17_96 : decode prog_54_method_11_code 96 = .ok (.iload_n 2, 1) := by decide +kernel
theorem d17_97 : decode prog_54_method_11_code 97 = .ok (.isub, 1) := by decide +kernel
theorem d17_98 : decode prog_54_method_11_code 98 = .ok (.invokestatic 124, 3) := by decide +kernel
theorem d17_101 : decode prog_54_method_11_code 101 = .ok (.aload_n 0, 1) := by decide +kernel
theorem d17_102 : decode prog_54_method_11_code 102 = .ok (.getfield 27, 3) := by decide +kernel
theorem d17_105 : decode prog_54_method_11_code 105 = .ok (.iload_n 2, 1) := by decide +kernel
theorem d17_106 : decode prog_54_method_11_code 106 = .ok (.aload_n 0, 1) := by decide +kernel
theorem d17_107 : decode prog_54_method_11_code 107 = .ok (.getfield 27, 3) := by decide +kernel
theorem d17_110 : decode prog_54_method_11_code 110 = .ok (.iload_n 2, 1) := by decide +kernel
theorem d17_111 : decode prog_54_method_11_code 111 = .ok (.iconst 1, 1) := by decide +kernel
theorem d17_112 : decode prog_54_method_11_code 112 = .ok (.iadd, 1) := by decide +kernel
theorem d17_113 : decode prog_54_method_11_code 113 = .ok (.aload_n 0, 1) := by decide +kernel
theorem d17_114 : decode prog_54_method_11_code 114 = .ok (.getfield 31, 3) := by decide +kernel
theorem d17_117 : decode prog_54_method_11_code 117 = .ok (.iload_n 2, 1) := by decide +kernel
theorem d17_118 : decode prog_54_method_11_code 118 = .ok (.isub, 1) := by decide +kernel
theorem d17_119 : decode prog_54_method_11_code 119 = .ok (.invokestatic 124, 3) := by decide +kernel
theorem d17_122 : decode prog_54_method_11_code 122 = .ok (.aload_n 0, 1) := by decide +kernel
theorem d17_123 : decode prog_54_method_11_code 123 = .ok (.getfield 23, 3) := by decide +kernel
theorem d17_126 : decode prog_54_method_11_code 126 = .ok (.iload_n 2, 1) := by decide +kernel
theorem d17_127 : decode prog_54_method_11_code 127 = .ok (.iload_n 1, 1) := by decide +kernel
theorem d17_128 : decode prog_54_method_11_code 128 = .ok (.iastore, 1) := by decide +kernel
theorem d17_129 : decode prog_54_method_11_code 129 = .ok (.aload_n 0, 1) := by decide +kernel
theorem d17_130 : decode prog_54_method_11_code 130 = .ok (.getfield 27, 3) := by decide +kernel
theorem d17_133 : decode prog_54_method_11_code 133 = .ok (.iload_n 2, 1) := by decide +kernel
theorem d17_134 : decode prog_54_method_11_code 134 = .ok (.lconst 1, 1) := by decide +kernel
theorem d17_135 : decode prog_54_method_11_code 135 = .ok (.lastore, 1) := by decide +kernel
theorem d17_136 : decode prog_54_method_11_code 136 = .ok (.aload_n 0, 1) := by decide +kernel
theorem d17_137 : decode prog_54_method_11_code 137 = .ok (.dup, 1) := by decide +kernel
theorem d17_138 : decode prog_54_method_11_code 138 = .ok (.getfield 31, 3) := by decide +kernel
theorem d17_141 : decode prog_54_method_11_code 141 = .ok (.iconst 1, 1) := by decide +kernel
theorem d17_142 : decode prog_54_method_11_code 142 = .ok (.iadd, 1) := by decide +kernel
theorem d17_143 : decode prog_54_method_11_code 143 = .ok (.putfield 31, 3) := by decide +kernel
theorem d17_146 : decode prog_54_method_11_code 146 = .ok (.return_, 1) := by decide +kernel
theorem pn_17 : plainFor (⟨"com/example/revisit/revisit/policy/RateLikelihood", "addChangedLength", "(I)V"⟩ : MethodName) = true := by first | exact plainFor_of_name (by first | (simp [plainName, overriddenIn]; done) | decide +kernel) | decide +kernel
theorem ef_17 (m : MethodId) (a1 : Addr) (p2 : Int32) : entryFrame m #[(.ref a1), (.int p2)] 3 = mkF m 0 #[.val (.ref a1), .val (.int p2), .unset] [] := by first | (simp [entryFrame, argsToLocals, Value.category, Array.replicate]; done) | rfl
theorem pd_17 : parseMethodDescriptor "(I)V" = some ⟨[.int], none⟩ := by decide +kernel
def Q17 (Z : State) (a1 : Addr) (p2 : Int32) (own : Addr → Nat) (i : Nat) (d : Nat) (h0 : Heap) (n0 : Nat) (v : Option Value) (h : Heap) (L : List Loc) : Prop := v = none ∧ Fr n0 L ∧ Old Z n0 h ∧ (∃ ws, Keep h0 h ws ∧ ∀ x ∈ ws, own x = i) ∧ ∃ d', d' ≤ d + 1 ∧ RLI Z h n0 (fun x => if h0.size ≤ x then i else own x) i a1 d'
theorem rm17 (l : Launch) (Z : State) (a0 : Array Value) (hw : ∀ d ∈ tables_1, d.before a0 Z = true) (ws : List Jvm.Cond) (a1 : Addr) (p2 : Int32) (own : Addr → Nat) (i : Nat) (d : Nat) (h0 : Heap) (n0 : Nat) (Z0 : n0 ≤ h0.size) (OL : Old Z n0 h0) (R0 : RLI Z h0 n0 own i a1 d) (hd4 : d ≤ 4) :
    MetFree l (⟨"com/example/revisit/revisit/policy/RateLikelihood", "addChangedLength", "(I)V"⟩ : MethodName) (head1 (Jvm.Cond.code (⟨"com/example/revisit/revisit/policy/RateLikelihood", "addChangedLength", "(I)V"⟩ : MethodName) prog_54_method_11_code 3 (none) :: ws) ({ frames := 2, cells := 2, slots := 16, locals := 75 } : Room)) (fun a U => a = #[(.ref a1), (.int p2)] ∧ Z.Warmed39 U.vm ∧ U.heap = h0) (fun _ _ _ _ _ => True) (fun _ U o U' => ∃ v L, o = .returned v ∧ (Q17 Z a1 p2 own i d h0 n0) v U'.heap L ∧ FrameEnd U o U' L ({ frames := 2, cells := 2, slots := 16, locals := 75 } : Room).cells ({ frames := 2, cells := 2, slots := 16, locals := 75 } : Room).slots) := by
  refine MetFree.of_bodySF pn_17 hisR ?_
  intro p e s m args below meth c s₁ Bd hml0 hP hK
  obtain ⟨rfl, hZ, hh⟩ := hP
  have hx := Bd.exec
  have hby := Bd.bytes
  have hml : c.maxLocals = 3 := hml0
  have hown : s.vm.findClass "com/example/revisit/revisit/policy/RateLikelihood" = some m.cls := findClass_of_methodNamed Bd.named
  have hnm := (name_of_methodNamed Bd.named Bd.method).1
  have X0 : Stand p l e ({ frames := 2, cells := 2, slots := 16, locals := 75 } : Room) s m #[(.ref a1), (.int p2)] below meth c s₁ [] 0 0 := Stand.of_body Bd
  have e0 : s₁.heap = h0 := by rw [← hh, Bd.state]; rfl
  have N0 := Fr.nil n0
  have lk : meth.locks = false := BodyLoose.notSynchronized Bd
  have hret := Bd.returns
  show Ends p e below (EF s ({ frames := 2, cells := 2, slots := 16, locals := 75 } : Room).cells ({ frames := 2, cells := 2, slots := 16, locals := 75 } : Room).slots) (Q17 Z a1 p2 own i d h0 n0) (s₁.setTop (entryFrame m #[(.ref a1), (.int p2)] 3))
  refine Ends.cast (ef_17 m a1 p2) ?_
  obtain ⟨la, ca, n, g, gj, rx, ry, rz, ul, F0, A, AJ, w1, w2, w3, nb, nla, nca, hd1, hdn, hn8⟩ := R0
  refine own_aloadN (n := 1) X0 hx (hb hby d17_0) rfl rfl rfl ?_
  refine own_getF (n := 4) X0 hx hZ hown (hw _ (List.mem_of_getElem? (i := 34) rfl)) e0 F0.2.2.2.2.1 (hb hby d17_1) rfl ?_
  intro T1 X1 e1
  refine own_iconst (n := 5) X1 hx (0 : Int32) (hb hby d17_4) rfl rfl ?_
  refine own_aloadN (n := 6) X1 hx (hb hby d17_5) rfl rfl rfl ?_
  refine own_getF (n := 9) X1 hx hZ hown (hw _ (List.mem_of_getElem? (i := 39) rfl)) e1 F0.2.2.2.2.2.2.1 (hb hby d17_6) rfl ?_
  intro T2 X2 e2
  refine own_iloadN (n := 10) X2 hx (hb hby d17_9) rfl rfl ?_
  refine own_callS (n := 13) X2 hx hZ hown (hw _ (List.mem_of_getElem? (i := 116) rfl)) (hw _ (List.mem_of_getElem? (i := 117) rfl)) (hw _ (List.mem_of_getElem? (i := 51) rfl)) (hw _ (List.mem_of_getElem? (i := 118) rfl)) (by decide) e2 (rm18 l Z a0 hw [] la (0 : Int32) (Nat.toInt32 d) p2 n g d h0 n0 Z0 A rfl (len_toInt (by omega)) hdn hn8) (W := 0) (by decide) (by decide) (by decide) (by decide) (by rw [hml]; rfl) (argsL := [(.ref la), (.int (0 : Int32)), (.int (Nat.toInt32 d)), (.int p2)]) (rest := []) pd_18 rfl (by rfl) (Nat.le_of_eq rfl) (hb hby d17_10) rfl rfl ?_
  intro v3 T3 h3 L3 X3 e3 q3
  obtain ⟨r3, rfl, D3, M3, rfl⟩ := q3
  have N3 := Fr.app N0 M3
  refine own_istoreN (n := 14) X3 hx (hb hby d17_13) (l' := #[.val (.ref a1), .val (.int p2), .val (.int r3)]) rfl rfl ?_
  refine own_iloadN (n := 15) X3 hx (hb hby d17_14) rfl rfl ?_
  by_cases c15 : r3 < 0
  · refine own_ifYes (n := 29) X3 hx (hb hby d17_15) (Jvm.Free.XT.i0_lt_t c15) (by decide) (by decide) ?_
    obtain ⟨ix, hix, hr⟩ := D3.resolve_left (fun ⟨y, _, z⟩ => by rw [Int32.lt_iff_toInt_lt] at c15; have o : (0 : Int32).toInt = 0 := rfl; omega)
    refine own_iloadN (n := 30) X3 hx (hb hby d17_29) rfl rfl ?_
    refine own_ineg (n := 31) X3 hx (hb hby d17_30) rfl ?_
    refine own_iconst (n := 32) X3 hx (1 : Int32) (hb hby d17_31) rfl rfl ?_
    refine own_isub (n := 33) X3 hx (hb hby d17_32) rfl ?_
    refine own_istoreN (n := 34) X3 hx (hb hby d17_33) (l' := #[.val (.ref a1), .val (.int p2), .val (.int ((-r3) - (1 : Int32)))]) rfl rfl ?_
    show Ends p e below (EF s ({ frames := 2, cells := 2, slots := 16, locals := 75 } : Room).cells ({ frames := 2, cells := 2, slots := 16, locals := 75 } : Room).slots) (Q17 Z a1 p2 own i d h0 n0) (T3.setTop (mkF m 34 #[.val (.ref a1), .val (.int p2), .val (.int ((-r3) - (1 : Int32)))] []))
    generalize g_ins : ((-r3) - (1 : Int32)) = ins
    have hins : ins.toInt = (ix : Int) := by rw [← g_ins]; exact own_unneg hr (by omega)
    refine own_aloadN (n := 35) X3 hx (hb hby d17_34) rfl rfl rfl ?_
    refine own_getF (n := 38) X3 hx hZ hown (hw _ (List.mem_of_getElem? (i := 39) rfl)) e3 F0.2.2.2.2.2.2.1 (hb hby d17_35) rfl ?_
    intro T4 X4 e4
    refine own_aloadN (n := 39) X4 hx (hb hby d17_38) rfl rfl rfl ?_
    refine own_getF (n := 42) X4 hx hZ hown (hw _ (List.mem_of_getElem? (i := 34) rfl)) e4 F0.2.2.2.2.1 (hb hby d17_39) rfl ?_
    intro T5 X5 e5
    refine own_arraylength (n := 43) X5 hx hZ e5 A (v := (Nat.toInt32 n)) (len_toInt (by omega)) (hb hby d17_42) rfl ?_
    by_cases c43 : (Nat.toInt32 d) = (Nat.toInt32 n)
    · refine own_icmpNo (n := 46) X5 hx (hb hby d17_43) (Jvm.Free.XT.ii_ne_f c43) rfl ?_
      refine own_aloadN (n := 47) X5 hx (hb hby d17_46) rfl rfl rfl ?_
      refine own_aloadN (n := 48) X5 hx (hb hby d17_47) rfl rfl rfl ?_
      refine own_getF (n := 51) X5 hx hZ hown (hw _ (List.mem_of_getElem? (i := 34) rfl)) e5 F0.2.2.2.2.1 (hb hby d17_48) rfl ?_
      intro T6 X6 e6
      refine own_iconst (n := 52) X6 hx (2 : Int32) (hb hby d17_51) rfl rfl ?_
      refine own_aloadN (n := 53) X6 hx (hb hby d17_52) rfl rfl rfl ?_
      refine own_getF (n := 56) X6 hx hZ hown (hw _ (List.mem_of_getElem? (i := 39) rfl)) e6 F0.2.2.2.2.2.2.1 (hb hby d17_53) rfl ?_
      intro T7 X7 e7
      refine own_imul (n := 57) X7 hx (hb hby d17_56) rfl ?_
      have hdn' : d = n := by have z := congrArg Int32.toInt c43; rw [len_toInt (by omega), len_toInt (by omega)] at z; omega
      refine own_callS (n := 60) X7 hx hZ hown (hw _ (List.mem_of_getElem? (i := 125) rfl)) (hw _ (List.mem_of_getElem? (i := 126) rfl)) (hw _ (List.mem_of_getElem? (i := 51) rfl)) (hw _ (List.mem_of_getElem? (i := 127) rfl)) (by decide) e7 (rm21 l Z a0 hw [] la ((2 : Int32) * (Nat.toInt32 d)) n g (2 * d) h0 n0 Z0 A (own_dbl (by omega)) (by omega) (by omega)) (W := 1) (by decide) (by decide) (by decide) (by decide) (by rw [hml]; rfl) (argsL := [(.ref la), (.int ((2 : Int32) * (Nat.toInt32 d)))]) (rest := [(.ref a1)]) pd_21 rfl (by rfl) (Nat.le_of_eq rfl) (hb hby d17_57) rfl rfl ?_
      intro v8 T8 h8 L8 X8 e8 q8
      obtain ⟨o8, g8, rfl, M8, K8, A8, bg8⟩ := q8
      have N8 := Fr.app N3 M8
      have Z8 : n0 ≤ h8.size := Nat.le_trans Z0 K8.1
      have OL8 := OL.keep K8 all0
      have F8_a1 := F0.keep K8 nin0
      have F8_la := A.keep K8 nin0
      have F8_ca := AJ.keep K8 nin0
      have KK8 := (Keep.refl h0 [a1, la, ca]).trans K8 (fun z hz => nomatch hz)
      have nb_o8 : n0 ≤ o8 := Nat.le_trans Z0 bg8
      have big_o8 := Nat.le_trans (Keep.refl h0 [a1, la, ca]).1 bg8
      refine own_putF (n := 63) X8 hx hZ hown (hw _ (List.mem_of_getElem? (i := 34) rfl)) e8 F8_a1.2.2.2.2.1 F8_a1.1 (Or.inl (hw _ (List.mem_of_getElem? (i := 35) rfl))) (hw _ (List.mem_of_getElem? (i := 18) rfl)) (ty := (.array .int)) (by decide) rfl rfl (hb hby d17_60) rfl ?_
      intro T9 h9 X9 e9 W9
      have N9 := Fr.snoc X9 N8 nb
      have Z9 : n0 ≤ h9.size := Nat.le_trans Z8 (Keep.of_wr W9).1
      have OL9 := OL8.wr W9 nb
      have F9_a1 := F8_a1.set_changedLengths hw W9
      have F9_la := F8_la.wrO W9 (Ne.symm (own_neOA F8_a1.1 (hw _ (List.mem_of_getElem? (i := 18) rfl)) F8_la))
      have F9_ca := F8_ca.wrO W9 (Ne.symm (own_neOA F8_a1.1 (hw _ (List.mem_of_getElem? (i := 18) rfl)) F8_ca))
      have F9_o8 := A8.wrO W9 (Ne.symm (own_neOA F8_a1.1 (hw _ (List.mem_of_getElem? (i := 18) rfl)) A8))
      have K9 : Keep _ h9 [a1, la, ca] := KK8.wr W9 (Or.inl (List.mem_of_getElem? (i := 0) rfl))
      refine own_aloadN (n := 64) X9 hx (hb hby d17_63) rfl rfl rfl ?_
      refine own_aloadN (n := 65) X9 hx (hb hby d17_64) rfl rfl rfl ?_
      refine own_getF (n := 68) X9 hx hZ hown (hw _ (List.mem_of_getElem? (i := 37) rfl)) e9 F9_a1.2.2.2.2.2.1 (hb hby d17_65) rfl ?_
      intro T10 X10 e10
      refine own_iconst (n := 69) X10 hx (2 : Int32) (hb hby d17_68) rfl rfl ?_
      refine own_aloadN (n := 70) X10 hx (hb hby d17_69) rfl rfl rfl ?_
      refine own_getF (n := 73) X10 hx hZ hown (hw _ (List.mem_of_getElem? (i := 39) rfl)) e10 F9_a1.2.2.2.2.2.2.1 (hb hby d17_70) rfl ?_
      intro T11 X11 e11
      refine own_imul (n := 74) X11 hx (hb hby d17_73) rfl ?_
      refine own_callS (n := 77) X11 hx hZ hown (hw _ (List.mem_of_getElem? (i := 136) rfl)) (hw _ (List.mem_of_getElem? (i := 137) rfl)) (hw _ (List.mem_of_getElem? (i := 51) rfl)) (hw _ (List.mem_of_getElem? (i := 138) rfl)) (by decide) e11 (rm23 l Z a0 hw [] ca ((2 : Int32) * (Nat.toInt32 d)) n gj (2 * d) h9 n0 Z9 F9_ca (own_dbl (by omega)) (by omega) (by omega)) (W := 1) (by decide) (by decide) (by decide) (by decide) (by rw [hml]; rfl) (argsL := [(.ref ca), (.int ((2 : Int32) * (Nat.toInt32 d)))]) (rest := [(.ref a1)]) pd_23 rfl (by rfl) (Nat.le_of_eq rfl) (hb hby d17_74) rfl rfl ?_
      intro v12 T12 h12 L12 X12 e12 q12
      obtain ⟨o12, g12, rfl, M12, K12, A12, bg12⟩ := q12
      have N12 := Fr.app N9 M12
      have Z12 : n0 ≤ h12.size := Nat.le_trans Z9 K12.1
      have OL12 := OL9.keep K12 all0
      have F12_a1 := F9_a1.keep K12 nin0
      have F12_la := F9_la.keep K12 nin0
      have F12_ca := F9_ca.keep K12 nin0
      have F12_o8 := F9_o8.keep K12 nin0
      have KK12 := K9.trans K12 (fun z hz => nomatch hz)
      have nb_o12 : n0 ≤ o12 := Nat.le_trans Z9 bg12
      have big_o12 := Nat.le_trans K9.1 bg12
      refine own_putF (n := 80) X12 hx hZ hown (hw _ (List.mem_of_getElem? (i := 37) rfl)) e12 F12_a1.2.2.2.2.2.1 F12_a1.1 (Or.inl (hw _ (List.mem_of_getElem? (i := 38) rfl))) (hw _ (List.mem_of_getElem? (i := 18) rfl)) (ty := (.array .long)) (by decide) rfl rfl (hb hby d17_77) rfl ?_
      intro T13 h13 X13 e13 W13
      have N13 := Fr.snoc X13 N12 nb
      have Z13 : n0 ≤ h13.size := Nat.le_trans Z12 (Keep.of_wr W13).1
      have OL13 := OL12.wr W13 nb
      have F13_a1 := F12_a1.set_changedCounts hw W13
      have F13_la := F12_la.wrO W13 (Ne.symm (own_neOA F12_a1.1 (hw _ (List.mem_of_getElem? (i := 18) rfl)) F12_la))
      have F13_ca := F12_ca.wrO W13 (Ne.symm (own_neOA F12_a1.1 (hw _ (List.mem_of_getElem? (i := 18) rfl)) F12_ca))
      have F13_o8 := F12_o8.wrO W13 (Ne.symm (own_neOA F12_a1.1 (hw _ (List.mem_of_getElem? (i := 18) rfl)) F12_o8))
      have F13_o12 := A12.wrO W13 (Ne.symm (own_neOA F12_a1.1 (hw _ (List.mem_of_getElem? (i := 18) rfl)) A12))
      have K13 : Keep _ h13 [a1, la, ca] := KK12.wr W13 (Or.inl (List.mem_of_getElem? (i := 0) rfl))
      have hroom : d + 1 ≤ (2 * d) := by omega
      refine own_aloadN (n := 81) X13 hx (hb hby d17_80) rfl rfl rfl ?_
      refine own_getF (n := 84) X13 hx hZ hown (hw _ (List.mem_of_getElem? (i := 34) rfl)) e13 F13_a1.2.2.2.2.1 (hb hby d17_81) rfl ?_
      intro T14 X14 e14
      refine own_iloadN (n := 85) X14 hx (hb hby d17_84) rfl rfl ?_
      refine own_aloadN (n := 86) X14 hx (hb hby d17_85) rfl rfl rfl ?_
      refine own_getF (n := 89) X14 hx hZ hown (hw _ (List.mem_of_getElem? (i := 34) rfl)) e14 F13_a1.2.2.2.2.1 (hb hby d17_86) rfl ?_
      intro T15 X15 e15
      refine own_iloadN (n := 90) X15 hx (hb hby d17_89) rfl rfl ?_
      refine own_iconst (n := 91) X15 hx (1 : Int32) (hb hby d17_90) rfl rfl ?_
      refine own_iadd (n := 92) X15 hx (hb hby d17_91) rfl ?_
      refine own_aloadN (n := 93) X15 hx (hb hby d17_92) rfl rfl rfl ?_
      refine own_getF (n := 96) X15 hx hZ hown (hw _ (List.mem_of_getElem? (i := 39) rfl)) e15 F13_a1.2.2.2.2.2.2.1 (hb hby d17_93) rfl ?_
      intro T16 X16 e16
      refine own_iloadN (n := 97) X16 hx (hb hby d17_96) rfl rfl ?_
      refine own_isub (n := 98) X16 hx (hb hby d17_97) rfl ?_
      refine own_cpI (n := 101) X16 hx hZ hown (hw _ (List.mem_of_getElem? (i := 139) rfl)) (hw _ (List.mem_of_getElem? (i := 135) rfl)) (hw _ (List.mem_of_getElem? (i := 133) rfl)) (hw _ (List.mem_of_getElem? (i := 134) rfl)) e16 F13_o8 F13_o8 (sn := ix) (dn := (ix + 1)) (nn := (d - ix)) hins (own_add1 hins (by omega)) (own_subN hins (by omega) (by omega)) (by omega) (by omega) N13 nb_o8 (by rw [hml]; rfl) (hb hby d17_98) rfl (by decide) (W := 0) (Nat.le_of_eq rfl) (by decide) ?_
      intro T17 h17 L17 gq17 X17 e17 N17 K17 A17
      have Z17 : n0 ≤ h17.size := Nat.le_trans Z13 K17.1
      have OL17 := OL13.keep K17 (allS nb_o8 all0)
      have F17_a1 := F13_a1.keep K17 (ninS (own_neOA F13_a1.1 (hw _ (List.mem_of_getElem? (i := 18) rfl)) F13_o8) nin0)
      have F17_o12 := F13_o12.keep K17 (ninS (own_neAA F13_o12 F13_o8 (by decide)) nin0)
      have KK17 := K13.trans K17 (fun z hz => by cases List.mem_singleton.mp hz; exact Or.inr big_o8)
      refine own_aloadN (n := 102) X17 hx (hb hby d17_101) rfl rfl rfl ?_
      refine own_getF (n := 105) X17 hx hZ hown (hw _ (List.mem_of_getElem? (i := 37) rfl)) e17 F17_a1.2.2.2.2.2.1 (hb hby d17_102) rfl ?_
      intro T18 X18 e18
      refine own_iloadN (n := 106) X18 hx (hb hby d17_105) rfl rfl ?_
      refine own_aloadN (n := 107) X18 hx (hb hby d17_106) rfl rfl rfl ?_
      refine own_getF (n := 110) X18 hx hZ hown (hw _ (List.mem_of_getElem? (i := 37) rfl)) e18 F17_a1.2.2.2.2.2.1 (hb hby d17_107) rfl ?_
      intro T19 X19 e19
      refine own_iloadN (n := 111) X19 hx (hb hby d17_110) rfl rfl ?_
      refine own_iconst (n := 112) X19 hx (1 : Int32) (hb hby d17_111) rfl rfl ?_
      refine own_iadd (n := 113) X19 hx (hb hby d17_112) rfl ?_
      refine own_aloadN (n := 114) X19 hx (hb hby d17_113) rfl rfl rfl ?_
      refine own_getF (n := 117) X19 hx hZ hown (hw _ (List.mem_of_getElem? (i := 39) rfl)) e19 F17_a1.2.2.2.2.2.2.1 (hb hby d17_114) rfl ?_
      intro T20 X20 e20
      refine own_iloadN (n := 118) X20 hx (hb hby d17_117) rfl rfl ?_
      refine own_isub (n := 119) X20 hx (hb hby d17_118) rfl ?_
      refine own_cpJ (n := 122) X20 hx hZ hown (hw _ (List.mem_of_getElem? (i := 139) rfl)) (hw _ (List.mem_of_getElem? (i := 135) rfl)) (hw _ (List.mem_of_getElem? (i := 133) rfl)) (hw _ (List.mem_of_getElem? (i := 134) rfl)) e20 F17_o12 F17_o12 (sn := ix) (dn := (ix + 1)) (nn := (d - ix)) hins (own_add1 hins (by omega)) (own_subN hins (by omega) (by omega)) (by omega) (by omega) N17 nb_o12 (by rw [hml]; rfl) (hb hby d17_119) rfl (by decide) (W := 0) (Nat.le_of_eq rfl) (by decide) ?_
      intro T21 h21 L21 gq21 X21 e21 N21 K21 A21
      have Z21 : n0 ≤ h21.size := Nat.le_trans Z17 K21.1
      have OL21 := OL17.keep K21 (allS nb_o12 all0)
      have F21_a1 := F17_a1.keep K21 (ninS (own_neOA F17_a1.1 (hw _ (List.mem_of_getElem? (i := 18) rfl)) F17_o12) nin0)
      have F21_o8 := A17.keep K21 (ninS (own_neAA A17 F17_o12 (by decide)) nin0)
      have KK21 := KK17.trans K21 (fun z hz => by cases List.mem_singleton.mp hz; exact Or.inr big_o12)
      refine own_aloadN (n := 123) X21 hx (hb hby d17_122) rfl rfl rfl ?_
      refine own_getF (n := 126) X21 hx hZ hown (hw _ (List.mem_of_getElem? (i := 34) rfl)) e21 F21_a1.2.2.2.2.1 (hb hby d17_123) rfl ?_
      intro T22 X22 e22
      refine own_iloadN (n := 127) X22 hx (hb hby d17_126) rfl rfl ?_
      refine own_iloadN (n := 128) X22 hx (hb hby d17_127) rfl rfl ?_
      refine own_iastore (n := 129) X22 hx hZ e22 F21_o8 (i := ix) hins (by omega) (hb hby d17_128) rfl ?_
      intro T23 h23 X23 e23 W23 A23
      have N23 := Fr.snoc X23 N21 nb_o8
      have Z23 : n0 ≤ h23.size := Nat.le_trans Z21 (Keep.of_wr W23).1
      have OL23 := OL21.wr W23 nb_o8
      have F23_a1 := F21_a1.wrO W23 (own_neOA F21_a1.1 (hw _ (List.mem_of_getElem? (i := 18) rfl)) F21_o8)
      have F23_o12 := A21.wrO W23 (own_neAA A21 F21_o8 (by decide))
      have K23 : Keep _ h23 [a1, la, ca] := KK21.wr W23 (Or.inr big_o8)
      refine own_aloadN (n := 130) X23 hx (hb hby d17_129) rfl rfl rfl ?_
      refine own_getF (n := 133) X23 hx hZ hown (hw _ (List.mem_of_getElem? (i := 37) rfl)) e23 F23_a1.2.2.2.2.2.1 (hb hby d17_130) rfl ?_
      intro T24 X24 e24
      refine own_iloadN (n := 134) X24 hx (hb hby d17_133) rfl rfl ?_
      refine own_lconst (n := 135) X24 hx (1 : Int64) (hb hby d17_134) rfl rfl ?_
      refine own_lastore (n := 136) X24 hx hZ e24 F23_o12 (i := ix) hins (by omega) (hb hby d17_135) rfl ?_
      intro T25 h25 X25 e25 W25 A25
      have N25 := Fr.snoc X25 N23 nb_o12
      have Z25 : n0 ≤ h25.size := Nat.le_trans Z23 (Keep.of_wr W25).1
      have OL25 := OL23.wr W25 nb_o12
      have F25_a1 := F23_a1.wrO W25 (own_neOA F23_a1.1 (hw _ (List.mem_of_getElem? (i := 18) rfl)) F23_o12)
      have F25_o8 := A23.wrO W25 (own_neAA A23 F23_o12 (by decide))
      have K25 : Keep _ h25 [a1, la, ca] := K23.wr W25 (Or.inr big_o12)
      refine own_aloadN (n := 137) X25 hx (hb hby d17_136) rfl rfl rfl ?_
      refine own_dup (n := 138) X25 hx (hb hby d17_137) rfl rfl ?_
      refine own_getF (n := 141) X25 hx hZ hown (hw _ (List.mem_of_getElem? (i := 39) rfl)) e25 F25_a1.2.2.2.2.2.2.1 (hb hby d17_138) rfl ?_
      intro T26 X26 e26
      refine own_iconst (n := 142) X26 hx (1 : Int32) (hb hby d17_141) rfl rfl ?_
      refine own_iadd (n := 143) X26 hx (hb hby d17_142) rfl ?_
      refine own_putF (n := 146) X26 hx hZ hown (hw _ (List.mem_of_getElem? (i := 39) rfl)) e26 F25_a1.2.2.2.2.2.2.1 F25_a1.1 (Or.inl (hw _ (List.mem_of_getElem? (i := 40) rfl))) (hw _ (List.mem_of_getElem? (i := 18) rfl)) (ty := .int) (by decide) rfl rfl (hb hby d17_143) rfl ?_
      intro T27 h27 X27 e27 W27
      have N27 := Fr.snoc X27 N25 nb
      have Z27 : n0 ≤ h27.size := Nat.le_trans Z25 (Keep.of_wr W27).1
      have OL27 := OL25.wr W27 nb
      have F27_a1 := F25_a1.set_distinctLengths hw W27
      have F27_o8 := F25_o8.wrO W27 (Ne.symm (own_neOA F25_a1.1 (hw _ (List.mem_of_getElem? (i := 18) rfl)) F25_o8))
      have F27_o12 := A25.wrO W27 (Ne.symm (own_neOA F25_a1.1 (hw _ (List.mem_of_getElem? (i := 18) rfl)) A25))
      have K27 : Keep _ h27 [a1, la, ca] := K25.wr W27 (Or.inl (List.mem_of_getElem? (i := 0) rfl))
      refine own_retV X27 hx lk hret (hb hby d17_146) (by decide) (by decide) ?_
      rw [e27]
      rw [own_succ (by omega)] at F27_a1
      exact ⟨rfl, N27, OL27, ⟨[a1, la, ca], K27, own_ws3 w1 w2 w3⟩, (d + 1), by omega, o8, o12, (2 * d), _, _, _, _, _, _, F27_a1, F27_o8, F27_o12, own_low F0.lt w1, if_pos big_o8, if_pos big_o12, nb, nb_o8, nb_o12, by omega, by omega, by omega⟩
    · refine own_icmpYes (n := 80) X5 hx (hb hby d17_43) (Jvm.Free.XT.ii_ne_t c43) (by decide) (by decide) ?_
      have hroom : d + 1 ≤ n := by have hne : ¬ d = n := fun z => c43 (by rw [z]); omega
      refine own_aloadN (n := 81) X5 hx (hb hby d17_80) rfl rfl rfl ?_
      refine own_getF (n := 84) X5 hx hZ hown (hw _ (List.mem_of_getElem? (i := 34) rfl)) e5 F0.2.2.2.2.1 (hb hby d17_81) rfl ?_
      intro T28 X28 e28
      refine own_iloadN (n := 85) X28 hx (hb hby d17_84) rfl rfl ?_
      refine own_aloadN (n := 86) X28 hx (hb hby d17_85) rfl rfl rfl ?_
      refine own_getF (n := 89) X28 hx hZ hown (hw _ (List.mem_of_getElem? (i := 34) rfl)) e28 F0.2.2.2.2.1 (hb hby d17_86) rfl ?_
      intro T29 X29 e29
      refine own_iloadN (n := 90) X29 hx (hb hby d17_89) rfl rfl ?_
      refine own_iconst (n := 91) X29 hx (1 : Int32) (hb hby d17_90) rfl rfl ?_
      refine own_iadd (n := 92) X29 hx (hb hby d17_91) rfl ?_
      refine own_aloadN (n := 93) X29 hx (hb hby d17_92) rfl rfl rfl ?_
      refine own_getF (n := 96) X29 hx hZ hown (hw _ (List.mem_of_getElem? (i := 39) rfl)) e29 F0.2.2.2.2.2.2.1 (hb hby d17_93) rfl ?_
      intro T30 X30 e30
      refine own_iloadN (n := 97) X30 hx (hb hby d17_96) rfl rfl ?_
      refine own_isub (n := 98) X30 hx (hb hby d17_97) rfl ?_
      refine own_cpI (n := 101) X30 hx hZ hown (hw _ (List.mem_of_getElem? (i := 139) rfl)) (hw _ (List.mem_of_getElem? (i := 135) rfl)) (hw _ (List.mem_of_getElem? (i := 133) rfl)) (hw _ (List.mem_of_getElem? (i := 134) rfl)) e30 A A (sn := ix) (dn := (ix + 1)) (nn := (d - ix)) hins (own_add1 hins (by omega)) (own_subN hins (by omega) (by omega)) (by omega) (by omega) N3 nla (by rw [hml]; rfl) (hb hby d17_98) rfl (by decide) (W := 0) (Nat.le_of_eq rfl) (by decide) ?_
      intro T31 h31 L31 gq31 X31 e31 N31 K31 A31
      have Z31 : n0 ≤ h31.size := Nat.le_trans Z0 K31.1
      have OL31 := OL.keep K31 (allS nla all0)
      have F31_a1 := F0.keep K31 (ninS (own_neOA F0.1 (hw _ (List.mem_of_getElem? (i := 18) rfl)) A) nin0)
      have F31_ca := AJ.keep K31 (ninS (own_neAA AJ A (by decide)) nin0)
      have KK31 := (Keep.refl h0 [a1, la, ca]).trans K31 (fun z hz => by cases List.mem_singleton.mp hz; exact Or.inl (List.mem_of_getElem? (i := 1) rfl))
      refine own_aloadN (n := 102) X31 hx (hb hby d17_101) rfl rfl rfl ?_
      refine own_getF (n := 105) X31 hx hZ hown (hw _ (List.mem_of_getElem? (i := 37) rfl)) e31 F31_a1.2.2.2.2.2.1 (hb hby d17_102) rfl ?_
      intro T32 X32 e32
      refine own_iloadN (n := 106) X32 hx (hb hby d17_105) rfl rfl ?_
      refine own_aloadN (n := 107) X32 hx (hb hby d17_106) rfl rfl rfl ?_
      refine own_getF (n := 110) X32 hx hZ hown (hw _ (List.mem_of_getElem? (i := 37) rfl)) e32 F31_a1.2.2.2.2.2.1 (hb hby d17_107) rfl ?_
      intro T33 X33 e33
      refine own_iloadN (n := 111) X33 hx (hb hby d17_110) rfl rfl ?_
      refine own_iconst (n := 112) X33 hx (1 : Int32) (hb hby d17_111) rfl rfl ?_
      refine own_iadd (n := 113) X33 hx (hb hby d17_112) rfl ?_
      refine own_aloadN (n := 114) X33 hx (hb hby d17_113) rfl rfl rfl ?_
      refine own_getF (n := 117) X33 hx hZ hown (hw _ (List.mem_of_getElem? (i := 39) rfl)) e33 F31_a1.2.2.2.2.2.2.1 (hb hby d17_114) rfl ?_
      intro T34 X34 e34
      refine own_iloadN (n := 118) X34 hx (hb hby d17_117) rfl rfl ?_
      refine own_isub (n := 119) X34 hx (hb hby d17_118) rfl ?_
      refine own_cpJ (n := 122) X34 hx hZ hown (hw _ (List.mem_of_getElem? (i := 139) rfl)) (hw _ (List.mem_of_getElem? (i := 135) rfl)) (hw _ (List.mem_of_getElem? (i := 133) rfl)) (hw _ (List.mem_of_getElem? (i := 134) rfl)) e34 F31_ca F31_ca (sn := ix) (dn := (ix + 1)) (nn := (d - ix)) hins (own_add1 hins (by omega)) (own_subN hins (by omega) (by omega)) (by omega) (by omega) N31 nca (by rw [hml]; rfl) (hb hby d17_119) rfl (by decide) (W := 0) (Nat.le_of_eq rfl) (by decide) ?_
      intro T35 h35 L35 gq35 X35 e35 N35 K35 A35
      have Z35 : n0 ≤ h35.size := Nat.le_trans Z31 K35.1
      have OL35 := OL31.keep K35 (allS nca all0)
      have F35_a1 := F31_a1.keep K35 (ninS (own_neOA F31_a1.1 (hw _ (List.mem_of_getElem? (i := 18) rfl)) F31_ca) nin0)
      have F35_la := A31.keep K35 (ninS (own_neAA A31 F31_ca (by decide)) nin0)
      have KK35 := KK31.trans K35 (fun z hz => by cases List.mem_singleton.mp hz; exact Or.inl (List.mem_of_getElem? (i := 2) rfl))
      refine own_aloadN (n := 123) X35 hx (hb hby d17_122) rfl rfl rfl ?_
      refine own_getF (n := 126) X35 hx hZ hown (hw _ (List.mem_of_getElem? (i := 34) rfl)) e35 F35_a1.2.2.2.2.1 (hb hby d17_123) rfl ?_
      intro T36 X36 e36
      refine own_iloadN (n := 127) X36 hx (hb hby d17_126) rfl rfl ?_
      refine own_iloadN (n := 128) X36 hx (hb hby d17_127) rfl rfl ?_
      refine own_iastore (n := 129) X36 hx hZ e36 F35_la (i := ix) hins (by omega) (hb hby d17_128) rfl ?_
      intro T37 h37 X37 e37 W37 A37
      have N37 := Fr.snoc X37 N35 nla
      have Z37 : n0 ≤ h37.size := Nat.le_trans Z35 (Keep.of_wr W37).1
      have OL37 := OL35.wr W37 nla
      have F37_a1 := F35_a1.wrO W37 (own_neOA F35_a1.1 (hw _ (List.mem_of_getElem? (i := 18) rfl)) F35_la)
      have F37_ca := A35.wrO W37 (own_neAA A35 F35_la (by decide))
      have K37 : Keep _ h37 [a1, la, ca] := KK35.wr W37 (Or.inl (List.mem_of_getElem? (i := 1) rfl))
      refine own_aloadN (n := 130) X37 hx (hb hby d17_129) rfl rfl rfl ?_
      refine own_getF (n := 133) X37 hx hZ hown (hw _ (List.mem_of_getElem? (i := 37) rfl)) e37 F37_a1.2.2.2.2.2.1 (hb hby d17_130) rfl ?_
      intro T38 X38 e38
      refine own_iloadN (n := 134) X38 hx (hb hby d17_133) rfl rfl ?_
      refine own_lconst (n := 135) X38 hx (1 : Int64) (hb hby d17_134) rfl rfl ?_
      refine own_lastore (n := 136) X38 hx hZ e38 F37_ca (i := ix) hins (by omega) (hb hby d17_135) rfl ?_
      intro T39 h39 X39 e39 W39 A39
      have N39 := Fr.snoc X39 N37 nca
      have Z39 : n0 ≤ h39.size := Nat.le_trans Z37 (Keep.of_wr W39).1
      have OL39 := OL37.wr W39 nca
      have F39_a1 := F37_a1.wrO W39 (own_neOA F37_a1.1 (hw _ (List.mem_of_getElem? (i := 18) rfl)) F37_ca)
      have F39_la := A37.wrO W39 (own_neAA A37 F37_ca (by decide))
      have K39 : Keep _ h39 [a1, la, ca] := K37.wr W39 (Or.inl (List.mem_of_getElem? (i := 2) rfl))
      refine own_aloadN (n := 137) X39 hx (hb hby d17_136) rfl rfl rfl ?_
      refine own_dup (n := 138) X39 hx (hb hby d17_137) rfl rfl ?_
      refine own_getF (n := 141) X39 hx hZ hown (hw _ (List.mem_of_getElem? (i := 39) rfl)) e39 F39_a1.2.2.2.2.2.2.1 (hb hby d17_138) rfl ?_
      intro T40 X40 e40
      refine own_iconst (n := 142) X40 hx (1 : Int32) (hb hby d17_141) rfl rfl ?_
      refine own_iadd (n := 143) X40 hx (hb hby d17_142) rfl ?_
      refine own_putF (n := 146) X40 hx hZ hown (hw _ (List.mem_of_getElem? (i := 39) rfl)) e40 F39_a1.2.2.2.2.2.2.1 F39_a1.1 (Or.inl (hw _ (List.mem_of_getElem? (i := 40) rfl))) (hw _ (List.mem_of_getElem? (i := 18) rfl)) (ty := .int) (by decide) rfl rfl (hb hby d17_143) rfl ?_
      intro T41 h41 X41 e41 W41
      have N41 := Fr.snoc X41 N39 nb
      have Z41 : n0 ≤ h41.size := Nat.le_trans Z39 (Keep.of_wr W41).1
      have OL41 := OL39.wr W41 nb
      have F41_a1 := F39_a1.set_distinctLengths hw W41
      have F41_la := F39_la.wrO W41 (Ne.symm (own_neOA F39_a1.1 (hw _ (List.mem_of_getElem? (i := 18) rfl)) F39_la))
      have F41_ca := A39.wrO W41 (Ne.symm (own_neOA F39_a1.1 (hw _ (List.mem_of_getElem? (i := 18) rfl)) A39))
      have K41 : Keep _ h41 [a1, la, ca] := K39.wr W41 (Or.inl (List.mem_of_getElem? (i := 0) rfl))
      refine own_retV X41 hx lk hret (hb hby d17_146) (by decide) (by decide) ?_
      rw [e41]
      rw [own_succ (by omega)] at F41_a1
      exact ⟨rfl, N41, OL41, ⟨[a1, la, ca], K41, own_ws3 w1 w2 w3⟩, (d + 1), by omega, la, ca, n, _, _, _, _, _, _, F41_a1, F41_la, F41_ca, own_low F0.lt w1, own_low A.lt w2, own_low AJ.lt w3, nb, nla, nca, by omega, by omega, by omega⟩
  · refine own_ifNo (n := 18) X3 hx (hb hby d17_15) (Jvm.Free.XT.i0_lt_f c15) rfl ?_
    obtain ⟨ix, hix, hr⟩ := D3.resolve_right (fun ⟨y, _, z⟩ => c15 (by rw [Int32.lt_iff_toInt_lt]; have o : (0 : Int32).toInt = 0 := rfl; omega))
    refine own_aloadN (n := 19) X3 hx (hb hby d17_18) rfl rfl rfl ?_
    refine own_getF (n := 22) X3 hx hZ hown (hw _ (List.mem_of_getElem? (i := 37) rfl)) e3 F0.2.2.2.2.2.1 (hb hby d17_19) rfl ?_
    intro T42 X42 e42
    refine own_iloadN (n := 23) X42 hx (hb hby d17_22) rfl rfl ?_
    refine own_dup2 (n := 24) X42 hx (hb hby d17_23) rfl rfl rfl ?_
    refine own_laload (n := 25) X42 hx hZ e42 AJ (i := ix) hr (by omega) (hb hby d17_24) rfl ?_
    refine own_lconst (n := 26) X42 hx (1 : Int64) (hb hby d17_25) rfl rfl ?_
    refine own_ladd (n := 27) X42 hx (hb hby d17_26) rfl ?_
    refine own_lastore (n := 28) X42 hx hZ e42 AJ (i := ix) hr (by omega) (hb hby d17_27) rfl ?_
    intro T43 h43 X43 e43 W43 A43
    have N43 := Fr.snoc X43 N3 nca
    have Z43 : n0 ≤ h43.size := Nat.le_trans Z0 (Keep.of_wr W43).1
    have OL43 := OL.wr W43 nca
    have F43_a1 := F0.wrO W43 (own_neOA F0.1 (hw _ (List.mem_of_getElem? (i := 18) rfl)) AJ)
    have F43_la := A.wrO W43 (own_neAA A AJ (by decide))
    have K43 : Keep _ h43 [a1, la, ca] := (Keep.refl h0 [a1, la, ca]).wr W43 (Or.inl (List.mem_of_getElem? (i := 2) rfl))
    refine own_retV X43 hx lk hret (hb hby d17_28) (by decide) (by decide) ?_
    rw [e43]
    exact ⟨rfl, N43, OL43, ⟨[a1, la, ca], K43, own_ws3 w1 w2 w3⟩, d, by omega, la, ca, n, _, _, _, _, _, _, F43_a1, F43_la, A43, own_low F0.lt w1, own_low A.lt w2, own_low AJ.lt w3, nb, nla, nca, by omega, by omega, by omega⟩
theorem d16_0 : decode prog_54_method_6_code 0 = .ok (.iload_n 2, 1) := by decide +kernel
theorem d16_1 : decode prog_54_method_6_code 1 = .ok (.ifCond .eq 11, 3) := by decide +kernel
theorem d16_4 : decode prog_54_method_6_code 4 = .ok (.aload_n 0, 1) := by decide +kernel
theorem d16_5 : decode prog_54_method_6_code 5 = .ok (.iload_n 1, 1) := by decide +kernel
theorem d16_6 : decode prog_54_method_6_code 6 = .ok (.invokevirtual 89, 3) := by decide +kernel
theorem d16_9 : decode prog_54_method_6_code 9 = .ok (.goto 14, 3) := by decide +kernel
theorem d16_12 : decode prog_54_method_6_code 12 = .ok (.aload_n 0, 1) := by decide +kernel
theorem d16_13 : decode prog_54_method_6_code 13 = .ok (.dup, 1) := by decide +kernel
theorem d16_14 : decode prog_54_method_6_code 14 = .ok (.getfield 35, 3) := by decide +kernel
theorem d16_17 : decode prog_54_method_6_code 17 = .ok (.iload_n 1, 1) := by decide +kernel
theorem d16_18 : decode prog_54_method_6_code 18 = .ok (.i2l, 1) := by decide +kernel
theorem d16_19 : decode prog_54_method_6_code 19 = .ok (.ladd, 1) := by decide +kernel
theorem d16_20 : decode prog_54_method_6_code 20 = .ok (.putfield 35, 3) := by decide +kernel
theorem d16_23 : decode prog_54_method_6_code 23 = .ok (.aload_n 0, 1) := by decide +kernel
theorem d16_24 : decode prog_54_method_6_code 24 = .ok (.ldc2_w 9, 3) := by decide +kernel
theorem d16_27 : decode prog_54_method_6_code 27 = .ok (.putfield 11, 3) := by decide +kernel
theorem d16_30 : decode prog_54_method_6_code 30 = .ok (.aload_n 0, 1) := by decide +kernel
theorem d16_31 : decode prog_54_method_6_code 31 = .ok (.ldc2_w 9, 3) := by decide +kernel
theorem d16_34 : decode prog_54_method_6_code 34 = .ok (.putfield 17, 3) := by decide +kernel
theorem d16_37 : decode prog_54_method_6_code 37 = .ok (.aload_n 0, 1) := by decide +kernel
theorem d16_38 : decode prog_54_method_6_code 38 = .ok (.ldc2_w 9, 3) := by decide +kernel
theorem d16_41 : decode prog_54_method_6_code 41 = .ok (.putfield 20, 3) := by decide +kernel
theorem d16_44 : decode prog_54_method_6_code 44 = .ok (.return_, 1) := by decide +kernel
theorem pn_16 : plainFor (⟨"com/example/revisit/revisit/policy/RateLikelihood", "add", "(IZ)V"⟩ : MethodName) = true := by first | exact plainFor_of_name (by first | (simp [plainName, overriddenIn]; done) | decide +kernel) | decide +kernel
theorem ef_16 (m : MethodId) (a1 : Addr) (p2 : Int32) (p3 : Int32) : entryFrame m #[(.ref a1), (.int p2), (.int p3)] 3 = mkF m 0 #[.val (.ref a1), .val (.int p2), .val (.int p3)] [] := by first | (simp [entryFrame, argsToLocals, Value.category, Array.replicate]; done) | rfl
theorem pd_16 : parseMethodDescriptor "(IZ)V" = some ⟨[.int, .boolean], none⟩ := by decide +kernel
def Q16 (Z : State) (a1 : Addr) (p2 : Int32) (p3 : Int32) (own : Addr → Nat) (i : Nat) (d : Nat) (h0 : Heap) (n0 : Nat) (v : Option Value) (h : Heap) (L : List Loc) : Prop := v = none ∧ Fr n0 L ∧ Old Z n0 h ∧ (∃ ws, Keep h0 h ws ∧ ∀ x ∈ ws, own x = i) ∧ ∃ d', d' ≤ d + 1 ∧ RLI Z h n0 (fun x => if h0.size ≤ x then i else own x) i a1 d'
theorem rm16 (l : Launch) (Z : State) (a0 : Array Value) (hw : ∀ d ∈ tables_1, d.before a0 Z = true) (ws : List Jvm.Cond) (a1 : Addr) (p2 : Int32) (p3 : Int32) (own : Addr → Nat) (i : Nat) (d : Nat) (h0 : Heap) (n0 : Nat) (Z0 : n0 ≤ h0.size) (OL : Old Z n0 h0) (R0 : RLI Z h0 n0 own i a1 d) (hd4 : d ≤ 4) :
    MetFree l (⟨"com/example/revisit/revisit/policy/RateLikelihood", "add", "(IZ)V"⟩ : MethodName) (head1 (Jvm.Cond.code (⟨"com/example/revisit/revisit/policy/RateLikelihood", "add", "(IZ)V"⟩ : MethodName) prog_54_method_6_code 3 (none) :: ws) ({ frames := 3, cells := 2, slots := 16, locals := 89 } : Room)) (fun a U => a = #[(.ref a1), (.int p2), (.int p3)] ∧ Z.Warmed39 U.vm ∧ U.heap = h0) (fun _ _ _ _ _ => True) (fun _ U o U' => ∃ v L, o = .returned v ∧ (Q16 Z a1 p2 p3 own i d h0 n0) v U'.heap L ∧ FrameEnd U o U' L ({ frames := 3, cells := 2, slots := 16, locals := 89 } : Room).cells ({ frames := 3, cells := 2, slots := 16, locals := 89 } : Room).slots) := by
  refine MetFree.of_bodySF pn_16 hisR ?_
  intro p e s m args below meth c s₁ Bd hml0 hP hK
  obtain ⟨rfl, hZ, hh⟩ := hP
  have hx := Bd.exec
  have hby := Bd.bytes
  have hml : c.maxLocals = 3 := hml0
  have hown : s.vm.findClass "com/example/revisit/revisit/policy/RateLikelihood" = some m.cls := findClass_of_methodNamed Bd.named
  have hnm := (name_of_methodNamed Bd.named Bd.method).1
  have X0 : Stand p l e ({ frames := 3, cells := 2, slots := 16, locals := 89 } : Room) s m #[(.ref a1), (.int p2), (.int p3)] below meth c s₁ [] 0 0 := Stand.of_body Bd
  have e0 : s₁.heap = h0 := by rw [← hh, Bd.state]; rfl
  have N0 := Fr.nil n0
  have lk : meth.locks = false := BodyLoose.notSynchronized Bd
  have hret := Bd.returns
  show Ends p e below (EF s ({ frames := 3, cells := 2, slots := 16, locals := 89 } : Room).cells ({ frames := 3, cells := 2, slots := 16, locals := 89 } : Room).slots) (Q16 Z a1 p2 p3 own i d h0 n0) (s₁.setTop (entryFrame m #[(.ref a1), (.int p2), (.int p3)] 3))
  refine Ends.cast (ef_16 m a1 p2 p3) ?_
  have R0' := R0
  obtain ⟨la, ca, n, g, gj, rx, ry, rz, ul, F0, A, AJ, w1, w2, w3, nb, nla, nca, hd1, hdn, hn8⟩ := R0
  refine own_iloadN (n := 1) X0 hx (hb hby d16_0) rfl rfl ?_
  by_cases c1 : p3 = 0
  · refine own_ifYes (n := 12) X0 hx (hb hby d16_1) (Jvm.Free.XT.i0_eq_t c1) (by decide) (by decide) ?_
    refine own_aloadN (n := 13) X0 hx (hb hby d16_12) rfl rfl rfl ?_
    refine own_dup (n := 14) X0 hx (hb hby d16_13) rfl rfl ?_
    refine own_getF (n := 17) X0 hx hZ hown (hw _ (List.mem_of_getElem? (i := 41) rfl)) e0 F0.2.2.2.2.2.2.2 (hb hby d16_14) rfl ?_
    intro T1 X1 e1
    refine own_iloadN (n := 18) X1 hx (hb hby d16_17) rfl rfl ?_
    refine own_i2l (n := 19) X1 hx (hb hby d16_18) rfl ?_
    refine own_ladd (n := 20) X1 hx (hb hby d16_19) rfl ?_
    refine own_putF (n := 23) X1 hx hZ hown (hw _ (List.mem_of_getElem? (i := 41) rfl)) e1 F0.2.2.2.2.2.2.2 F0.1 (Or.inl (hw _ (List.mem_of_getElem? (i := 42) rfl))) (hw _ (List.mem_of_getElem? (i := 18) rfl)) (ty := .long) (by decide) rfl rfl (hb hby d16_20) rfl ?_
    intro T2 h2 X2 e2 W2
    have N2 := Fr.snoc X2 N0 nb
    have Z2 : n0 ≤ h2.size := Nat.le_trans Z0 (Keep.of_wr W2).1
    have OL2 := OL.wr W2 nb
    have F2_a1 := F0.set_unchangedLength hw W2
    have F2_la := A.wrO W2 (Ne.symm (own_neOA F0.1 (hw _ (List.mem_of_getElem? (i := 18) rfl)) A))
    have F2_ca := AJ.wrO W2 (Ne.symm (own_neOA F0.1 (hw _ (List.mem_of_getElem? (i := 18) rfl)) AJ))
    have K2 : Keep _ h2 [a1] := (Keep.refl h0 [a1]).wr W2 (Or.inl (List.mem_of_getElem? (i := 0) rfl))
    refine own_aloadN (n := 24) X2 hx (hb hby d16_23) rfl rfl rfl ?_
    refine own_ldcD (n := 27) X2 hx hZ hown (hw _ (List.mem_of_getElem? (i := 26) rfl)) (hb hby d16_24) rfl ?_
    refine own_putF (n := 30) X2 hx hZ hown (hw _ (List.mem_of_getElem? (i := 27) rfl)) e2 F2_a1.2.1 F2_a1.1 (Or.inl (hw _ (List.mem_of_getElem? (i := 28) rfl))) (hw _ (List.mem_of_getElem? (i := 18) rfl)) (ty := .double) (by decide) rfl rfl (hb hby d16_27) rfl ?_
    intro T3 h3 X3 e3 W3
    have N3 := Fr.snoc X3 N2 nb
    have Z3 : n0 ≤ h3.size := Nat.le_trans Z2 (Keep.of_wr W3).1
    have OL3 := OL2.wr W3 nb
    have F3_a1 := F2_a1.set_rate hw W3
    have F3_la := F2_la.wrO W3 (Ne.symm (own_neOA F2_a1.1 (hw _ (List.mem_of_getElem? (i := 18) rfl)) F2_la))
    have F3_ca := F2_ca.wrO W3 (Ne.symm (own_neOA F2_a1.1 (hw _ (List.mem_of_getElem? (i := 18) rfl)) F2_ca))
    have K3 : Keep _ h3 [a1] := K2.wr W3 (Or.inl (List.mem_of_getElem? (i := 0) rfl))
    refine own_aloadN (n := 31) X3 hx (hb hby d16_30) rfl rfl rfl ?_
    refine own_ldcD (n := 34) X3 hx hZ hown (hw _ (List.mem_of_getElem? (i := 26) rfl)) (hb hby d16_31) rfl ?_
    refine own_putF (n := 37) X3 hx hZ hown (hw _ (List.mem_of_getElem? (i := 29) rfl)) e3 F3_a1.2.2.1 F3_a1.1 (Or.inl (hw _ (List.mem_of_getElem? (i := 30) rfl))) (hw _ (List.mem_of_getElem? (i := 18) rfl)) (ty := .double) (by decide) rfl rfl (hb hby d16_34) rfl ?_
    intro T4 h4 X4 e4 W4
    have N4 := Fr.snoc X4 N3 nb
    have Z4 : n0 ≤ h4.size := Nat.le_trans Z3 (Keep.of_wr W4).1
    have OL4 := OL3.wr W4 nb
    have F4_a1 := F3_a1.set_lowRate hw W4
    have F4_la := F3_la.wrO W4 (Ne.symm (own_neOA F3_a1.1 (hw _ (List.mem_of_getElem? (i := 18) rfl)) F3_la))
    have F4_ca := F3_ca.wrO W4 (Ne.symm (own_neOA F3_a1.1 (hw _ (List.mem_of_getElem? (i := 18) rfl)) F3_ca))
    have K4 : Keep _ h4 [a1] := K3.wr W4 (Or.inl (List.mem_of_getElem? (i := 0) rfl))
    refine own_aloadN (n := 38) X4 hx (hb hby d16_37) rfl rfl rfl ?_
    refine own_ldcD (n := 41) X4 hx hZ hown (hw _ (List.mem_of_getElem? (i := 26) rfl)) (hb hby d16_38) rfl ?_
    refine own_putF (n := 44) X4 hx hZ hown (hw _ (List.mem_of_getElem? (i := 31) rfl)) e4 F4_a1.2.2.2.1 F4_a1.1 (Or.inl (hw _ (List.mem_of_getElem? (i := 32) rfl))) (hw _ (List.mem_of_getElem? (i := 18) rfl)) (ty := .double) (by decide) rfl rfl (hb hby d16_41) rfl ?_
    intro T5 h5 X5 e5 W5
    have N5 := Fr.snoc X5 N4 nb
    have Z5 : n0 ≤ h5.size := Nat.le_trans Z4 (Keep.of_wr W5).1
    have OL5 := OL4.wr W5 nb
    have F5_a1 := F4_a1.set_highRate hw W5
    have F5_la := F4_la.wrO W5 (Ne.symm (own_neOA F4_a1.1 (hw _ (List.mem_of_getElem? (i := 18) rfl)) F4_la))
    have F5_ca := F4_ca.wrO W5 (Ne.symm (own_neOA F4_a1.1 (hw _ (List.mem_of_getElem? (i := 18) rfl)) F4_ca))
    have K5 : Keep _ h5 [a1] := K4.wr W5 (Or.inl (List.mem_of_getElem? (i := 0) rfl))
    refine own_retV X5 hx lk hret (hb hby d16_44) (by decide) (by decide) ?_
    rw [e5]
    exact ⟨rfl, N5, OL5, ⟨[a1], K5, fun x hx => by cases List.mem_singleton.mp hx; exact w1⟩, d, by omega, la, ca, n, _, _, _, _, _, _, F5_a1, F5_la, F5_ca, own_low F0.lt w1, own_low A.lt w2, own_low AJ.lt w3, nb, nla, nca, hd1, hdn, hn8⟩
  · refine own_ifNo (n := 4) X0 hx (hb hby d16_1) (Jvm.Free.XT.i0_eq_f c1) rfl ?_
    refine own_aloadN (n := 5) X0 hx (hb hby d16_4) rfl rfl rfl ?_
    refine own_iloadN (n := 6) X0 hx (hb hby d16_5) rfl rfl ?_
    refine own_callP (n := 9) X0 hx hZ hown (hw _ (List.mem_of_getElem? (i := 112) rfl)) (hw _ (List.mem_of_getElem? (i := 113) rfl)) (hw _ (List.mem_of_getElem? (i := 114) rfl)) (hw _ (List.mem_of_getElem? (i := 109) rfl)) rfl (hw _ (List.mem_of_getElem? (i := 19) rfl)) (hw _ (List.mem_of_getElem? (i := 115) rfl)) (by decide) e0 F0.1 (rm17 l Z a0 hw [] a1 p2 own i d h0 n0 Z0 OL R0' hd4) (W := 0) (by decide) (by decide) (by decide) (by decide) (by rw [hml]; rfl) (argsL := [(.int p2)]) (rest := []) pd_17 rfl (by rfl) (Nat.le_of_eq rfl) (hb hby d16_6) rfl rfl ?_
    intro v6 T6 h6 L6 X6 e6 q6
    obtain ⟨rfl, M6, OL6, ⟨ws, KA, hws⟩, d', hd', lb, cb, m', gq, gr, sx, sy, sz, um, F6, A6, AJ6, x1, x2, x3, -, y2, y3, z1, z2, z3⟩ := q6
    have N6 := Fr.app N0 M6
    have Z6 := own_oldz OL6
    refine own_goto (n := 23) X6 hx (hb hby d16_9) (by decide) (by decide) ?_
    refine own_aloadN (n := 24) X6 hx (hb hby d16_23) rfl rfl rfl ?_
    refine own_ldcD (n := 27) X6 hx hZ hown (hw _ (List.mem_of_getElem? (i := 26) rfl)) (hb hby d16_24) rfl ?_
    refine own_putF (n := 30) X6 hx hZ hown (hw _ (List.mem_of_getElem? (i := 27) rfl)) e6 F6.2.1 F6.1 (Or.inl (hw _ (List.mem_of_getElem? (i := 28) rfl))) (hw _ (List.mem_of_getElem? (i := 18) rfl)) (ty := .double) (by decide) rfl rfl (hb hby d16_27) rfl ?_
    intro T7 h7 X7 e7 W7
    have N7 := Fr.snoc X7 N6 nb
    have Z7 : n0 ≤ h7.size := Nat.le_trans Z6 (Keep.of_wr W7).1
    have OL7 := OL6.wr W7 nb
    have F7_a1 := F6.set_rate hw W7
    have F7_lb := A6.wrO W7 (Ne.symm (own_neOA F6.1 (hw _ (List.mem_of_getElem? (i := 18) rfl)) A6))
    have F7_cb := AJ6.wrO W7 (Ne.symm (own_neOA F6.1 (hw _ (List.mem_of_getElem? (i := 18) rfl)) AJ6))
    have K7 : Keep _ h7 [a1] := (Keep.refl h6 [a1]).wr W7 (Or.inl (List.mem_of_getElem? (i := 0) rfl))
    refine own_aloadN (n := 31) X7 hx (hb hby d16_30) rfl rfl rfl ?_
    refine own_ldcD (n := 34) X7 hx hZ hown (hw _ (List.mem_of_getElem? (i := 26) rfl)) (hb hby d16_31) rfl ?_
    refine own_putF (n := 37) X7 hx hZ hown (hw _ (List.mem_of_getElem? (i := 29) rfl)) e7 F7_a1.2.2.1 F7_a1.1 (Or.inl (hw _ (List.mem_of_getElem? (i := 30) rfl))) (hw _ (List.mem_of_getElem? (i := 18) rfl)) (ty := .double) (by decide) rfl rfl (hb hby d16_34) rfl ?_
    intro T8 h8 X8 e8 W8
    have N8 := Fr.snoc X8 N7 nb
    have Z8 : n0 ≤ h8.size := Nat.le_trans Z7 (Keep.of_wr W8).1
    have OL8 := OL7.wr W8 nb
    have F8_a1 := F7_a1.set_lowRate hw W8
    have F8_lb := F7_lb.wrO W8 (Ne.symm (own_neOA F7_a1.1 (hw _ (List.mem_of_getElem? (i := 18) rfl)) F7_lb))
    have F8_cb := F7_cb.wrO W8 (Ne.symm (own_neOA F7_a1.1 (hw _ (List.mem_of_getElem? (i := 18) rfl)) F7_cb))
    have K8 : Keep _ h8 [a1] := K7.wr W8 (Or.inl (List.mem_of_getElem? (i := 0) rfl))
    refine own_aloadN (n := 38) X8 hx (hb hby d16_37) rfl rfl rfl ?_
    refine own_ldcD (n := 41) X8 hx hZ hown (hw _ (List.mem_of_getElem? (i := 26) rfl)) (hb hby d16_38) rfl ?_
    refine own_putF (n := 44) X8 hx hZ hown (hw _ (List.mem_of_getElem? (i := 31) rfl)) e8 F8_a1.2.2.2.1 F8_a1.1 (Or.inl (hw _ (List.mem_of_getElem? (i := 32) rfl))) (hw _ (List.mem_of_getElem? (i := 18) rfl)) (ty := .double) (by decide) rfl rfl (hb hby d16_41) rfl ?_
    intro T9 h9 X9 e9 W9
    have N9 := Fr.snoc X9 N8 nb
    have Z9 : n0 ≤ h9.size := Nat.le_trans Z8 (Keep.of_wr W9).1
    have OL9 := OL8.wr W9 nb
    have F9_a1 := F8_a1.set_highRate hw W9
    have F9_lb := F8_lb.wrO W9 (Ne.symm (own_neOA F8_a1.1 (hw _ (List.mem_of_getElem? (i := 18) rfl)) F8_lb))
    have F9_cb := F8_cb.wrO W9 (Ne.symm (own_neOA F8_a1.1 (hw _ (List.mem_of_getElem? (i := 18) rfl)) F8_cb))
    have K9 : Keep _ h9 [a1] := K8.wr W9 (Or.inl (List.mem_of_getElem? (i := 0) rfl))
    refine own_retV X9 hx lk hret (hb hby d16_44) (by decide) (by decide) ?_
    rw [e9]
    exact ⟨rfl, N9, OL9, ⟨a1 :: ws, (own_kmono KA (fun x hx => List.mem_cons_of_mem _ hx)).trans K9 (fun z hz => by cases List.mem_singleton.mp hz; exact Or.inl (List.mem_cons_self ..)), fun x hx => (List.mem_cons.mp hx).elim (fun z => by rw [z]; exact w1) (hws x)⟩, d', hd', lb, cb, m', _, _, _, _, _, _, F9_a1, F9_lb, F9_cb, x1, x2, x3, nb, y2, y3, z1, z2, z3⟩
theorem own_fit {A B : Nat} (hB : 0 < B) (h : A ≤ 9223372036854775808 * B) : ∃ c q, FP.Core.roundRatio FP.Core.b64 false A B 0 = .fin false c q := by
  rcases FP.Core.roundRatio_cases FP.Core.b64 false A B 0 with z | z
  · exact z
  · exfalso
    have hV : FP.Core.fits FP.Core.b64 (.fin false (2 ^ 52) 11) := by refine ⟨?_, ?_, ?_, Or.inr ?_⟩ <;> decide +kernel
    have q := FP.Core.zmag_roundRatio_le FP.Core.good_b64 (s := false) (A := A) (B := B) (e := 0) (e0 := FP.Core.b64.qmin) (V := .fin false (2 ^ 52) 11) hB hV (by simp) (Int.le_refl _) (by decide +kernel) (by
      have e1 : FP.Core.inUnits A 0 FP.Core.b64.qmin = A * 2 ^ (0 - FP.Core.b64.qmin).toNat := rfl
      have e2 : FP.Core.zmag FP.Core.b64 (.fin false (2 ^ 52) 11) * 2 ^ (FP.Core.b64.qmin - FP.Core.b64.qmin).toNat * B = (9223372036854775808 * B) * 2 ^ (0 - FP.Core.b64.qmin).toNat := by
        have e3 : FP.Core.zmag FP.Core.b64 (.fin false (2 ^ 52) 11) * 2 ^ (FP.Core.b64.qmin - FP.Core.b64.qmin).toNat = 9223372036854775808 * 2 ^ (0 - FP.Core.b64.qmin).toNat := by decide +kernel
        rw [e3, Nat.mul_right_comm]
      rw [e1, e2]
      exact Nat.mul_le_mul_right _ h)
    rw [z] at q
    exact absurd q (by decide +kernel)
theorem own_mono {A1 B1 A2 B2 c1 c2 : Nat} {q1 q2 : Int} (h1 : 0 < B1) (h2 : 0 < B2) (hle : A1 * B2 ≤ A2 * B1) (R1 : FP.Core.roundRatio FP.Core.b64 false A1 B1 0 = .fin false c1 q1) (R2 : FP.Core.roundRatio FP.Core.b64 false A2 B2 0 = .fin false c2 q2) : FP.Core.zmag FP.Core.b64 (.fin false c1 q1) ≤ FP.Core.zmag FP.Core.b64 (.fin false c2 q2) := by
  have F1 := FP.Core.roundRatio_fits FP.Core.good_b64 false A1 h1 0
  have F2 := FP.Core.roundRatio_fits FP.Core.good_b64 false A2 h2 0
  rw [R1] at F1
  rw [R2] at F2
  have hz : FP.Core.b64.qmin ≤ 0 := by decide +kernel
  have L := FP.Core.zmag_roundRatio_le FP.Core.good_b64 (s := false) (A := A1) (B := B1) (e := 0) (e0 := FP.Core.b64.qmin) (V := .fin false c2 q2) h1 F2 (by simp) (Int.le_refl _) hz
  have G := FP.Core.zmag_roundRatio_ge FP.Core.good_b64 (s := false) (A := A2) (B := B2) (e := 0) (e0 := FP.Core.b64.qmin) (V := .fin false c1 q1) h2 F1 (Int.le_refl _) hz
  have d1 := FP.Core.roundRatio_nearest FP.Core.good_b64 h1 R1 F2.1 F2.2.1 (Int.le_refl _) hz
  have d2 := FP.Core.roundRatio_nearest FP.Core.good_b64 h2 R2 F1.1 F1.2.1 (Int.le_refl _) hz
  have e0 : 2 ^ (FP.Core.b64.qmin - FP.Core.b64.qmin).toNat = 1 := by decide +kernel
  rw [R1, e0, Nat.mul_one] at L
  rw [R2, e0, Nat.mul_one] at G
  unfold FP.Core.distance at d1 d2
  rw [show FP.Core.inUnits c1 q1 FP.Core.b64.qmin = FP.Core.zmag FP.Core.b64 (.fin false c1 q1) from rfl, show FP.Core.inUnits c2 q2 FP.Core.b64.qmin = FP.Core.zmag FP.Core.b64 (.fin false c2 q2) from rfl] at d1 d2
  rw [show FP.Core.inUnits A1 0 FP.Core.b64.qmin = A1 * 2 ^ (0 - FP.Core.b64.qmin).toNat from rfl] at L d1
  rw [show FP.Core.inUnits A2 0 FP.Core.b64.qmin = A2 * 2 ^ (0 - FP.Core.b64.qmin).toNat from rfl] at G d2
  have same : A1 * B2 = A2 * B1 → FP.Core.zmag FP.Core.b64 (.fin false c1 q1) = FP.Core.zmag FP.Core.b64 (.fin false c2 q2) := fun e => by
    have z := FP.Core.roundRatio_congr (f := FP.Core.b64) (s := false) (A := A1) (B := B1) (A' := A2) (B' := B2) (e := 0) (e' := 0) h1 h2 (by rw [e])
    rw [R1, R2] at z
    rw [z]
  generalize FP.Core.zmag FP.Core.b64 (.fin false c1 q1) = v1 at *
  generalize FP.Core.zmag FP.Core.b64 (.fin false c2 q2) = v2 at *
  have hU : 0 < 2 ^ (0 - FP.Core.b64.qmin).toNat := Nat.two_pow_pos _
  generalize 2 ^ (0 - FP.Core.b64.qmin).toNat = U at *
  refine Nat.le_of_not_lt fun hlt => ?_
  have x1 : ¬ A1 * U ≤ v2 * B1 := fun z => absurd (L z) (Nat.not_le.mpr hlt)
  have x2 : ¬ v1 * B2 ≤ A2 * U := fun z => absurd (G z) (Nat.not_le.mpr hlt)
  rw [← Int.natCast_mul, ← Int.natCast_mul] at d1 d2
  have k1 : v2 * B1 < v1 * B1 := Nat.mul_lt_mul_of_pos_right hlt h1
  have k2 : v2 * B2 < v1 * B2 := Nat.mul_lt_mul_of_pos_right hlt h2
  have i1 : v1 * B1 + v2 * B1 ≤ 2 * (A1 * U) := by omega
  have i2 : 2 * (A2 * U) ≤ v1 * B2 + v2 * B2 := by omega
  have j1 := Nat.mul_le_mul_right B2 i1
  have j2 := Nat.mul_le_mul_right B1 i2
  have j3 : (v1 * B1 + v2 * B1) * B2 = (v1 * B2 + v2 * B2) * B1 := by
    rw [Nat.add_mul, Nat.add_mul, Nat.mul_right_comm v1 B1 B2, Nat.mul_right_comm v2 B1 B2]
  have j4 : 2 * (A1 * U) * B2 = 2 * U * (A1 * B2) := by ac_rfl
  have j5 : 2 * (A2 * U) * B1 = 2 * U * (A2 * B1) := by ac_rfl
  have j6 : 2 * U * (A2 * B1) ≤ 2 * U * (A1 * B2) := by omega
  have j7 : A2 * B1 ≤ A1 * B2 := Nat.le_of_mul_le_mul_left j6 (by omega)
  have := same (Nat.le_antisymm hle j7)
  omega
theorem own_lead {n m : Nat} (hn : 0 < n) (hn2 : n < 2 ^ 41) (hm : 0 < m) (hm2 : m < 2 ^ 32) : -40 ≤ FP.Core.leading n m ∧ FP.Core.leading n m ≤ 41 := by
  have l1 : n.log2 < 41 := (Nat.log2_lt (by omega)).mpr hn2
  have l2 : m.log2 < 32 := (Nat.log2_lt (by omega)).mpr hm2
  unfold FP.Core.leading
  dsimp only
  split <;> omega
theorem own_scale {n m : Nat} (hn : 0 < n) (hn2 : n < 2 ^ 41) (hm : 0 < m) (hm2 : m < 2 ^ 32) : ∃ c q, FP.Core.roundRatio FP.Core.b64 false n m 0 = .fin false c q ∧ FP.Core.roundRatio FP.Core.b64 false (n * 4194304) m 0 = .fin false c (q + 22) := by
  have e1 : FP.Core.roundRatio FP.Core.b64 false (n * 4194304) m 0 = FP.Core.roundRatio FP.Core.b64 false n m 22 := FP.Core.roundRatio_congr hm hm (by
    rw [show ((0 : Int) - 22).toNat = 0 from rfl, show ((22 : Int) - 0).toNat = 22 from rfl, Nat.pow_zero, Nat.mul_one, Nat.mul_right_comm])
  obtain ⟨l1, l2⟩ := own_lead hn hn2 hm hm2
  have hq : FP.Core.quantum FP.Core.b64 n m 22 = FP.Core.quantum FP.Core.b64 n m 0 + 22 ∧ -100 ≤ FP.Core.quantum FP.Core.b64 n m 0 ∧ FP.Core.quantum FP.Core.b64 n m 0 ≤ 0 := by
    unfold FP.Core.quantum
    rw [show FP.Core.b64.qmin = -1074 from FP.Core.qmin_b64, show ((FP.Core.b64.p : Int)) = 53 from rfl]
    omega
  have hmax : FP.Core.b64.qmax = 971 := by decide +kernel
  rw [e1]
  unfold FP.Core.roundRatio
  rw [if_neg (by omega), if_neg (by omega), hq.1]
  generalize FP.Core.quantum FP.Core.b64 n m 0 = Q at hq ⊢
  unfold FP.Core.roundAt FP.Core.unitsNum FP.Core.unitsDen
  rw [show (22 - (Q + 22)).toNat = (0 - Q).toNat by omega, show (Q + 22 - 22).toNat = (Q - 0).toNat by omega]
  generalize FP.Core.nearest (n * 2 ^ (0 - Q).toNat) (m * 2 ^ (Q - 0).toNat) = K
  unfold FP.Core.settle FP.Core.bound
  rw [hmax]
  by_cases hk : K < 2 ^ FP.Core.b64.p
  · rw [if_pos hk, if_pos hk, if_pos (by omega), if_pos (by omega)]
    exact ⟨_, _, rfl, rfl⟩
  · rw [if_neg hk, if_neg hk, if_pos (by omega), if_pos (by omega)]
    exact ⟨_, _, rfl, by rw [show Q + 22 + 1 = Q + 1 + 22 by omega]⟩
theorem own_whole {a : Int64} {n : Nat} (h : a.toInt = (n : Int)) (hn : 0 < n) (hs : n < 9007199254740992) : ∃ c q, FP.Core.val64 (FP.Core.l2d a) = .fin false c q ∧ 0 < c ∧ c * 2 ^ q.toNat = n * 2 ^ (-q).toNat := by
  have w := FP.Core.l2d_whole (a := a) ⟨by omega, by omega⟩
  obtain ⟨c, q, e⟩ := FP.Core.l2d_shape a
  rw [show decide (a.toInt < 0) = false from decide_eq_false (by omega)] at e
  rw [e] at w
  have w' : ((c * 2 ^ q.toNat : Nat) : Int) = a.toInt * ((2 ^ (-q).toNat : Nat) : Int) := w
  rw [h, ← Int.natCast_mul] at w'
  have w2 := Int.ofNat.inj w'
  refine ⟨c, q, e, ?_, w2⟩
  rcases Nat.eq_zero_or_pos c with z | z
  · rw [z, Nat.zero_mul] at w2
    exact absurd w2.symm (Nat.ne_of_gt (Nat.mul_pos hn (Nat.two_pow_pos _)))
  · exact z
theorem own_quo {a b : Int64} {n m : Nat} (ha : a.toInt = (n : Int)) (hb : b.toInt = (m : Int)) (hn : 0 < n) (hn2 : n < 9007199254740992) (hm : 0 < m) (hm2 : m < 9007199254740992) : FP.Core.val64 (FP.Core.ddiv (FP.Core.l2d a) (FP.Core.l2d b)) = FP.Core.roundRatio FP.Core.b64 false n m 0 := by
  obtain ⟨cA, qA, eA, pA, wA⟩ := own_whole ha hn hn2
  obtain ⟨cB, qB, eB, pB, wB⟩ := own_whole hb hm hm2
  rw [FP.Core.val64_ddiv, eA, eB]
  show (if cB = 0 then _ else FP.Core.roundRatio FP.Core.b64 (false != false) cA cB (qA - qB)) = _
  rw [if_neg (by omega)]
  show FP.Core.roundRatio FP.Core.b64 false cA cB (qA - qB) = _
  refine FP.Core.roundRatio_congr pB hm ?_
  have hp : 0 < 2 ^ qA.toNat * 2 ^ qB.toNat := Nat.mul_pos (Nat.two_pow_pos _) (Nat.two_pow_pos _)
  refine Nat.eq_of_mul_eq_mul_right hp ?_
  have s1 : cA * m * 2 ^ (qA - qB - 0).toNat * (2 ^ qA.toNat * 2 ^ qB.toNat) = (cA * 2 ^ qA.toNat) * m * (2 ^ qB.toNat * 2 ^ (qA - qB - 0).toNat) := by ac_rfl
  have s2 : n * cB * 2 ^ (0 - (qA - qB)).toNat * (2 ^ qA.toNat * 2 ^ qB.toNat) = n * (cB * 2 ^ qB.toNat) * (2 ^ qA.toNat * 2 ^ (0 - (qA - qB)).toNat) := by ac_rfl
  rw [s1, s2, wA, wB]
  have s3 : n * 2 ^ (-qA).toNat * m * (2 ^ qB.toNat * 2 ^ (qA - qB - 0).toNat) = n * m * (2 ^ (-qA).toNat * 2 ^ qB.toNat * 2 ^ (qA - qB - 0).toNat) := by ac_rfl
  have s4 : n * (m * 2 ^ (-qB).toNat) * (2 ^ qA.toNat * 2 ^ (0 - (qA - qB)).toNat) = n * m * (2 ^ (-qB).toNat * 2 ^ qA.toNat * 2 ^ (0 - (qA - qB)).toNat) := by ac_rfl
  rw [s3, s4, ← Nat.pow_add, ← Nat.pow_add, ← Nat.pow_add, ← Nat.pow_add]
  congr 2
  omega
theorem own_up {x : UInt64} {n m : Nat} (hx : FP.Core.val64 x = FP.Core.roundRatio FP.Core.b64 false n m 0) (hn : 0 < n) (hn2 : n < 2 ^ 41) (hm : 0 < m) (hm2 : m < 2 ^ 32) : FP.Core.val64 (FP.Core.dmul x 4706261610602168320) = FP.Core.roundRatio FP.Core.b64 false (n * 4194304) m 0 := by
  obtain ⟨c, q, e1, e2⟩ := own_scale hn hn2 hm hm2
  have F := FP.Core.roundRatio_fits FP.Core.good_b64 false (n * 4194304) hm 0
  rw [e2] at F
  rw [FP.Core.val64_dmul, hx, e1, e2, show FP.Core.val64 4706261610602168320 = .fin false (2 ^ 52) (-30) by decide +kernel]
  show FP.Core.roundRatio FP.Core.b64 false (c * 2 ^ 52) 1 (q + -30) = _
  refine FP.Core.roundRatio_exact FP.Core.good_b64 (by decide) F ?_
  rw [show (q + -30 - (q + 22)).toNat = 0 by omega, show (q + 22 - (q + -30)).toNat = 52 by omega, Nat.pow_zero, Nat.mul_one, Nat.mul_one]
theorem own_vl2d {a : Int64} {n : Nat} (h : a.toInt = (n : Int)) : FP.Core.val64 (FP.Core.l2d a) = FP.Core.roundRatio FP.Core.b64 false n 1 0 := by
  rw [FP.Core.val64_l2d, h]
  show FP.Core.roundRatio FP.Core.b64 (decide ((n : Int) < 0)) ((n : Int)).natAbs 1 0 = _
  rw [show decide ((n : Int) < 0) = false from decide_eq_false (by omega), Int.natAbs_natCast]
theorem own_cmpLe {x y : UInt64} {A1 B1 A2 B2 : Nat} (hx : FP.Core.val64 x = FP.Core.roundRatio FP.Core.b64 false A1 B1 0) (hy : FP.Core.val64 y = FP.Core.roundRatio FP.Core.b64 false A2 B2 0) (h1 : 0 < B1) (h2 : 0 < B2) (b1 : A1 ≤ 9223372036854775808 * B1) (b2 : A2 ≤ 9223372036854775808 * B2) (hle : A1 * B2 ≤ A2 * B1) : FP.Core.dcmp x y = some .lt ∨ FP.Core.dcmp x y = some .eq := by
  obtain ⟨c1, q1, e1⟩ := own_fit h1 b1
  obtain ⟨c2, q2, e2⟩ := own_fit h2 b2
  have M := own_mono h1 h2 hle e1 e2
  rw [FP.Core.dcmp_zval (by rw [hx, e1]; simp) (by rw [hy, e2]; simp), hx, hy, e1, e2]
  have M' : FP.Core.zval FP.Core.b64 (.fin false c1 q1) ≤ FP.Core.zval FP.Core.b64 (.fin false c2 q2) := Int.ofNat_le.mpr M
  rcases Int.lt_or_eq_of_le M' with z | z
  · exact Or.inl (congrArg some ((FP.Core.compare_lt_iff _ _).mpr z))
  · exact Or.inr (congrArg some ((FP.Core.compare_eq_iff _ _).mpr z))
theorem own_cmpEq {x y : UInt64} {A1 B1 A2 B2 : Nat} (hx : FP.Core.val64 x = FP.Core.roundRatio FP.Core.b64 false A1 B1 0) (hy : FP.Core.val64 y = FP.Core.roundRatio FP.Core.b64 false A2 B2 0) (h1 : 0 < B1) (h2 : 0 < B2) (he : A1 * B2 = A2 * B1) : FP.Core.dcmp x y = some .eq := by
  have z : FP.Core.val64 x = FP.Core.val64 y := by
    rw [hx, hy]
    exact FP.Core.roundRatio_congr h1 h2 (by rw [he])
  have nx : FP.Core.val64 x ≠ .nan := by rw [hx]; exact FP.Core.roundRatio_ne_nan _ _ _ _ _
  rw [FP.Core.dcmp_zval nx (by rw [← z]; exact nx), z]
  exact congrArg some ((FP.Core.compare_eq_iff _ _).mpr rfl)
theorem own_nn {x : UInt64} {A B : Nat} (h : FP.Core.val64 x = FP.Core.roundRatio FP.Core.b64 false A B 0) : Jvm.Free.Fl.NoNaN64 x := Jvm.Free.Fl.noNaN64_no.mpr ((FP.Core.notNaN_iff x).mpr (by rw [h]; exact FP.Core.roundRatio_ne_nan _ _ _ _ _))
theorem own_cz {aa : Int64} {dx : UInt64} (zx : dx = FP.l2d aa) (u0 : 0 ≤ aa.toInt) (u1 : aa.toInt ≤ 2147483648) : cmpValue (FP.dcmp dx (0 : UInt64)) .l = 0 ↔ aa = 0 := by
  rw [zx, ← Jvm.RoadKit.l2d_zero, Jvm.RoadKit.dcmp_ws (a := aa) (b := 0) ⟨by omega, by omega⟩ ⟨by decide, by decide⟩]
  have z0 : (0 : Int64).toInt = 0 := rfl
  rw [z0, if_neg (by omega)]
  by_cases q : aa.toInt = 0
  · rw [if_pos q]
    exact ⟨fun _ => Int64.toInt_inj.mp (q.trans z0.symm), fun _ => rfl⟩
  · rw [if_neg q]
    exact ⟨fun z => absurd z (by decide), fun z => absurd (by rw [z]; rfl) q⟩
theorem own_e1 {aa : Int64} {dx : UInt64} {dd : Int32} (zx : dx = FP.l2d aa) (u0 : 0 ≤ aa.toInt) (u1 : aa.toInt ≤ 1048576) (na : ¬ aa = 0) (d0 : 0 < dd.toInt) (d1 : dd.toInt ≤ 1048576) : FP.dmul dx (FP.i2d dd) = FP.l2d (aa * dd.toInt64) ∧ (aa * dd.toInt64).toInt = aa.toInt * dd.toInt ∧ 0 < aa.toInt * dd.toInt ∧ aa.toInt * dd.toInt ≤ 1099511627776 := by
  have e := Jvm.RoadKit.c_i2l dd
  have z0 : (0 : Int64).toInt = 0 := rfl
  have pa : 0 < aa.toInt := by
    have : ¬ aa.toInt = 0 := fun q => na (Int64.toInt_inj.mp (q.trans z0.symm))
    omega
  have p1 : 0 < aa.toInt * dd.toInt := Int.mul_pos pa d0
  have p2 : aa.toInt * dd.toInt ≤ 1048576 * 1048576 := Int.mul_le_mul u1 d1 (by omega) (by omega)
  have p3 : aa.toInt * dd.toInt64.toInt = aa.toInt * dd.toInt := by rw [e]
  refine ⟨?_, ?_, p1, by omega⟩
  · rw [zx, Jvm.RoadKit.i2d_w]
    exact Jvm.RoadKit.dmul_w ⟨by omega, by omega⟩ ⟨by omega, by omega⟩ na (fun q => by rw [q] at e; omega) (by omega) (by omega)
  · rw [FP.Core.int64_mul (by omega) (by omega), e]
theorem own_e2 {pp : Int32} (h : 0 ≤ pp.toInt) : FP.dadd (FP.i2d pp) (4607182418800017408 : UInt64) = FP.l2d (pp.toInt64 + 1) ∧ (pp.toInt64 + 1).toInt = pp.toInt + 1 := by
  have e := Jvm.RoadKit.c_i2l pp
  have r := own_rngI pp
  have o : (1 : Int64).toInt = 1 := rfl
  refine ⟨?_, ?_⟩
  · rw [Jvm.RoadKit.i2d_w, show (4607182418800017408 : UInt64) = FP.l2d 1 by decide +kernel]
    exact Jvm.RoadKit.dadd_w ⟨by omega, by omega⟩ ⟨by decide, by decide⟩
  · rw [FP.Core.int64_add (by omega) (by omega), e, o]
theorem own_nnq {a b : Int64} (ha : 0 < a.toInt) (ha2 : a.toInt ≤ 1099511627776) (hb : 0 < b.toInt) (hb2 : b.toInt ≤ 2147483648) : Jvm.Free.Fl.NoNaN64 (FP.ddiv (FP.l2d a) (FP.l2d b)) := own_nn (own_quo (a := a) (b := b) (n := a.toInt.toNat) (m := b.toInt.toNat) (by omega) (by omega) (by omega) (by omega) (by omega) (by omega))
theorem own_quo0 {a b : Int64} {n m : Nat} (ha : a.toInt = (n : Int)) (hb : b.toInt = (m : Int)) (hn2 : n < 9007199254740992) (hm : 0 < m) (hm2 : m < 9007199254740992) : FP.Core.val64 (FP.Core.ddiv (FP.Core.l2d a) (FP.Core.l2d b)) = FP.Core.roundRatio FP.Core.b64 false n m 0 := by
  rcases Nat.eq_zero_or_pos n with z | z
  · subst z
    have e0 : a = 0 := Int64.toInt_inj.mp (ha.trans rfl)
    obtain ⟨cB, qB, eB, pB, wB⟩ := own_whole hb hm hm2
    rw [e0, FP.Core.val64_ddiv, eB, show FP.Core.val64 (FP.Core.l2d 0) = .fin false 0 FP.Core.b64.qmin by decide +kernel]
    show (if cB = 0 then _ else FP.Core.roundRatio FP.Core.b64 (false != false) 0 cB (FP.Core.b64.qmin - qB)) = _
    rw [if_neg (by omega)]
    rfl
  · exact own_quo ha hb z hn2 hm hm2
def DSP (c l : Int32) : UInt64 := FP.ddiv (FP.l2d (c.toInt64 * c.toInt64)) (FP.l2d (l.toInt64 + 1))
theorem own_sq {c : Int32} (h0 : 0 ≤ c.toInt) (h2 : c.toInt ≤ 2) : FP.dmul (FP.i2d c) (FP.i2d c) = FP.l2d (c.toInt64 * c.toInt64) ∧ (c.toInt64 * c.toInt64).toInt = c.toInt * c.toInt := by
  have e := Jvm.RoadKit.c_i2l c
  have z0 : (0 : Int64).toInt = 0 := rfl
  have hq : c.toInt * c.toInt ≤ 2 * 2 := Int.mul_le_mul h2 h2 h0 (by decide)
  have hq0 : 0 ≤ c.toInt * c.toInt := Int.mul_nonneg h0 h0
  refine ⟨?_, ?_⟩
  · rw [Jvm.RoadKit.i2d_w]
    exact Jvm.RoadKit.dmul_k (A := 2) (B := 2) (by omega) (by omega) (by omega) (by omega) (by decide) (by decide) (by decide) (fun z => by have := Int64.lt_iff_toInt_lt.mp z.2; omega) (fun z => by have := Int64.lt_iff_toInt_lt.mp z.2; omega)
  · rw [FP.Core.int64_mul (by rw [e]; omega) (by rw [e]; omega), e]
theorem own_dspv {c l : Int32} (h0 : 0 ≤ c.toInt) (h2 : c.toInt ≤ 2) (hl : 0 ≤ l.toInt) : FP.Core.val64 (DSP c l) = FP.Core.roundRatio FP.Core.b64 false (c.toInt.toNat * c.toInt.toNat) (l.toInt.toNat + 1) 0 := by
  have r := own_rngI l
  have q := (own_sq h0 h2).2
  have e := (own_e2 hl).2
  have hq : c.toInt * c.toInt ≤ 2 * 2 := Int.mul_le_mul h2 h2 h0 (by decide)
  have hn : c.toInt * c.toInt = ((c.toInt.toNat * c.toInt.toNat : Nat) : Int) := by rw [Int.natCast_mul, Int.toNat_of_nonneg h0]
  exact own_quo0 (q.trans hn) (by rw [e]; omega) (by omega) (by omega) (by omega)
theorem RLI.thru {Z : State} {h h' : Heap} {n0 : Nat} {own : Addr → Nat} {i j : Nat} {a : Addr} {d : Nat} {ws : List Addr} (F : RLI Z h n0 own j a d) (K : Keep h h' ws) (hw : ∀ x ∈ ws, own x = i) (ne : i ≠ j) : RLI Z h' n0 (fun x => if h.size ≤ x then i else own x) j a d :=
  (F.re (own' := fun x => if h.size ≤ x then i else own x) (fun x hx => if_neg (Nat.not_le.mpr hx))).other K (fun x hx => by
    show (if h.size ≤ x then i else own x) ≠ j
    rw [hw x hx]
    split <;> exact ne)
theorem OWNS.up {h : Heap} {own : Addr → Nat} {i : Nat} {a lf fe cf lq dt : Addr} (W : OWNS own a lf fe cf lq dt) (h1 : a < h.size) (h2 : lf < h.size) (h3 : fe < h.size) (h4 : cf < h.size) (h5 : dt < h.size) (h6 : lq < h.size) : OWNS (fun x => if h.size ≤ x then i else own x) a lf fe cf lq dt := by
  obtain ⟨w1, w2, w3, w4, w5, w6⟩ := W
  exact ⟨(if_neg (Nat.not_le.mpr h1)).trans w1, (if_neg (Nat.not_le.mpr h2)).trans w2, (if_neg (Nat.not_le.mpr h3)).trans w3, (if_neg (Nat.not_le.mpr h4)).trans w4, (if_neg (Nat.not_le.mpr h5)).trans w5, (if_neg (Nat.not_le.mpr h6)).trans w6⟩
theorem own_fix {α : Type} {f : Nat → α} {i : Nat} {c : α} (e : f i = c) : ∀ j, f j = (fun y => if y = i then c else f y) j := fun j => by
  by_cases q : j = i
  · subst q
    exact e.trans (if_pos rfl).symm
  · exact (if_neg q).symm
theorem own_fix2 {α : Type} {f : Nat → α} {i : Nat} {a c : α} (e : a = c) : ∀ j, (fun y => if y = i then a else f y) j = (fun y => if y = i then c else f y) j := fun j => by rw [e]
theorem own_wsC {own : Addr → Nat} {a lf fe cf lq dt : Addr} {j : Nat} (W : OWNS own a lf fe cf lq dt) (hj : j < 100) : ∀ x ∈ [a, lf, fe, cf, dt], own x ≠ j := fun x hx => by
  obtain ⟨w1, w2, w3, w4, w5, w6⟩ := W
  simp only [List.mem_cons, List.not_mem_nil, or_false] at hx
  rcases hx with rfl | rfl | rfl | rfl | rfl <;> omega
theorem d13_0 : decode prog_35_method_10_code 0 = .ok (.iload_n 2, 1) := by decide +kernel
theorem d13_1 : decode prog_35_method_10_code 1 = .ok (.aload_n 0, 1) := by decide +kernel
theorem d13_2 : decode prog_35_method_10_code 2 = .ok (.getfield 23, 3) := by decide +kernel
theorem d13_5 : decode prog_35_method_10_code 5 = .ok (.arraylength, 1) := by decide +kernel
theorem d13_6 : decode prog_35_method_10_code 6 = .ok (.invokestatic 129, 3) := by decide +kernel
theorem d13_9 : decode prog_35_method_10_code 9 = .ok (.pop, 1) := by decide +kernel
theorem d13_10 : decode prog_35_method_10_code 10 = .ok (.iload_n 1, 1) := by decide +kernel
theorem d13_11 : decode prog_35_method_10_code 11 = .ok (.aload_n 0, 1) := by decide +kernel
theorem d13_12 : decode prog_35_method_10_code 12 = .ok (.getfield 23, 3) := by decide +kernel
theorem d13_15 : decode prog_35_method_10_code 15 = .ok (.iload_n 2, 1) := by decide +kernel
theorem d13_16 : decode prog_35_method_10_code 16 = .ok (.iaload, 1) := by decide +kernel
theorem d13_17 : decode prog_35_method_10_code 17 = .ok (.if_icmp .le 9, 3) := by decide +kernel
theorem d13_20 : decode prog_35_method_10_code 20 = .ok (.iload_n 1, 1) := by decide +kernel
theorem d13_21 : decode prog_35_method_10_code 21 = .ok (.ldc 137, 2) := by decide +kernel
theorem d13_23 : decode prog_35_method_10_code 23 = .ok (.if_icmp .ne 24, 3) := by decide +kernel
theorem d13_26 : decode prog_35_method_10_code 26 = .ok (.new 47, 3) := by decide +kernel
theorem d13_29 : decode prog_35_method_10_code 29 = .ok (.dup, 1) := by decide +kernel
theorem d13_30 : decode prog_35_method_10_code 30 = .ok (.iload_n 2, 1) := by decide +kernel
theorem d13_31 : decode prog_35_method_10_code 31 = .ok (.iload_n 1, 1) := by decide +kernel
theorem d13_32 : decode prog_35_method_10_code 32 = .ok (.aload_n 0, 1) := by decide +kernel
theorem d13_33 : decode prog_35_method_10_code 33 = .ok (.getfield 23, 3) := by decide +kernel
theorem d13_36 : decode prog_35_method_10_code 36 = .ok (.iload_n 2, 1) := by decide +kernel
theorem d13_37 : decode prog_35_method_10_code 37 = .ok (.iaload, 1) := by decide +kernel
theorem d13_38 : decode prog_35_method_10_code 38 = .ok (.invokedynamic 138, 5) := by decide +kernel
theorem d13_43 : decode prog_35_method_10_code 43 = .ok (.invokespecial 53, 3) := by decide +kernel
theorem d13_46 : decode prog_35_method_10_code 46 = .ok (.athrow, 1) := by decide +kernel
theorem d13_47 : decode prog_35_method_10_code 47 = .ok (.iload_n 1, 1) := by decide +kernel
theorem d13_48 : decode prog_35_method_10_code 48 = .ok (.aload_n 0, 1) := by decide +kernel
theorem d13_49 : decode prog_35_method_10_code 49 = .ok (.getfield 23, 3) := by decide +kernel
theorem d13_52 : decode prog_35_method_10_code 52 = .ok (.iload_n 2, 1) := by decide +kernel
theorem d13_53 : decode prog_35_method_10_code 53 = .ok (.iaload, 1) := by decide +kernel
theorem d13_54 : decode prog_35_method_10_code 54 = .ok (.isub, 1) := by decide +kernel
theorem d13_55 : decode prog_35_method_10_code 55 = .ok (.istore 4, 2) := by decide +kernel
theorem d13_57 : decode prog_35_method_10_code 57 = .ok (.aload_n 0, 1) := by decide +kernel
theorem d13_58 : decode prog_35_method_10_code 58 = .ok (.getfield 23, 3) := by decide +kernel
theorem d13_61 : decode prog_35_method_10_code 61 = .ok (.iload_n 2, 1) := by decide +kernel
theorem d13_62 : decode prog_35_method_10_code 62 = .ok (.iaload, 1) := by decide +kernel
theorem d13_63 : decode prog_35_method_10_code 63 = .ok (.ifCond .ge 13, 3) := by decide +kernel
theorem d13_66 : decode prog_35_method_10_code 66 = .ok (.aload_n 0, 1) := by decide +kernel
theorem d13_67 : decode prog_35_method_10_code 67 = .ok (.dup, 1) := by decide +kernel
theorem d13_68 : decode prog_35_method_10_code 68 = .ok (.getfield 67, 3) := by decide +kernel
theorem d13_71 : decode prog_35_method_10_code 71 = .ok (.iconst 1, 1) := by decide +kernel
theorem d13_72 : decode prog_35_method_10_code 72 = .ok (.iadd, 1) := by decide +kernel
theorem d13_73 : decode prog_35_method_10_code 73 = .ok (.putfield 67, 3) := by decide +kernel
theorem d13_76 : decode prog_35_method_10_code 76 = .ok (.aload_n 0, 1) := by decide +kernel
theorem d13_77 : decode prog_35_method_10_code 77 = .ok (.getfield 23, 3) := by decide +kernel
theorem d13_80 : decode prog_35_method_10_code 80 = .ok (.iload_n 2, 1) := by decide +kernel
theorem d13_81 : decode prog_35_method_10_code 81 = .ok (.iload_n 1, 1) := by decide +kernel
theorem d13_82 : decode prog_35_method_10_code 82 = .ok (.iastore, 1) := by decide +kernel
theorem d13_83 : decode prog_35_method_10_code 83 = .ok (.aload_n 0, 1) := by decide +kernel
theorem d13_84 : decode prog_35_method_10_code 84 = .ok (.getfield 33, 3) := by decide +kernel
theorem d13_87 : decode prog_35_method_10_code 87 = .ok (.iload_n 2, 1) := by decide +kernel
theorem d13_88 : decode prog_35_method_10_code 88 = .ok (.dup2, 1) := by decide +kernel
theorem d13_89 : decode prog_35_method_10_code 89 = .ok (.iaload, 1) := by decide +kernel
theorem d13_90 : decode prog_35_method_10_code 90 = .ok (.iconst 1, 1) := by decide +kernel
theorem d13_91 : decode prog_35_method_10_code 91 = .ok (.iadd, 1) := by decide +kernel
theorem d13_92 : decode prog_35_method_10_code 92 = .ok (.iastore, 1) := by decide +kernel
theorem d13_93 : decode prog_35_method_10_code 93 = .ok (.iload_n 3, 1) := by decide +kernel
theorem d13_94 : decode prog_35_method_10_code 94 = .ok (.ifCond .eq 23, 3) := by decide +kernel
theorem d13_97 : decode prog_35_method_10_code 97 = .ok (.aload_n 0, 1) := by decide +kernel
theorem d13_98 : decode prog_35_method_10_code 98 = .ok (.getfield 36, 3) := by decide +kernel
theorem d13_101 : decode prog_35_method_10_code 101 = .ok (.iload_n 2, 1) := by decide +kernel
theorem d13_102 : decode prog_35_method_10_code 102 = .ok (.dup2, 1) := by decide +kernel
theorem d13_103 : decode prog_35_method_10_code 103 = .ok (.iaload, 1) := by decide +kernel
theorem d13_104 : decode prog_35_method_10_code 104 = .ok (.iconst 1, 1) := by decide +kernel
theorem d13_105 : decode prog_35_method_10_code 105 = .ok (.iadd, 1) := by decide +kernel
theorem d13_106 : decode prog_35_method_10_code 106 = .ok (.iastore, 1) := by decide +kernel
theorem d13_107 : decode prog_35_method_10_code 107 = .ok (.aload_n 0, 1) := by decide +kernel
theorem d13_108 : decode prog_35_method_10_code 108 = .ok (.dup, 1) := by decide +kernel
theorem d13_109 : decode prog_35_method_10_code 109 = .ok (.getfield 71, 3) := by decide +kernel
theorem d13_112 : decode prog_35_method_10_code 112 = .ok (.lconst 1, 1) := by decide +kernel
theorem d13_113 : decode prog_35_method_10_code 113 = .ok (.ladd, 1) := by decide +kernel
theorem d13_114 : decode prog_35_method_10_code 114 = .ok (.putfield 71, 3) := by decide +kernel
theorem d13_117 : decode prog_35_method_10_code 117 = .ok (.aload_n 0, 1) := by decide +kernel
theorem d13_118 : decode prog_35_method_10_code 118 = .ok (.dup, 1) := by decide +kernel
theorem d13_119 : decode prog_35_method_10_code 119 = .ok (.getfield 75, 3) := by decide +kernel
theorem d13_122 : decode prog_35_method_10_code 122 = .ok (.iload 4, 2) := by decide +kernel
theorem d13_124 : decode prog_35_method_10_code 124 = .ok (.i2l, 1) := by decide +kernel
theorem d13_125 : decode prog_35_method_10_code 125 = .ok (.ladd, 1) := by decide +kernel
theorem d13_126 : decode prog_35_method_10_code 126 = .ok (.putfield 75, 3) := by decide +kernel
theorem d13_129 : decode prog_35_method_10_code 129 = .ok (.aload_n 0, 1) := by decide +kernel
theorem d13_130 : decode prog_35_method_10_code 130 = .ok (.getfield 36, 3) := by decide +kernel
theorem d13_133 : decode prog_35_method_10_code 133 = .ok (.iload_n 2, 1) := by decide +kernel
theorem d13_134 : decode prog_35_method_10_code 134 = .ok (.iaload, 1) := by decide +kernel
theorem d13_135 : decode prog_35_method_10_code 135 = .ok (.i2d, 1) := by decide +kernel
theorem d13_136 : decode prog_35_method_10_code 136 = .ok (.dstore 5, 2) := by decide +kernel
theorem d13_138 : decode prog_35_method_10_code 138 = .ok (.aload_n 0, 1) := by decide +kernel
theorem d13_139 : decode prog_35_method_10_code 139 = .ok (.getfield 43, 3) := by decide +kernel
theorem d13_142 : decode prog_35_method_10_code 142 = .ok (.iload_n 2, 1) := by decide +kernel
theorem d13_143 : decode prog_35_method_10_code 143 = .ok (.dload 5, 2) := by decide +kernel
theorem d13_145 : decode prog_35_method_10_code 145 = .ok (.dload 5, 2) := by decide +kernel
theorem d13_147 : decode prog_35_method_10_code 147 = .ok (.dmul, 1) := by decide +kernel
theorem d13_148 : decode prog_35_method_10_code 148 = .ok (.iload_n 1, 1) := by decide +kernel
theorem d13_149 : decode prog_35_method_10_code 149 = .ok (.i2d, 1) := by decide +kernel
theorem d13_150 : decode prog_35_method_10_code 150 = .ok (.dconst 1, 1) := by decide +kernel
theorem d13_151 : decode prog_35_method_10_code 151 = .ok (.dadd, 1) := by decide +kernel
theorem d13_152 : decode prog_35_method_10_code 152 = .ok (.ddiv, 1) := by decide +kernel
theorem d13_153 : decode prog_35_method_10_code 153 = .ok (.dastore, 1) := by decide +kernel
theorem d13_154 : decode prog_35_method_10_code 154 = .ok (.aload_n 0, 1) := by decide +kernel
theorem d13_155 : decode prog_35_method_10_code 155 = .ok (.getfield 16, 3) := by decide +kernel
theorem d13_158 : decode prog_35_method_10_code 158 = .ok (.iload_n 2, 1) := by decide +kernel
theorem d13_159 : decode prog_35_method_10_code 159 = .ok (.aaload, 1) := by decide +kernel
theorem d13_160 : decode prog_35_method_10_code 160 = .ok (.iload 4, 2) := by decide +kernel
theorem d13_162 : decode prog_35_method_10_code 162 = .ok (.iload_n 3, 1) := by decide +kernel
theorem d13_163 : decode prog_35_method_10_code 163 = .ok (.invokevirtual 141, 3) := by decide +kernel
theorem d13_166 : decode prog_35_method_10_code 166 = .ok (.aload_n 0, 1) := by decide +kernel
theorem d13_167 : decode prog_35_method_10_code 167 = .ok (.getfield 39, 3) := by decide +kernel
theorem d13_170 : decode prog_35_method_10_code 170 = .ok (.iload 4, 2) := by decide +kernel
theorem d13_172 : decode prog_35_method_10_code 172 = .ok (.iload_n 3, 1) := by decide +kernel
theorem d13_173 : decode prog_35_method_10_code 173 = .ok (.invokevirtual 141, 3) := by decide +kernel
theorem d13_176 : decode prog_35_method_10_code 176 = .ok (.aload_n 0, 1) := by decide +kernel
theorem d13_177 : decode prog_35_method_10_code 177 = .ok (.iconst 0, 1) := by decide +kernel
theorem d13_178 : decode prog_35_method_10_code 178 = .ok (.putfield 81, 3) := by decide +kernel
theorem d13_181 : decode prog_35_method_10_code 181 = .ok (.return_, 1) := by decide +kernel
theorem pn_13 : plainFor (⟨"com/example/revisit/revisit/policy/ChangeRates", "observe", "(IIZ)V"⟩ : MethodName) = true := by first | exact plainFor_of_name (by first | (simp [plainName, overriddenIn]; done) | decide +kernel) | decide +kernel
theorem ef_13 (m : MethodId) (a1 : Addr) (p2 : Int32) (p3 : Int32) (p4 : Int32) : entryFrame m #[(.ref a1), (.int p2), (.int p3), (.int p4)] 7 = mkF m 0 #[.val (.ref a1), .val (.int p2), .val (.int p3), .val (.int p4), .unset, .unset, .unset] [] := by first | (simp [entryFrame, argsToLocals, Value.category, Array.replicate]; done) | rfl
theorem pd_13 : parseMethodDescriptor "(IIZ)V" = some ⟨[.int, .int, .boolean], none⟩ := by decide +kernel
def Q13 (Z : State) (a1 : Addr) (p2 : Int32) (p3 : Int32) (p4 : Int32) (km : Nat) (lastf : Nat → Int32) (chg : Nat → Int32) (dsp : Nat → UInt64) (fs : Int32) (pc : Int64) (ps : Int64) (kn : Int32) (av : Int32) (ob : Nat) (sj : Nat) (h0 : Heap) (n0 : Nat) (v : Option Value) (h : Heap) (L : List Loc) : Prop := v = none ∧ Fr n0 L ∧ Old Z n0 h ∧ CRS Z h n0 a1 km (fun y => if y = sj then p2 else lastf y) (fun y => if y = sj then (if p4 = 0 then chg sj else chg sj + 1) else chg y) (fun y => if y = sj then DSP (if p4 = 0 then chg sj else chg sj + 1) p2 else dsp y) (if lastf sj < 0 then fs + 1 else fs) (if p4 = 0 then pc else pc + 1) (ps + (p2 - lastf sj).toInt64) 0 av (ob + 1)
theorem rm13 (l : Launch) (Z : State) (a0 : Array Value) (hw : ∀ d ∈ tables_1, d.before a0 Z = true) (ws : List Jvm.Cond) (a1 : Addr) (p2 : Int32) (p3 : Int32) (p4 : Int32) (km : Nat) (lastf : Nat → Int32) (chg : Nat → Int32) (dsp : Nat → UInt64) (fs : Int32) (pc : Int64) (ps : Int64) (kn : Int32) (av : Int32) (ob : Nat) (sj : Nat) (h0 : Heap) (n0 : Nat) (Z0 : n0 ≤ h0.size) (OL : Old Z n0 h0) (S0 : CRS Z h0 n0 a1 km lastf chg dsp fs pc ps kn av ob) (hob : ob ≤ 3) (hsrc : p3.toInt = (sj : Int)) (hs : sj < km) (hkm : km ≤ 3) (hslot : lastf sj < p2) (hmx : ¬ p2 = 2147483647) (hl0 : 0 ≤ p2.toInt) (hc0 : 0 ≤ (chg sj).toInt) (hc1 : (chg sj).toInt ≤ 1) :
    MetFree l (⟨"com/example/revisit/revisit/policy/ChangeRates", "observe", "(IIZ)V"⟩ : MethodName) (head1 (Jvm.Cond.code (⟨"com/example/revisit/revisit/policy/ChangeRates", "observe", "(IIZ)V"⟩ : MethodName) prog_35_method_10_code 7 (none) :: ws) ({ frames := 4, cells := 4, slots := 32, locals := 103 } : Room)) (fun a U => a = #[(.ref a1), (.int p2), (.int p3), (.int p4)] ∧ Z.Warmed39 U.vm ∧ U.heap = h0) (fun _ _ _ _ _ => True) (fun _ U o U' => ∃ v L, o = .returned v ∧ (Q13 Z a1 p2 p3 p4 km lastf chg dsp fs pc ps kn av ob sj h0 n0) v U'.heap L ∧ FrameEnd U o U' L ({ frames := 4, cells := 4, slots := 32, locals := 103 } : Room).cells ({ frames := 4, cells := 4, slots := 32, locals := 103 } : Room).slots) := by
  refine MetFree.of_bodySF pn_13 hisR ?_
  intro p e s m args below meth c s₁ Bd hml0 hP hK
  obtain ⟨rfl, hZ, hh⟩ := hP
  have hx := Bd.exec
  have hby := Bd.bytes
  have hml : c.maxLocals = 7 := hml0
  have hown : s.vm.findClass "com/example/revisit/revisit/policy/ChangeRates" = some m.cls := findClass_of_methodNamed Bd.named
  have hnm := (name_of_methodNamed Bd.named Bd.method).1
  have X0 : Stand p l e ({ frames := 4, cells := 4, slots := 32, locals := 103 } : Room) s m #[(.ref a1), (.int p2), (.int p3), (.int p4)] below meth c s₁ [] 0 0 := Stand.of_body Bd
  have e0 : s₁.heap = h0 := by rw [← hh, Bd.state]; rfl
  have N0 := Fr.nil n0
  have lk : meth.locks = false := BodyLoose.notSynchronized Bd
  have hret := Bd.returns
  show Ends p e below (EF s ({ frames := 4, cells := 4, slots := 32, locals := 103 } : Room).cells ({ frames := 4, cells := 4, slots := 32, locals := 103 } : Room).slots) (Q13 Z a1 p2 p3 p4 km lastf chg dsp fs pc ps kn av ob sj h0 n0) (s₁.setTop (entryFrame m #[(.ref a1), (.int p2), (.int p3), (.int p4)] 7))
  refine Ends.cast (ef_13 m a1 p2 p3 p4) ?_
  obtain ⟨own, lf, fe, cf, lq, pl, dt, rl, gf, F0, Ai, Aj, Ak, Al, Am, W0, ⟨nb, nlf, nfe, ncf, ndt⟩, hR, dp, hdp, RP⟩ := S0
  have ne_lf_fe : lf ≠ fe := fun e => absurd ((W0.2.1).symm.trans ((congrArg own e).trans W0.2.2.1)) (by decide)
  have ne_lf_cf : lf ≠ cf := fun e => absurd ((W0.2.1).symm.trans ((congrArg own e).trans W0.2.2.2.1)) (by decide)
  have ne_fe_cf : fe ≠ cf := fun e => absurd ((W0.2.2.1).symm.trans ((congrArg own e).trans W0.2.2.2.1)) (by decide)
  refine own_iloadN (n := 1) X0 hx (hb hby d13_0) rfl rfl ?_
  refine own_aloadN (n := 2) X0 hx (hb hby d13_1) rfl rfl rfl ?_
  refine own_getF (n := 5) X0 hx hZ hown (hw _ (List.mem_of_getElem? (i := 47) rfl)) e0 F0.2.1 (hb hby d13_2) rfl ?_
  intro T1 X1 e1
  refine own_arraylength (n := 6) X1 hx hZ e1 Ai (v := (Nat.toInt32 km)) (len_toInt (by omega)) (hb hby d13_5) rfl ?_
  refine own_callS (n := 9) X1 hx hZ hown (hw _ (List.mem_of_getElem? (i := 93) rfl)) (hw _ (List.mem_of_getElem? (i := 94) rfl)) (hw _ (List.mem_of_getElem? (i := 95) rfl)) (hw _ (List.mem_of_getElem? (i := 96) rfl)) (by decide) e1 (rm14 l Z a0 hw [] p3 (Nat.toInt32 km) h0 n0 Z0 (by have o : (0 : Int32).toInt = 0 := rfl; rw [Int32.lt_iff_toInt_lt]; omega) (by rw [Int32.lt_iff_toInt_lt, len_toInt (by omega)]; omega)) (W := 0) (by decide) (by decide) (by decide) (by decide) (by rw [hml]; rfl) (argsL := [(.int p3), (.int (Nat.toInt32 km))]) (rest := []) pd_14 rfl (by rfl) (Nat.le_of_eq rfl) (hb hby d13_6) rfl rfl ?_
  intro v2 T2 h2 L2 X2 e2 q2
  obtain ⟨rfl, M2, rfl⟩ := q2
  have N2 := Fr.app N0 M2
  refine own_pop (n := 10) X2 hx (hb hby d13_9) rfl rfl ?_
  refine own_iloadN (n := 11) X2 hx (hb hby d13_10) rfl rfl ?_
  refine own_aloadN (n := 12) X2 hx (hb hby d13_11) rfl rfl rfl ?_
  refine own_getF (n := 15) X2 hx hZ hown (hw _ (List.mem_of_getElem? (i := 47) rfl)) e2 F0.2.1 (hb hby d13_12) rfl ?_
  intro T3 X3 e3
  refine own_iloadN (n := 16) X3 hx (hb hby d13_15) rfl rfl ?_
  refine own_iaload (n := 17) X3 hx hZ e3 Ai (i := sj) hsrc hs (hb hby d13_16) rfl ?_
  refine own_icmpNo (n := 20) X3 hx (hb hby d13_17) (Jvm.Free.XT.ii_le_f hslot) rfl ?_
  refine own_iloadN (n := 21) X3 hx (hb hby d13_20) rfl rfl ?_
  refine own_ldc (n := 23) X3 hx hZ hown (hw _ (List.mem_of_getElem? (i := 101) rfl)) (hb hby d13_21) rfl ?_
  refine own_icmpYes (n := 47) X3 hx (hb hby d13_23) (Jvm.Free.XT.ii_ne_t hmx) (by decide) (by decide) ?_
  refine own_iloadN (n := 48) X3 hx (hb hby d13_47) rfl rfl ?_
  refine own_aloadN (n := 49) X3 hx (hb hby d13_48) rfl rfl rfl ?_
  refine own_getF (n := 52) X3 hx hZ hown (hw _ (List.mem_of_getElem? (i := 47) rfl)) e3 F0.2.1 (hb hby d13_49) rfl ?_
  intro T4 X4 e4
  refine own_iloadN (n := 53) X4 hx (hb hby d13_52) rfl rfl ?_
  refine own_iaload (n := 54) X4 hx hZ e4 Ai (i := sj) hsrc hs (hb hby d13_53) rfl ?_
  refine own_isub (n := 55) X4 hx (hb hby d13_54) rfl ?_
  refine own_istore (n := 57) X4 hx (hb hby d13_55) (l' := #[.val (.ref a1), .val (.int p2), .val (.int p3), .val (.int p4), .val (.int (p2 - (lastf sj))), .unset, .unset]) rfl rfl ?_
  show Ends p e below (EF s ({ frames := 4, cells := 4, slots := 32, locals := 103 } : Room).cells ({ frames := 4, cells := 4, slots := 32, locals := 103 } : Room).slots) (Q13 Z a1 p2 p3 p4 km lastf chg dsp fs pc ps kn av ob sj h0 n0) (T4.setTop (mkF m 57 #[.val (.ref a1), .val (.int p2), .val (.int p3), .val (.int p4), .val (.int (p2 - (lastf sj))), .unset, .unset] []))
  generalize g_dl : (p2 - (lastf sj)) = dl
  refine own_aloadN (n := 58) X4 hx (hb hby d13_57) rfl rfl rfl ?_
  refine own_getF (n := 61) X4 hx hZ hown (hw _ (List.mem_of_getElem? (i := 47) rfl)) e4 F0.2.1 (hb hby d13_58) rfl ?_
  intro T5 X5 e5
  refine own_iloadN (n := 62) X5 hx (hb hby d13_61) rfl rfl ?_
  refine own_iaload (n := 63) X5 hx hZ e5 Ai (i := sj) hsrc hs (hb hby d13_62) rfl ?_
  by_cases c63 : (lastf sj) < 0
  · refine own_ifNo (n := 66) X5 hx (hb hby d13_63) (Jvm.Free.XT.i0_ge_f c63) rfl ?_
    refine own_aloadN (n := 67) X5 hx (hb hby d13_66) rfl rfl rfl ?_
    refine own_dup (n := 68) X5 hx (hb hby d13_67) rfl rfl ?_
    refine own_getF (n := 71) X5 hx hZ hown (hw _ (List.mem_of_getElem? (i := 102) rfl)) e5 F0.2.2.2.2.2.2.2.1 (hb hby d13_68) rfl ?_
    intro T6 X6 e6
    refine own_iconst (n := 72) X6 hx (1 : Int32) (hb hby d13_71) rfl rfl ?_
    refine own_iadd (n := 73) X6 hx (hb hby d13_72) rfl ?_
    refine own_putF (n := 76) X6 hx hZ hown (hw _ (List.mem_of_getElem? (i := 102) rfl)) e6 F0.2.2.2.2.2.2.2.1 F0.1 (Or.inl (hw _ (List.mem_of_getElem? (i := 103) rfl))) (hw _ (List.mem_of_getElem? (i := 9) rfl)) (ty := .int) (by decide) rfl rfl (hb hby d13_73) rfl ?_
    intro T7 h7 X7 e7 W7
    have N7 := Fr.snoc X7 N2 nb
    have Z7 : n0 ≤ h7.size := Nat.le_trans Z0 (Keep.of_wr W7).1
    have OL7 := OL.wr W7 nb
    have F7_a1 := F0.set_fetchedSources hw W7
    have F7_lf := Ai.wrO W7 (Ne.symm (own_neOA F0.1 (hw _ (List.mem_of_getElem? (i := 9) rfl)) Ai))
    have F7_fe := Aj.wrO W7 (Ne.symm (own_neOA F0.1 (hw _ (List.mem_of_getElem? (i := 9) rfl)) Aj))
    have F7_cf := Ak.wrO W7 (Ne.symm (own_neOA F0.1 (hw _ (List.mem_of_getElem? (i := 9) rfl)) Ak))
    have F7_lq := Al.wrO W7 (Ne.symm (own_neOA F0.1 (hw _ (List.mem_of_getElem? (i := 9) rfl)) Al.va))
    have F7_dt := Am.wrO W7 (Ne.symm (own_neOA F0.1 (hw _ (List.mem_of_getElem? (i := 9) rfl)) Am))
    have K7 : Keep _ h7 [a1, lf, fe, cf, dt] := (Keep.refl h0 [a1, lf, fe, cf, dt]).wr W7 (Or.inl (List.mem_of_getElem? (i := 0) rfl))
    refine own_aloadN (n := 77) X7 hx (hb hby d13_76) rfl rfl rfl ?_
    refine own_getF (n := 80) X7 hx hZ hown (hw _ (List.mem_of_getElem? (i := 47) rfl)) e7 F7_a1.2.1 (hb hby d13_77) rfl ?_
    intro T8 X8 e8
    refine own_iloadN (n := 81) X8 hx (hb hby d13_80) rfl rfl ?_
    refine own_iloadN (n := 82) X8 hx (hb hby d13_81) rfl rfl ?_
    refine own_iastore (n := 83) X8 hx hZ e8 F7_lf (i := sj) hsrc hs (hb hby d13_82) rfl ?_
    intro T9 h9 X9 e9 W9 A9
    have N9 := Fr.snoc X9 N7 nlf
    have Z9 : n0 ≤ h9.size := Nat.le_trans Z7 (Keep.of_wr W9).1
    have OL9 := OL7.wr W9 nlf
    have F9_a1 := F7_a1.wrO W9 (own_neOA F7_a1.1 (hw _ (List.mem_of_getElem? (i := 9) rfl)) F7_lf)
    have F9_fe := F7_fe.wrO W9 (Ne.symm ne_lf_fe)
    have F9_cf := F7_cf.wrO W9 (Ne.symm ne_lf_cf)
    have F9_lq := F7_lq.wrO W9 (own_neAA F7_lq.va F7_lf (by decide))
    have F9_dt := F7_dt.wrO W9 (own_neAA F7_dt F7_lf (by decide))
    have K9 : Keep _ h9 [a1, lf, fe, cf, dt] := K7.wr W9 (Or.inl (List.mem_of_getElem? (i := 1) rfl))
    refine own_aloadN (n := 84) X9 hx (hb hby d13_83) rfl rfl rfl ?_
    refine own_getF (n := 87) X9 hx hZ hown (hw _ (List.mem_of_getElem? (i := 53) rfl)) e9 F9_a1.2.2.1 (hb hby d13_84) rfl ?_
    intro T10 X10 e10
    refine own_iloadN (n := 88) X10 hx (hb hby d13_87) rfl rfl ?_
    refine own_dup2 (n := 89) X10 hx (hb hby d13_88) rfl rfl rfl ?_
    refine own_iaload (n := 90) X10 hx hZ e10 F9_fe (i := sj) hsrc hs (hb hby d13_89) rfl ?_
    refine own_iconst (n := 91) X10 hx (1 : Int32) (hb hby d13_90) rfl rfl ?_
    refine own_iadd (n := 92) X10 hx (hb hby d13_91) rfl ?_
    refine own_iastore (n := 93) X10 hx hZ e10 F9_fe (i := sj) hsrc hs (hb hby d13_92) rfl ?_
    intro T11 h11 X11 e11 W11 A11
    have N11 := Fr.snoc X11 N9 nfe
    have Z11 : n0 ≤ h11.size := Nat.le_trans Z9 (Keep.of_wr W11).1
    have OL11 := OL9.wr W11 nfe
    have F11_a1 := F9_a1.wrO W11 (own_neOA F9_a1.1 (hw _ (List.mem_of_getElem? (i := 9) rfl)) F9_fe)
    have F11_lf := A9.wrO W11 ne_lf_fe
    have F11_cf := F9_cf.wrO W11 (Ne.symm ne_fe_cf)
    have F11_lq := F9_lq.wrO W11 (own_neAA F9_lq.va F9_fe (by decide))
    have F11_dt := F9_dt.wrO W11 (own_neAA F9_dt F9_fe (by decide))
    have K11 : Keep _ h11 [a1, lf, fe, cf, dt] := K9.wr W11 (Or.inl (List.mem_of_getElem? (i := 2) rfl))
    refine own_iloadN (n := 94) X11 hx (hb hby d13_93) rfl rfl ?_
    by_cases c94 : p4 = 0
    · refine own_ifYes (n := 117) X11 hx (hb hby d13_94) (Jvm.Free.XT.i0_eq_t c94) (by decide) (by decide) ?_
      refine own_aloadN (n := 118) X11 hx (hb hby d13_117) rfl rfl rfl ?_
      refine own_dup (n := 119) X11 hx (hb hby d13_118) rfl rfl ?_
      refine own_getF (n := 122) X11 hx hZ hown (hw _ (List.mem_of_getElem? (i := 104) rfl)) e11 F11_a1.2.2.2.2.2.2.2.2.2.1 (hb hby d13_119) rfl ?_
      intro T12 X12 e12
      refine own_iload (n := 124) X12 hx (hb hby d13_122) rfl rfl ?_
      refine own_i2l (n := 125) X12 hx (hb hby d13_124) rfl ?_
      refine own_ladd (n := 126) X12 hx (hb hby d13_125) rfl ?_
      refine own_putF (n := 129) X12 hx hZ hown (hw _ (List.mem_of_getElem? (i := 104) rfl)) e12 F11_a1.2.2.2.2.2.2.2.2.2.1 F11_a1.1 (Or.inl (hw _ (List.mem_of_getElem? (i := 105) rfl))) (hw _ (List.mem_of_getElem? (i := 9) rfl)) (ty := .long) (by decide) rfl rfl (hb hby d13_126) rfl ?_
      intro T13 h13 X13 e13 W13
      have N13 := Fr.snoc X13 N11 nb
      have Z13 : n0 ≤ h13.size := Nat.le_trans Z11 (Keep.of_wr W13).1
      have OL13 := OL11.wr W13 nb
      have F13_a1 := F11_a1.set_pooledSlots hw W13
      have F13_lf := F11_lf.wrO W13 (Ne.symm (own_neOA F11_a1.1 (hw _ (List.mem_of_getElem? (i := 9) rfl)) F11_lf))
      have F13_fe := A11.wrO W13 (Ne.symm (own_neOA F11_a1.1 (hw _ (List.mem_of_getElem? (i := 9) rfl)) A11))
      have F13_cf := F11_cf.wrO W13 (Ne.symm (own_neOA F11_a1.1 (hw _ (List.mem_of_getElem? (i := 9) rfl)) F11_cf))
      have F13_lq := F11_lq.wrO W13 (Ne.symm (own_neOA F11_a1.1 (hw _ (List.mem_of_getElem? (i := 9) rfl)) F11_lq.va))
      have F13_dt := F11_dt.wrO W13 (Ne.symm (own_neOA F11_a1.1 (hw _ (List.mem_of_getElem? (i := 9) rfl)) F11_dt))
      have K13 : Keep _ h13 [a1, lf, fe, cf, dt] := K11.wr W13 (Or.inl (List.mem_of_getElem? (i := 0) rfl))
      refine own_aloadN (n := 130) X13 hx (hb hby d13_129) rfl rfl rfl ?_
      refine own_getF (n := 133) X13 hx hZ hown (hw _ (List.mem_of_getElem? (i := 55) rfl)) e13 F13_a1.2.2.2.1 (hb hby d13_130) rfl ?_
      intro T14 X14 e14
      refine own_iloadN (n := 134) X14 hx (hb hby d13_133) rfl rfl ?_
      refine own_iaload (n := 135) X14 hx hZ e14 F13_cf (i := sj) hsrc hs (hb hby d13_134) rfl ?_
      refine own_i2d (n := 136) X14 hx (hb hby d13_135) rfl ?_
      refine own_dstore (n := 138) X14 hx (hb hby d13_136) (l' := #[.val (.ref a1), .val (.int p2), .val (.int p3), .val (.int p4), .val (.int dl), .val (.double (FP.i2d (chg sj))), .second]) rfl rfl ?_
      show Ends p e below (EF s ({ frames := 4, cells := 4, slots := 32, locals := 103 } : Room).cells ({ frames := 4, cells := 4, slots := 32, locals := 103 } : Room).slots) (Q13 Z a1 p2 p3 p4 km lastf chg dsp fs pc ps kn av ob sj h0 n0) (T14.setTop (mkF m 138 #[.val (.ref a1), .val (.int p2), .val (.int p3), .val (.int p4), .val (.int dl), .val (.double (FP.i2d (chg sj))), .second] []))
      generalize g_dx : (FP.i2d (chg sj)) = dx
      refine own_aloadN (n := 139) X14 hx (hb hby d13_138) rfl rfl rfl ?_
      refine own_getF (n := 142) X14 hx hZ hown (hw _ (List.mem_of_getElem? (i := 63) rfl)) e14 F13_a1.2.2.2.2.2.2.1 (hb hby d13_139) rfl ?_
      intro T15 X15 e15
      refine own_iloadN (n := 143) X15 hx (hb hby d13_142) rfl rfl ?_
      refine own_dload (n := 145) X15 hx (hb hby d13_143) rfl rfl ?_
      refine own_dload (n := 147) X15 hx (hb hby d13_145) rfl rfl ?_
      obtain ⟨E1, E1a⟩ := own_sq (c := (chg sj)) hc0 (by omega)
      have hdx : dx = FP.i2d (chg sj) := g_dx.symm
      have E1' : FP.dmul dx dx = FP.l2d ((chg sj).toInt64 * (chg sj).toInt64) := by rw [hdx]; exact E1
      refine own_dmul (n := 148) X15 hx (hb hby d13_147) (Jvm.RoadKit.nn_w E1') rfl ?_
      refine own_iloadN (n := 149) X15 hx (hb hby d13_148) rfl rfl ?_
      refine own_i2d (n := 150) X15 hx (hb hby d13_149) rfl ?_
      refine own_dconst1 (n := 151) X15 hx (hb hby d13_150) rfl ?_
      obtain ⟨E2, E2a⟩ := own_e2 hl0
      refine own_dadd (n := 152) X15 hx (hb hby d13_151) (Jvm.RoadKit.nn_w E2) rfl ?_
      have E3 : FP.ddiv (FP.dmul dx dx) (FP.dadd (FP.i2d p2) (4607182418800017408 : UInt64)) = DSP (chg sj) p2 := by rw [E1', E2]; rfl
      refine own_ddiv (n := 153) X15 hx (hb hby d13_152) (by rw [E3]; exact own_nn (own_dspv hc0 (by omega) hl0)) rfl ?_
      refine own_dastore (n := 154) X15 hx hZ e15 F13_dt (i := sj) hsrc hs (hb hby d13_153) rfl ?_
      intro T16 h16 X16 e16 W16 A16
      have N16 := Fr.snoc X16 N13 ndt
      have Z16 : n0 ≤ h16.size := Nat.le_trans Z13 (Keep.of_wr W16).1
      have OL16 := OL13.wr W16 ndt
      have F16_a1 := F13_a1.wrO W16 (own_neOA F13_a1.1 (hw _ (List.mem_of_getElem? (i := 9) rfl)) F13_dt)
      have F16_lf := F13_lf.wrO W16 (own_neAA F13_lf F13_dt (by decide))
      have F16_fe := F13_fe.wrO W16 (own_neAA F13_fe F13_dt (by decide))
      have F16_cf := F13_cf.wrO W16 (own_neAA F13_cf F13_dt (by decide))
      have F16_lq := F13_lq.wrO W16 (own_neAA F13_lq.va F13_dt (by decide))
      have K16 : Keep _ h16 [a1, lf, fe, cf, dt] := K13.wr W16 (Or.inl (List.mem_of_getElem? (i := 4) rfl))
      refine own_aloadN (n := 155) X16 hx (hb hby d13_154) rfl rfl rfl ?_
      refine own_getF (n := 158) X16 hx hZ hown (hw _ (List.mem_of_getElem? (i := 58) rfl)) e16 F16_a1.2.2.2.2.1 (hb hby d13_155) rfl ?_
      intro T17 X17 e17
      refine own_iloadN (n := 159) X17 hx (hb hby d13_158) rfl rfl ?_
      refine own_aaload (n := 160) X17 hx hZ e17 F16_lq (i := sj) hsrc hs (v := (.ref (rl sj))) rfl (hb hby d13_159) rfl ?_
      refine own_iload (n := 162) X17 hx (hb hby d13_160) rfl rfl ?_
      refine own_iloadN (n := 163) X17 hx (hb hby d13_162) rfl rfl ?_
      obtain ⟨dr, hdr, RS⟩ := hR sj hs
      have RS1 := RS.other K16 (own_wsC W0 (by omega))
      have RP1 := RP.other K16 (own_wsC W0 (by decide))
      have hR1 : ∀ j, j < km → ∃ d, d ≤ ob + 1 ∧ RLI Z h16 n0 own j (rl j) d := fun j hj => by obtain ⟨d, q, z⟩ := hR j hj; exact ⟨d, q, z.other K16 (own_wsC W0 (by omega))⟩
      have W1 : OWNS (fun x => if h16.size ≤ x then sj else own x) a1 lf fe cf lq dt := W0.up F16_a1.lt F16_lf.lt F16_fe.lt F16_cf.lt A16.lt F16_lq.lt
      refine own_callV (n := 166) X17 hx hZ hown (hw _ (List.mem_of_getElem? (i := 106) rfl)) (hw _ (List.mem_of_getElem? (i := 107) rfl)) (hw _ (List.mem_of_getElem? (i := 109) rfl)) (hw _ (List.mem_of_getElem? (i := 108) rfl)) (hw _ (List.mem_of_getElem? (i := 19) rfl)) (hw _ (List.mem_of_getElem? (i := 110) rfl)) (by decide) e17 RS1.exa (rm16 l Z a0 hw [] (rl sj) dl p4 own sj dr h16 n0 Z16 OL16 RS1 (by omega)) (W := 0) (by decide) (by decide) (by decide) (by decide) (by rw [hml]; rfl) (argsL := [(.int dl), (.int p4)]) (rest := []) pd_16 rfl (by rfl) (Nat.le_of_eq rfl) (hb hby d13_163) rfl rfl ?_
      intro v18 T18 h18 L18 X18 e18 q18
      obtain ⟨rfl, M18, OL18, ⟨ws18, K18, hw18⟩, d18, hd18, R18⟩ := q18
      have N18 := Fr.app N16 M18
      have Z18 := own_oldz OL18
      have F18_a1 := F16_a1.keep K18 (fun q => by have z := (W0.1).symm.trans (hw18 _ q); omega)
      have F18_lf := F16_lf.keep K18 (fun q => by have z := (W0.2.1).symm.trans (hw18 _ q); omega)
      have F18_fe := F16_fe.keep K18 (fun q => by have z := (W0.2.2.1).symm.trans (hw18 _ q); omega)
      have F18_cf := F16_cf.keep K18 (fun q => by have z := (W0.2.2.2.1).symm.trans (hw18 _ q); omega)
      have F18_lq := F16_lq.keep K18 (fun q => by have z := (W0.2.2.2.2.2).symm.trans (hw18 _ q); omega)
      have F18_dt := A16.keep K18 (fun q => by have z := (W0.2.2.2.2.1).symm.trans (hw18 _ q); omega)
      have RP2 := RP1.thru K18 hw18 (by omega)
      refine own_aloadN (n := 167) X18 hx (hb hby d13_166) rfl rfl rfl ?_
      refine own_getF (n := 170) X18 hx hZ hown (hw _ (List.mem_of_getElem? (i := 60) rfl)) e18 F18_a1.2.2.2.2.2.1 (hb hby d13_167) rfl ?_
      intro T19 X19 e19
      refine own_iload (n := 172) X19 hx (hb hby d13_170) rfl rfl ?_
      refine own_iloadN (n := 173) X19 hx (hb hby d13_172) rfl rfl ?_
      have W2 : OWNS (fun x => if h18.size ≤ x then 50 else (fun x => if h16.size ≤ x then sj else own x) x) a1 lf fe cf lq dt := W1.up F18_a1.lt F18_lf.lt F18_fe.lt F18_cf.lt F18_dt.lt F18_lq.lt
      refine own_callV (n := 176) X19 hx hZ hown (hw _ (List.mem_of_getElem? (i := 106) rfl)) (hw _ (List.mem_of_getElem? (i := 107) rfl)) (hw _ (List.mem_of_getElem? (i := 109) rfl)) (hw _ (List.mem_of_getElem? (i := 108) rfl)) (hw _ (List.mem_of_getElem? (i := 19) rfl)) (hw _ (List.mem_of_getElem? (i := 110) rfl)) (by decide) e19 RP2.exa (rm16 l Z a0 hw [] pl dl p4 (fun x => if h16.size ≤ x then sj else own x) 50 dp h18 n0 Z18 OL18 RP2 (by omega)) (W := 0) (by decide) (by decide) (by decide) (by decide) (by rw [hml]; rfl) (argsL := [(.int dl), (.int p4)]) (rest := []) pd_16 rfl (by rfl) (Nat.le_of_eq rfl) (hb hby d13_173) rfl rfl ?_
      intro v20 T20 h20 L20 X20 e20 q20
      obtain ⟨rfl, M20, OL20, ⟨ws20, K20, hw20⟩, d20, hd20, R20⟩ := q20
      have N20 := Fr.app N18 M20
      have Z20 := own_oldz OL20
      have F20_a1 := F18_a1.keep K20 (fun q => by have z := (W1.1).symm.trans (hw20 _ q); omega)
      have F20_lf := F18_lf.keep K20 (fun q => by have z := (W1.2.1).symm.trans (hw20 _ q); omega)
      have F20_fe := F18_fe.keep K20 (fun q => by have z := (W1.2.2.1).symm.trans (hw20 _ q); omega)
      have F20_cf := F18_cf.keep K20 (fun q => by have z := (W1.2.2.2.1).symm.trans (hw20 _ q); omega)
      have F20_lq := F18_lq.keep K20 (fun q => by have z := (W1.2.2.2.2.2).symm.trans (hw20 _ q); omega)
      have F20_dt := F18_dt.keep K20 (fun q => by have z := (W1.2.2.2.2.1).symm.trans (hw20 _ q); omega)
      refine own_aloadN (n := 177) X20 hx (hb hby d13_176) rfl rfl rfl ?_
      refine own_iconst (n := 178) X20 hx (0 : Int32) (hb hby d13_177) rfl rfl ?_
      refine own_putF (n := 181) X20 hx hZ hown (hw _ (List.mem_of_getElem? (i := 71) rfl)) e20 F20_a1.2.2.2.2.2.2.2.2.2.2.1 F20_a1.1 (Or.inl (hw _ (List.mem_of_getElem? (i := 72) rfl))) (hw _ (List.mem_of_getElem? (i := 9) rfl)) (ty := .boolean) (by decide) rfl rfl (hb hby d13_178) rfl ?_
      intro T21 h21 X21 e21 W21
      have N21 := Fr.snoc X21 N20 nb
      have Z21 : n0 ≤ h21.size := Nat.le_trans Z20 (Keep.of_wr W21).1
      have OL21 := OL20.wr W21 nb
      have F21_a1 := F20_a1.set_alikeKnown hw W21
      have F21_lf := F20_lf.wrO W21 (Ne.symm (own_neOA F20_a1.1 (hw _ (List.mem_of_getElem? (i := 9) rfl)) F20_lf))
      have F21_fe := F20_fe.wrO W21 (Ne.symm (own_neOA F20_a1.1 (hw _ (List.mem_of_getElem? (i := 9) rfl)) F20_fe))
      have F21_cf := F20_cf.wrO W21 (Ne.symm (own_neOA F20_a1.1 (hw _ (List.mem_of_getElem? (i := 9) rfl)) F20_cf))
      have F21_lq := F20_lq.wrO W21 (Ne.symm (own_neOA F20_a1.1 (hw _ (List.mem_of_getElem? (i := 9) rfl)) F20_lq.va))
      have F21_dt := F20_dt.wrO W21 (Ne.symm (own_neOA F20_a1.1 (hw _ (List.mem_of_getElem? (i := 9) rfl)) F20_dt))
      have K21 : Keep _ h21 [a1] := (Keep.refl h20 [a1]).wr W21 (Or.inl (List.mem_of_getElem? (i := 0) rfl))
      refine own_retV X21 hx lk hret (hb hby d13_181) (by decide) (by decide) ?_
      rw [e21]
      have e1 : chg sj = (if p4 = 0 then chg sj else chg sj + 1) := (if_pos c94).symm
      have e2 : fs + 1 = (if lastf sj < 0 then fs + 1 else fs) := (if_pos c63).symm
      have e3 : pc = (if p4 = 0 then pc else pc + 1) := (if_pos c94).symm
      have FF := F21_a1
      rw [e2, e3, ← g_dl] at FF
      refine ⟨rfl, N21, OL21, (fun x => if h18.size ≤ x then 50 else (fun x => if h16.size ≤ x then sj else own x) x), lf, fe, cf, lq, pl, dt, rl, _, FF, F21_lf, F21_fe, (IA.congr F21_cf (fun j _ => own_fix e1 j)), F21_lq, (DA.congr F21_dt (fun j _ => own_fix2 (E3.trans (congrArg (fun c => DSP c p2) e1)) j)), W2, ⟨nb, nlf, nfe, ncf, ndt⟩, fun j hj => ?_, d20, by omega, R20.other K21 (fun x hx => by cases List.mem_singleton.mp hx; exact fun e => by have z := W2.1.symm.trans e; omega)⟩
      by_cases e : j = sj
      · subst e
        exact ⟨d18, by omega, (R18.thru K20 hw20 (by omega)).other K21 (fun x hx => by cases List.mem_singleton.mp hx; exact fun e => by have z := W2.1.symm.trans e; omega)⟩
      · obtain ⟨d, q, z⟩ := hR1 j hj
        exact ⟨d, by omega, ((z.thru K18 hw18 (fun y => e y.symm)).thru K20 hw20 (by omega)).other K21 (fun x hx => by cases List.mem_singleton.mp hx; exact fun e => by have z := W2.1.symm.trans e; omega)⟩
    · refine own_ifNo (n := 97) X11 hx (hb hby d13_94) (Jvm.Free.XT.i0_eq_f c94) rfl ?_
      refine own_aloadN (n := 98) X11 hx (hb hby d13_97) rfl rfl rfl ?_
      refine own_getF (n := 101) X11 hx hZ hown (hw _ (List.mem_of_getElem? (i := 55) rfl)) e11 F11_a1.2.2.2.1 (hb hby d13_98) rfl ?_
      intro T22 X22 e22
      refine own_iloadN (n := 102) X22 hx (hb hby d13_101) rfl rfl ?_
      refine own_dup2 (n := 103) X22 hx (hb hby d13_102) rfl rfl rfl ?_
      refine own_iaload (n := 104) X22 hx hZ e22 F11_cf (i := sj) hsrc hs (hb hby d13_103) rfl ?_
      refine own_iconst (n := 105) X22 hx (1 : Int32) (hb hby d13_104) rfl rfl ?_
      refine own_iadd (n := 106) X22 hx (hb hby d13_105) rfl ?_
      refine own_iastore (n := 107) X22 hx hZ e22 F11_cf (i := sj) hsrc hs (hb hby d13_106) rfl ?_
      intro T23 h23 X23 e23 W23 A23
      have N23 := Fr.snoc X23 N11 ncf
      have Z23 : n0 ≤ h23.size := Nat.le_trans Z11 (Keep.of_wr W23).1
      have OL23 := OL11.wr W23 ncf
      have F23_a1 := F11_a1.wrO W23 (own_neOA F11_a1.1 (hw _ (List.mem_of_getElem? (i := 9) rfl)) F11_cf)
      have F23_lf := F11_lf.wrO W23 ne_lf_cf
      have F23_fe := A11.wrO W23 ne_fe_cf
      have F23_lq := F11_lq.wrO W23 (own_neAA F11_lq.va F11_cf (by decide))
      have F23_dt := F11_dt.wrO W23 (own_neAA F11_dt F11_cf (by decide))
      have K23 : Keep _ h23 [a1, lf, fe, cf, dt] := K11.wr W23 (Or.inl (List.mem_of_getElem? (i := 3) rfl))
      refine own_aloadN (n := 108) X23 hx (hb hby d13_107) rfl rfl rfl ?_
      refine own_dup (n := 109) X23 hx (hb hby d13_108) rfl rfl ?_
      refine own_getF (n := 112) X23 hx hZ hown (hw _ (List.mem_of_getElem? (i := 77) rfl)) e23 F23_a1.2.2.2.2.2.2.2.2.1 (hb hby d13_109) rfl ?_
      intro T24 X24 e24
      refine own_lconst (n := 113) X24 hx (1 : Int64) (hb hby d13_112) rfl rfl ?_
      refine own_ladd (n := 114) X24 hx (hb hby d13_113) rfl ?_
      refine own_putF (n := 117) X24 hx hZ hown (hw _ (List.mem_of_getElem? (i := 77) rfl)) e24 F23_a1.2.2.2.2.2.2.2.2.1 F23_a1.1 (Or.inl (hw _ (List.mem_of_getElem? (i := 78) rfl))) (hw _ (List.mem_of_getElem? (i := 9) rfl)) (ty := .long) (by decide) rfl rfl (hb hby d13_114) rfl ?_
      intro T25 h25 X25 e25 W25
      have N25 := Fr.snoc X25 N23 nb
      have Z25 : n0 ≤ h25.size := Nat.le_trans Z23 (Keep.of_wr W25).1
      have OL25 := OL23.wr W25 nb
      have F25_a1 := F23_a1.set_pooledChangedFetches hw W25
      have F25_lf := F23_lf.wrO W25 (Ne.symm (own_neOA F23_a1.1 (hw _ (List.mem_of_getElem? (i := 9) rfl)) F23_lf))
      have F25_fe := F23_fe.wrO W25 (Ne.symm (own_neOA F23_a1.1 (hw _ (List.mem_of_getElem? (i := 9) rfl)) F23_fe))
      have F25_cf := A23.wrO W25 (Ne.symm (own_neOA F23_a1.1 (hw _ (List.mem_of_getElem? (i := 9) rfl)) A23))
      have F25_lq := F23_lq.wrO W25 (Ne.symm (own_neOA F23_a1.1 (hw _ (List.mem_of_getElem? (i := 9) rfl)) F23_lq.va))
      have F25_dt := F23_dt.wrO W25 (Ne.symm (own_neOA F23_a1.1 (hw _ (List.mem_of_getElem? (i := 9) rfl)) F23_dt))
      have K25 : Keep _ h25 [a1, lf, fe, cf, dt] := K23.wr W25 (Or.inl (List.mem_of_getElem? (i := 0) rfl))
      refine own_aloadN (n := 118) X25 hx (hb hby d13_117) rfl rfl rfl ?_
      refine own_dup (n := 119) X25 hx (hb hby d13_118) rfl rfl ?_
      refine own_getF (n := 122) X25 hx hZ hown (hw _ (List.mem_of_getElem? (i := 104) rfl)) e25 F25_a1.2.2.2.2.2.2.2.2.2.1 (hb hby d13_119) rfl ?_
      intro T26 X26 e26
      refine own_iload (n := 124) X26 hx (hb hby d13_122) rfl rfl ?_
      refine own_i2l (n := 125) X26 hx (hb hby d13_124) rfl ?_
      refine own_ladd (n := 126) X26 hx (hb hby d13_125) rfl ?_
      refine own_putF (n := 129) X26 hx hZ hown (hw _ (List.mem_of_getElem? (i := 104) rfl)) e26 F25_a1.2.2.2.2.2.2.2.2.2.1 F25_a1.1 (Or.inl (hw _ (List.mem_of_getElem? (i := 105) rfl))) (hw _ (List.mem_of_getElem? (i := 9) rfl)) (ty := .long) (by decide) rfl rfl (hb hby d13_126) rfl ?_
      intro T27 h27 X27 e27 W27
      have N27 := Fr.snoc X27 N25 nb
      have Z27 : n0 ≤ h27.size := Nat.le_trans Z25 (Keep.of_wr W27).1
      have OL27 := OL25.wr W27 nb
      have F27_a1 := F25_a1.set_pooledSlots hw W27
      have F27_lf := F25_lf.wrO W27 (Ne.symm (own_neOA F25_a1.1 (hw _ (List.mem_of_getElem? (i := 9) rfl)) F25_lf))
      have F27_fe := F25_fe.wrO W27 (Ne.symm (own_neOA F25_a1.1 (hw _ (List.mem_of_getElem? (i := 9) rfl)) F25_fe))
      have F27_cf := F25_cf.wrO W27 (Ne.symm (own_neOA F25_a1.1 (hw _ (List.mem_of_getElem? (i := 9) rfl)) F25_cf))
      have F27_lq := F25_lq.wrO W27 (Ne.symm (own_neOA F25_a1.1 (hw _ (List.mem_of_getElem? (i := 9) rfl)) F25_lq.va))
      have F27_dt := F25_dt.wrO W27 (Ne.symm (own_neOA F25_a1.1 (hw _ (List.mem_of_getElem? (i := 9) rfl)) F25_dt))
      have K27 : Keep _ h27 [a1, lf, fe, cf, dt] := K25.wr W27 (Or.inl (List.mem_of_getElem? (i := 0) rfl))
      refine own_aloadN (n := 130) X27 hx (hb hby d13_129) rfl rfl rfl ?_
      refine own_getF (n := 133) X27 hx hZ hown (hw _ (List.mem_of_getElem? (i := 55) rfl)) e27 F27_a1.2.2.2.1 (hb hby d13_130) rfl ?_
      intro T28 X28 e28
      refine own_iloadN (n := 134) X28 hx (hb hby d13_133) rfl rfl ?_
      refine own_iaload (n := 135) X28 hx hZ e28 F27_cf (i := sj) hsrc hs (hb hby d13_134) rfl ?_
      refine own_i2d (n := 136) X28 hx (hb hby d13_135) rfl ?_
      refine own_dstore (n := 138) X28 hx (hb hby d13_136) (l' := #[.val (.ref a1), .val (.int p2), .val (.int p3), .val (.int p4), .val (.int dl), .val (.double (FP.i2d ((fun y => if y = sj then ((chg sj) + (1 : Int32)) else chg y) sj))), .second]) rfl rfl ?_
      show Ends p e below (EF s ({ frames := 4, cells := 4, slots := 32, locals := 103 } : Room).cells ({ frames := 4, cells := 4, slots := 32, locals := 103 } : Room).slots) (Q13 Z a1 p2 p3 p4 km lastf chg dsp fs pc ps kn av ob sj h0 n0) (T28.setTop (mkF m 138 #[.val (.ref a1), .val (.int p2), .val (.int p3), .val (.int p4), .val (.int dl), .val (.double (FP.i2d ((fun y => if y = sj then ((chg sj) + (1 : Int32)) else chg y) sj))), .second] []))
      generalize g_dx : (FP.i2d ((fun y => if y = sj then ((chg sj) + (1 : Int32)) else chg y) sj)) = dx
      refine own_aloadN (n := 139) X28 hx (hb hby d13_138) rfl rfl rfl ?_
      refine own_getF (n := 142) X28 hx hZ hown (hw _ (List.mem_of_getElem? (i := 63) rfl)) e28 F27_a1.2.2.2.2.2.2.1 (hb hby d13_139) rfl ?_
      intro T29 X29 e29
      refine own_iloadN (n := 143) X29 hx (hb hby d13_142) rfl rfl ?_
      refine own_dload (n := 145) X29 hx (hb hby d13_143) rfl rfl ?_
      refine own_dload (n := 147) X29 hx (hb hby d13_145) rfl rfl ?_
      have hcc : 0 ≤ (chg sj + (1 : Int32)).toInt ∧ (chg sj + (1 : Int32)).toInt ≤ 2 := by have q := c_iadd (chg sj) 1; have r := rng32 (chg sj + 1); have o : (1 : Int32).toInt = 1 := rfl; omega
      obtain ⟨E1, E1a⟩ := own_sq (c := (chg sj + (1 : Int32))) hcc.1 hcc.2
      have hdx : dx = FP.i2d (chg sj + (1 : Int32)) := g_dx.symm.trans (congrArg FP.i2d (if_pos rfl))
      have E1' : FP.dmul dx dx = FP.l2d ((chg sj + (1 : Int32)).toInt64 * (chg sj + (1 : Int32)).toInt64) := by rw [hdx]; exact E1
      refine own_dmul (n := 148) X29 hx (hb hby d13_147) (Jvm.RoadKit.nn_w E1') rfl ?_
      refine own_iloadN (n := 149) X29 hx (hb hby d13_148) rfl rfl ?_
      refine own_i2d (n := 150) X29 hx (hb hby d13_149) rfl ?_
      refine own_dconst1 (n := 151) X29 hx (hb hby d13_150) rfl ?_
      obtain ⟨E2, E2a⟩ := own_e2 hl0
      refine own_dadd (n := 152) X29 hx (hb hby d13_151) (Jvm.RoadKit.nn_w E2) rfl ?_
      have E3 : FP.ddiv (FP.dmul dx dx) (FP.dadd (FP.i2d p2) (4607182418800017408 : UInt64)) = DSP (chg sj + (1 : Int32)) p2 := by rw [E1', E2]; rfl
      refine own_ddiv (n := 153) X29 hx (hb hby d13_152) (by rw [E3]; exact own_nn (own_dspv hcc.1 hcc.2 hl0)) rfl ?_
      refine own_dastore (n := 154) X29 hx hZ e29 F27_dt (i := sj) hsrc hs (hb hby d13_153) rfl ?_
      intro T30 h30 X30 e30 W30 A30
      have N30 := Fr.snoc X30 N27 ndt
      have Z30 : n0 ≤ h30.size := Nat.le_trans Z27 (Keep.of_wr W30).1
      have OL30 := OL27.wr W30 ndt
      have F30_a1 := F27_a1.wrO W30 (own_neOA F27_a1.1 (hw _ (List.mem_of_getElem? (i := 9) rfl)) F27_dt)
      have F30_lf := F27_lf.wrO W30 (own_neAA F27_lf F27_dt (by decide))
      have F30_fe := F27_fe.wrO W30 (own_neAA F27_fe F27_dt (by decide))
      have F30_cf := F27_cf.wrO W30 (own_neAA F27_cf F27_dt (by decide))
      have F30_lq := F27_lq.wrO W30 (own_neAA F27_lq.va F27_dt (by decide))
      have K30 : Keep _ h30 [a1, lf, fe, cf, dt] := K27.wr W30 (Or.inl (List.mem_of_getElem? (i := 4) rfl))
      refine own_aloadN (n := 155) X30 hx (hb hby d13_154) rfl rfl rfl ?_
      refine own_getF (n := 158) X30 hx hZ hown (hw _ (List.mem_of_getElem? (i := 58) rfl)) e30 F30_a1.2.2.2.2.1 (hb hby d13_155) rfl ?_
      intro T31 X31 e31
      refine own_iloadN (n := 159) X31 hx (hb hby d13_158) rfl rfl ?_
      refine own_aaload (n := 160) X31 hx hZ e31 F30_lq (i := sj) hsrc hs (v := (.ref (rl sj))) rfl (hb hby d13_159) rfl ?_
      refine own_iload (n := 162) X31 hx (hb hby d13_160) rfl rfl ?_
      refine own_iloadN (n := 163) X31 hx (hb hby d13_162) rfl rfl ?_
      obtain ⟨dr, hdr, RS⟩ := hR sj hs
      have RS1 := RS.other K30 (own_wsC W0 (by omega))
      have RP1 := RP.other K30 (own_wsC W0 (by decide))
      have hR1 : ∀ j, j < km → ∃ d, d ≤ ob + 1 ∧ RLI Z h30 n0 own j (rl j) d := fun j hj => by obtain ⟨d, q, z⟩ := hR j hj; exact ⟨d, q, z.other K30 (own_wsC W0 (by omega))⟩
      have W1 : OWNS (fun x => if h30.size ≤ x then sj else own x) a1 lf fe cf lq dt := W0.up F30_a1.lt F30_lf.lt F30_fe.lt F30_cf.lt A30.lt F30_lq.lt
      refine own_callV (n := 166) X31 hx hZ hown (hw _ (List.mem_of_getElem? (i := 106) rfl)) (hw _ (List.mem_of_getElem? (i := 107) rfl)) (hw _ (List.mem_of_getElem? (i := 109) rfl)) (hw _ (List.mem_of_getElem? (i := 108) rfl)) (hw _ (List.mem_of_getElem? (i := 19) rfl)) (hw _ (List.mem_of_getElem? (i := 110) rfl)) (by decide) e31 RS1.exa (rm16 l Z a0 hw [] (rl sj) dl p4 own sj dr h30 n0 Z30 OL30 RS1 (by omega)) (W := 0) (by decide) (by decide) (by decide) (by decide) (by rw [hml]; rfl) (argsL := [(.int dl), (.int p4)]) (rest := []) pd_16 rfl (by rfl) (Nat.le_of_eq rfl) (hb hby d13_163) rfl rfl ?_
      intro v32 T32 h32 L32 X32 e32 q32
      obtain ⟨rfl, M32, OL32, ⟨ws32, K32, hw32⟩, d32, hd32, R32⟩ := q32
      have N32 := Fr.app N30 M32
      have Z32 := own_oldz OL32
      have F32_a1 := F30_a1.keep K32 (fun q => by have z := (W0.1).symm.trans (hw32 _ q); omega)
      have F32_lf := F30_lf.keep K32 (fun q => by have z := (W0.2.1).symm.trans (hw32 _ q); omega)
      have F32_fe := F30_fe.keep K32 (fun q => by have z := (W0.2.2.1).symm.trans (hw32 _ q); omega)
      have F32_cf := F30_cf.keep K32 (fun q => by have z := (W0.2.2.2.1).symm.trans (hw32 _ q); omega)
      have F32_lq := F30_lq.keep K32 (fun q => by have z := (W0.2.2.2.2.2).symm.trans (hw32 _ q); omega)
      have F32_dt := A30.keep K32 (fun q => by have z := (W0.2.2.2.2.1).symm.trans (hw32 _ q); omega)
      have RP2 := RP1.thru K32 hw32 (by omega)
      refine own_aloadN (n := 167) X32 hx (hb hby d13_166) rfl rfl rfl ?_
      refine own_getF (n := 170) X32 hx hZ hown (hw _ (List.mem_of_getElem? (i := 60) rfl)) e32 F32_a1.2.2.2.2.2.1 (hb hby d13_167) rfl ?_
      intro T33 X33 e33
      refine own_iload (n := 172) X33 hx (hb hby d13_170) rfl rfl ?_
      refine own_iloadN (n := 173) X33 hx (hb hby d13_172) rfl rfl ?_
      have W2 : OWNS (fun x => if h32.size ≤ x then 50 else (fun x => if h30.size ≤ x then sj else own x) x) a1 lf fe cf lq dt := W1.up F32_a1.lt F32_lf.lt F32_fe.lt F32_cf.lt F32_dt.lt F32_lq.lt
      refine own_callV (n := 176) X33 hx hZ hown (hw _ (List.mem_of_getElem? (i := 106) rfl)) (hw _ (List.mem_of_getElem? (i := 107) rfl)) (hw _ (List.mem_of_getElem? (i := 109) rfl)) (hw _ (List.mem_of_getElem? (i := 108) rfl)) (hw _ (List.mem_of_getElem? (i := 19) rfl)) (hw _ (List.mem_of_getElem? (i := 110) rfl)) (by decide) e33 RP2.exa (rm16 l Z a0 hw [] pl dl p4 (fun x => if h30.size ≤ x then sj else own x) 50 dp h32 n0 Z32 OL32 RP2 (by omega)) (W := 0) (by decide) (by decide) (by decide) (by decide) (by rw [hml]; rfl) (argsL := [(.int dl), (.int p4)]) (rest := []) pd_16 rfl (by rfl) (Nat.le_of_eq rfl) (hb hby d13_173) rfl rfl ?_
      intro v34 T34 h34 L34 X34 e34 q34
      obtain ⟨rfl, M34, OL34, ⟨ws34, K34, hw34⟩, d34, hd34, R34⟩ := q34
      have N34 := Fr.app N32 M34
      have Z34 := own_oldz OL34
      have F34_a1 := F32_a1.keep K34 (fun q => by have z := (W1.1).symm.trans (hw34 _ q); omega)
      have F34_lf := F32_lf.keep K34 (fun q => by have z := (W1.2.1).symm.trans (hw34 _ q); omega)
      have F34_fe := F32_fe.keep K34 (fun q => by have z := (W1.2.2.1).symm.trans (hw34 _ q); omega)
      have F34_cf := F32_cf.keep K34 (fun q => by have z := (W1.2.2.2.1).symm.trans (hw34 _ q); omega)
      have F34_lq := F32_lq.keep K34 (fun q => by have z := (W1.2.2.2.2.2).symm.trans (hw34 _ q); omega)
      have F34_dt := F32_dt.keep K34 (fun q => by have z := (W1.2.2.2.2.1).symm.trans (hw34 _ q); omega)
      refine own_aloadN (n := 177) X34 hx (hb hby d13_176) rfl rfl rfl ?_
      refine own_iconst (n := 178) X34 hx (0 : Int32) (hb hby d13_177) rfl rfl ?_
      refine own_putF (n := 181) X34 hx hZ hown (hw _ (List.mem_of_getElem? (i := 71) rfl)) e34 F34_a1.2.2.2.2.2.2.2.2.2.2.1 F34_a1.1 (Or.inl (hw _ (List.mem_of_getElem? (i := 72) rfl))) (hw _ (List.mem_of_getElem? (i := 9) rfl)) (ty := .boolean) (by decide) rfl rfl (hb hby d13_178) rfl ?_
      intro T35 h35 X35 e35 W35
      have N35 := Fr.snoc X35 N34 nb
      have Z35 : n0 ≤ h35.size := Nat.le_trans Z34 (Keep.of_wr W35).1
      have OL35 := OL34.wr W35 nb
      have F35_a1 := F34_a1.set_alikeKnown hw W35
      have F35_lf := F34_lf.wrO W35 (Ne.symm (own_neOA F34_a1.1 (hw _ (List.mem_of_getElem? (i := 9) rfl)) F34_lf))
      have F35_fe := F34_fe.wrO W35 (Ne.symm (own_neOA F34_a1.1 (hw _ (List.mem_of_getElem? (i := 9) rfl)) F34_fe))
      have F35_cf := F34_cf.wrO W35 (Ne.symm (own_neOA F34_a1.1 (hw _ (List.mem_of_getElem? (i := 9) rfl)) F34_cf))
      have F35_lq := F34_lq.wrO W35 (Ne.symm (own_neOA F34_a1.1 (hw _ (List.mem_of_getElem? (i := 9) rfl)) F34_lq.va))
      have F35_dt := F34_dt.wrO W35 (Ne.symm (own_neOA F34_a1.1 (hw _ (List.mem_of_getElem? (i := 9) rfl)) F34_dt))
      have K35 : Keep _ h35 [a1] := (Keep.refl h34 [a1]).wr W35 (Or.inl (List.mem_of_getElem? (i := 0) rfl))
      refine own_retV X35 hx lk hret (hb hby d13_181) (by decide) (by decide) ?_
      rw [e35]
      have e1 : chg sj + 1 = (if p4 = 0 then chg sj else chg sj + 1) := (if_neg c94).symm
      have e2 : fs + 1 = (if lastf sj < 0 then fs + 1 else fs) := (if_pos c63).symm
      have e3 : pc + 1 = (if p4 = 0 then pc else pc + 1) := (if_neg c94).symm
      have FF := F35_a1
      rw [e2, e3, ← g_dl] at FF
      refine ⟨rfl, N35, OL35, (fun x => if h32.size ≤ x then 50 else (fun x => if h30.size ≤ x then sj else own x) x), lf, fe, cf, lq, pl, dt, rl, _, FF, F35_lf, F35_fe, (IA.congr F35_cf (fun j _ => own_fix2 e1 j)), F35_lq, (DA.congr F35_dt (fun j _ => own_fix2 (E3.trans (congrArg (fun c => DSP c p2) e1)) j)), W2, ⟨nb, nlf, nfe, ncf, ndt⟩, fun j hj => ?_, d34, by omega, R34.other K35 (fun x hx => by cases List.mem_singleton.mp hx; exact fun e => by have z := W2.1.symm.trans e; omega)⟩
      by_cases e : j = sj
      · subst e
        exact ⟨d32, by omega, (R32.thru K34 hw34 (by omega)).other K35 (fun x hx => by cases List.mem_singleton.mp hx; exact fun e => by have z := W2.1.symm.trans e; omega)⟩
      · obtain ⟨d, q, z⟩ := hR1 j hj
        exact ⟨d, by omega, ((z.thru K32 hw32 (fun y => e y.symm)).thru K34 hw34 (by omega)).other K35 (fun x hx => by cases List.mem_singleton.mp hx; exact fun e => by have z := W2.1.symm.trans e; omega)⟩
  · refine own_ifYes (n := 76) X5 hx (hb hby d13_63) (Jvm.Free.XT.i0_ge_t c63) (by decide) (by decide) ?_
    refine own_aloadN (n := 77) X5 hx (hb hby d13_76) rfl rfl rfl ?_
    refine own_getF (n := 80) X5 hx hZ hown (hw _ (List.mem_of_getElem? (i := 47) rfl)) e5 F0.2.1 (hb hby d13_77) rfl ?_
    intro T36 X36 e36
    refine own_iloadN (n := 81) X36 hx (hb hby d13_80) rfl rfl ?_
    refine own_iloadN (n := 82) X36 hx (hb hby d13_81) rfl rfl ?_
    refine own_iastore (n := 83) X36 hx hZ e36 Ai (i := sj) hsrc hs (hb hby d13_82) rfl ?_
    intro T37 h37 X37 e37 W37 A37
    have N37 := Fr.snoc X37 N2 nlf
    have Z37 : n0 ≤ h37.size := Nat.le_trans Z0 (Keep.of_wr W37).1
    have OL37 := OL.wr W37 nlf
    have F37_a1 := F0.wrO W37 (own_neOA F0.1 (hw _ (List.mem_of_getElem? (i := 9) rfl)) Ai)
    have F37_fe := Aj.wrO W37 (Ne.symm ne_lf_fe)
    have F37_cf := Ak.wrO W37 (Ne.symm ne_lf_cf)
    have F37_lq := Al.wrO W37 (own_neAA Al.va Ai (by decide))
    have F37_dt := Am.wrO W37 (own_neAA Am Ai (by decide))
    have K37 : Keep _ h37 [a1, lf, fe, cf, dt] := (Keep.refl h0 [a1, lf, fe, cf, dt]).wr W37 (Or.inl (List.mem_of_getElem? (i := 1) rfl))
    refine own_aloadN (n := 84) X37 hx (hb hby d13_83) rfl rfl rfl ?_
    refine own_getF (n := 87) X37 hx hZ hown (hw _ (List.mem_of_getElem? (i := 53) rfl)) e37 F37_a1.2.2.1 (hb hby d13_84) rfl ?_
    intro T38 X38 e38
    refine own_iloadN (n := 88) X38 hx (hb hby d13_87) rfl rfl ?_
    refine own_dup2 (n := 89) X38 hx (hb hby d13_88) rfl rfl rfl ?_
    refine own_iaload (n := 90) X38 hx hZ e38 F37_fe (i := sj) hsrc hs (hb hby d13_89) rfl ?_
    refine own_iconst (n := 91) X38 hx (1 : Int32) (hb hby d13_90) rfl rfl ?_
    refine own_iadd (n := 92) X38 hx (hb hby d13_91) rfl ?_
    refine own_iastore (n := 93) X38 hx hZ e38 F37_fe (i := sj) hsrc hs (hb hby d13_92) rfl ?_
    intro T39 h39 X39 e39 W39 A39
    have N39 := Fr.snoc X39 N37 nfe
    have Z39 : n0 ≤ h39.size := Nat.le_trans Z37 (Keep.of_wr W39).1
    have OL39 := OL37.wr W39 nfe
    have F39_a1 := F37_a1.wrO W39 (own_neOA F37_a1.1 (hw _ (List.mem_of_getElem? (i := 9) rfl)) F37_fe)
    have F39_lf := A37.wrO W39 ne_lf_fe
    have F39_cf := F37_cf.wrO W39 (Ne.symm ne_fe_cf)
    have F39_lq := F37_lq.wrO W39 (own_neAA F37_lq.va F37_fe (by decide))
    have F39_dt := F37_dt.wrO W39 (own_neAA F37_dt F37_fe (by decide))
    have K39 : Keep _ h39 [a1, lf, fe, cf, dt] := K37.wr W39 (Or.inl (List.mem_of_getElem? (i := 2) rfl))
    refine own_iloadN (n := 94) X39 hx (hb hby d13_93) rfl rfl ?_
    by_cases c94 : p4 = 0
    · refine own_ifYes (n := 117) X39 hx (hb hby d13_94) (Jvm.Free.XT.i0_eq_t c94) (by decide) (by decide) ?_
      refine own_aloadN (n := 118) X39 hx (hb hby d13_117) rfl rfl rfl ?_
      refine own_dup (n := 119) X39 hx (hb hby d13_118) rfl rfl ?_
      refine own_getF (n := 122) X39 hx hZ hown (hw _ (List.mem_of_getElem? (i := 104) rfl)) e39 F39_a1.2.2.2.2.2.2.2.2.2.1 (hb hby d13_119) rfl ?_
      intro T40 X40 e40
      refine own_iload (n := 124) X40 hx (hb hby d13_122) rfl rfl ?_
      refine own_i2l (n := 125) X40 hx (hb hby d13_124) rfl ?_
      refine own_ladd (n := 126) X40 hx (hb hby d13_125) rfl ?_
      refine own_putF (n := 129) X40 hx hZ hown (hw _ (List.mem_of_getElem? (i := 104) rfl)) e40 F39_a1.2.2.2.2.2.2.2.2.2.1 F39_a1.1 (Or.inl (hw _ (List.mem_of_getElem? (i := 105) rfl))) (hw _ (List.mem_of_getElem? (i := 9) rfl)) (ty := .long) (by decide) rfl rfl (hb hby d13_126) rfl ?_
      intro T41 h41 X41 e41 W41
      have N41 := Fr.snoc X41 N39 nb
      have Z41 : n0 ≤ h41.size := Nat.le_trans Z39 (Keep.of_wr W41).1
      have OL41 := OL39.wr W41 nb
      have F41_a1 := F39_a1.set_pooledSlots hw W41
      have F41_lf := F39_lf.wrO W41 (Ne.symm (own_neOA F39_a1.1 (hw _ (List.mem_of_getElem? (i := 9) rfl)) F39_lf))
      have F41_fe := A39.wrO W41 (Ne.symm (own_neOA F39_a1.1 (hw _ (List.mem_of_getElem? (i := 9) rfl)) A39))
      have F41_cf := F39_cf.wrO W41 (Ne.symm (own_neOA F39_a1.1 (hw _ (List.mem_of_getElem? (i := 9) rfl)) F39_cf))
      have F41_lq := F39_lq.wrO W41 (Ne.symm (own_neOA F39_a1.1 (hw _ (List.mem_of_getElem? (i := 9) rfl)) F39_lq.va))
      have F41_dt := F39_dt.wrO W41 (Ne.symm (own_neOA F39_a1.1 (hw _ (List.mem_of_getElem? (i := 9) rfl)) F39_dt))
      have K41 : Keep _ h41 [a1, lf, fe, cf, dt] := K39.wr W41 (Or.inl (List.mem_of_getElem? (i := 0) rfl))
      refine own_aloadN (n := 130) X41 hx (hb hby d13_129) rfl rfl rfl ?_
      refine own_getF (n := 133) X41 hx hZ hown (hw _ (List.mem_of_getElem? (i := 55) rfl)) e41 F41_a1.2.2.2.1 (hb hby d13_130) rfl ?_
      intro T42 X42 e42
      refine own_iloadN (n := 134) X42 hx (hb hby d13_133) rfl rfl ?_
      refine own_iaload (n := 135) X42 hx hZ e42 F41_cf (i := sj) hsrc hs (hb hby d13_134) rfl ?_
      refine own_i2d (n := 136) X42 hx (hb hby d13_135) rfl ?_
      refine own_dstore (n := 138) X42 hx (hb hby d13_136) (l' := #[.val (.ref a1), .val (.int p2), .val (.int p3), .val (.int p4), .val (.int dl), .val (.double (FP.i2d (chg sj))), .second]) rfl rfl ?_
      show Ends p e below (EF s ({ frames := 4, cells := 4, slots := 32, locals := 103 } : Room).cells ({ frames := 4, cells := 4, slots := 32, locals := 103 } : Room).slots) (Q13 Z a1 p2 p3 p4 km lastf chg dsp fs pc ps kn av ob sj h0 n0) (T42.setTop (mkF m 138 #[.val (.ref a1), .val (.int p2), .val (.int p3), .val (.int p4), .val (.int dl), .val (.double (FP.i2d (chg sj))), .second] []))
      generalize g_dx : (FP.i2d (chg sj)) = dx
      refine own_aloadN (n := 139) X42 hx (hb hby d13_138) rfl rfl rfl ?_
      refine own_getF (n := 142) X42 hx hZ hown (hw _ (List.mem_of_getElem? (i := 63) rfl)) e42 F41_a1.2.2.2.2.2.2.1 (hb hby d13_139) rfl ?_
      intro T43 X43 e43
      refine own_iloadN (n := 143) X43 hx (hb hby d13_142) rfl rfl ?_
      refine own_dload (n := 145) X43 hx (hb hby d13_143) rfl rfl ?_
      refine own_dload (n := 147) X43 hx (hb hby d13_145) rfl rfl ?_
      obtain ⟨E1, E1a⟩ := own_sq (c := (chg sj)) hc0 (by omega)
      have hdx : dx = FP.i2d (chg sj) := g_dx.symm
      have E1' : FP.dmul dx dx = FP.l2d ((chg sj).toInt64 * (chg sj).toInt64) := by rw [hdx]; exact E1
      refine own_dmul (n := 148) X43 hx (hb hby d13_147) (Jvm.RoadKit.nn_w E1') rfl ?_
      refine own_iloadN (n := 149) X43 hx (hb hby d13_148) rfl rfl ?_
      refine own_i2d (n := 150) X43 hx (hb hby d13_149) rfl ?_
      refine own_dconst1 (n := 151) X43 hx (hb hby d13_150) rfl ?_
      obtain ⟨E2, E2a⟩ := own_e2 hl0
      refine own_dadd (n := 152) X43 hx (hb hby d13_151) (Jvm.RoadKit.nn_w E2) rfl ?_
      have E3 : FP.ddiv (FP.dmul dx dx) (FP.dadd (FP.i2d p2) (4607182418800017408 : UInt64)) = DSP (chg sj) p2 := by rw [E1', E2]; rfl
      refine own_ddiv (n := 153) X43 hx (hb hby d13_152) (by rw [E3]; exact own_nn (own_dspv hc0 (by omega) hl0)) rfl ?_
      refine own_dastore (n := 154) X43 hx hZ e43 F41_dt (i := sj) hsrc hs (hb hby d13_153) rfl ?_
      intro T44 h44 X44 e44 W44 A44
      have N44 := Fr.snoc X44 N41 ndt
      have Z44 : n0 ≤ h44.size := Nat.le_trans Z41 (Keep.of_wr W44).1
      have OL44 := OL41.wr W44 ndt
      have F44_a1 := F41_a1.wrO W44 (own_neOA F41_a1.1 (hw _ (List.mem_of_getElem? (i := 9) rfl)) F41_dt)
      have F44_lf := F41_lf.wrO W44 (own_neAA F41_lf F41_dt (by decide))
      have F44_fe := F41_fe.wrO W44 (own_neAA F41_fe F41_dt (by decide))
      have F44_cf := F41_cf.wrO W44 (own_neAA F41_cf F41_dt (by decide))
      have F44_lq := F41_lq.wrO W44 (own_neAA F41_lq.va F41_dt (by decide))
      have K44 : Keep _ h44 [a1, lf, fe, cf, dt] := K41.wr W44 (Or.inl (List.mem_of_getElem? (i := 4) rfl))
      refine own_aloadN (n := 155) X44 hx (hb hby d13_154) rfl rfl rfl ?_
      refine own_getF (n := 158) X44 hx hZ hown (hw _ (List.mem_of_getElem? (i := 58) rfl)) e44 F44_a1.2.2.2.2.1 (hb hby d13_155) rfl ?_
      intro T45 X45 e45
      refine own_iloadN (n := 159) X45 hx (hb hby d13_158) rfl rfl ?_
      refine own_aaload (n := 160) X45 hx hZ e45 F44_lq (i := sj) hsrc hs (v := (.ref (rl sj))) rfl (hb hby d13_159) rfl ?_
      refine own_iload (n := 162) X45 hx (hb hby d13_160) rfl rfl ?_
      refine own_iloadN (n := 163) X45 hx (hb hby d13_162) rfl rfl ?_
      obtain ⟨dr, hdr, RS⟩ := hR sj hs
      have RS1 := RS.other K44 (own_wsC W0 (by omega))
      have RP1 := RP.other K44 (own_wsC W0 (by decide))
      have hR1 : ∀ j, j < km → ∃ d, d ≤ ob + 1 ∧ RLI Z h44 n0 own j (rl j) d := fun j hj => by obtain ⟨d, q, z⟩ := hR j hj; exact ⟨d, q, z.other K44 (own_wsC W0 (by omega))⟩
      have W1 : OWNS (fun x => if h44.size ≤ x then sj else own x) a1 lf fe cf lq dt := W0.up F44_a1.lt F44_lf.lt F44_fe.lt F44_cf.lt A44.lt F44_lq.lt
      refine own_callV (n := 166) X45 hx hZ hown (hw _ (List.mem_of_getElem? (i := 106) rfl)) (hw _ (List.mem_of_getElem? (i := 107) rfl)) (hw _ (List.mem_of_getElem? (i := 109) rfl)) (hw _ (List.mem_of_getElem? (i := 108) rfl)) (hw _ (List.mem_of_getElem? (i := 19) rfl)) (hw _ (List.mem_of_getElem? (i := 110) rfl)) (by decide) e45 RS1.exa (rm16 l Z a0 hw [] (rl sj) dl p4 own sj dr h44 n0 Z44 OL44 RS1 (by omega)) (W := 0) (by decide) (by decide) (by decide) (by decide) (by rw [hml]; rfl) (argsL := [(.int dl), (.int p4)]) (rest := []) pd_16 rfl (by rfl) (Nat.le_of_eq rfl) (hb hby d13_163) rfl rfl ?_
      intro v46 T46 h46 L46 X46 e46 q46
      obtain ⟨rfl, M46, OL46, ⟨ws46, K46, hw46⟩, d46, hd46, R46⟩ := q46
      have N46 := Fr.app N44 M46
      have Z46 := own_oldz OL46
      have F46_a1 := F44_a1.keep K46 (fun q => by have z := (W0.1).symm.trans (hw46 _ q); omega)
      have F46_lf := F44_lf.keep K46 (fun q => by have z := (W0.2.1).symm.trans (hw46 _ q); omega)
      have F46_fe := F44_fe.keep K46 (fun q => by have z := (W0.2.2.1).symm.trans (hw46 _ q); omega)
      have F46_cf := F44_cf.keep K46 (fun q => by have z := (W0.2.2.2.1).symm.trans (hw46 _ q); omega)
      have F46_lq := F44_lq.keep K46 (fun q => by have z := (W0.2.2.2.2.2).symm.trans (hw46 _ q); omega)
      have F46_dt := A44.keep K46 (fun q => by have z := (W0.2.2.2.2.1).symm.trans (hw46 _ q); omega)
      have RP2 := RP1.thru K46 hw46 (by omega)
      refine own_aloadN (n := 167) X46 hx (hb hby d13_166) rfl rfl rfl ?_
      refine own_getF (n := 170) X46 hx hZ hown (hw _ (List.mem_of_getElem? (i := 60) rfl)) e46 F46_a1.2.2.2.2.2.1 (hb hby d13_167) rfl ?_
      intro T47 X47 e47
      refine own_iload (n := 172) X47 hx (hb hby d13_170) rfl rfl ?_
      refine own_iloadN (n := 173) X47 hx (hb hby d13_172) rfl rfl ?_
      have W2 : OWNS (fun x => if h46.size ≤ x then 50 else (fun x => if h44.size ≤ x then sj else own x) x) a1 lf fe cf lq dt := W1.up F46_a1.lt F46_lf.lt F46_fe.lt F46_cf.lt F46_dt.lt F46_lq.lt
      refine own_callV (n := 176) X47 hx hZ hown (hw _ (List.mem_of_getElem? (i := 106) rfl)) (hw _ (List.mem_of_getElem? (i := 107) rfl)) (hw _ (List.mem_of_getElem? (i := 109) rfl)) (hw _ (List.mem_of_getElem? (i := 108) rfl)) (hw _ (List.mem_of_getElem? (i := 19) rfl)) (hw _ (List.mem_of_getElem? (i := 110) rfl)) (by decide) e47 RP2.exa (rm16 l Z a0 hw [] pl dl p4 (fun x => if h44.size ≤ x then sj else own x) 50 dp h46 n0 Z46 OL46 RP2 (by omega)) (W := 0) (by decide) (by decide) (by decide) (by decide) (by rw [hml]; rfl) (argsL := [(.int dl), (.int p4)]) (rest := []) pd_16 rfl (by rfl) (Nat.le_of_eq rfl) (hb hby d13_173) rfl rfl ?_
      intro v48 T48 h48 L48 X48 e48 q48
      obtain ⟨rfl, M48, OL48, ⟨ws48, K48, hw48⟩, d48, hd48, R48⟩ := q48
      have N48 := Fr.app N46 M48
      have Z48 := own_oldz OL48
      have F48_a1 := F46_a1.keep K48 (fun q => by have z := (W1.1).symm.trans (hw48 _ q); omega)
      have F48_lf := F46_lf.keep K48 (fun q => by have z := (W1.2.1).symm.trans (hw48 _ q); omega)
      have F48_fe := F46_fe.keep K48 (fun q => by have z := (W1.2.2.1).symm.trans (hw48 _ q); omega)
      have F48_cf := F46_cf.keep K48 (fun q => by have z := (W1.2.2.2.1).symm.trans (hw48 _ q); omega)
      have F48_lq := F46_lq.keep K48 (fun q => by have z := (W1.2.2.2.2.2).symm.trans (hw48 _ q); omega)
      have F48_dt := F46_dt.keep K48 (fun q => by have z := (W1.2.2.2.2.1).symm.trans (hw48 _ q); omega)
      refine own_aloadN (n := 177) X48 hx (hb hby d13_176) rfl rfl rfl ?_
      refine own_iconst (n := 178) X48 hx (0 : Int32) (hb hby d13_177) rfl rfl ?_
      refine own_putF (n := 181) X48 hx hZ hown (hw _ (List.mem_of_getElem? (i := 71) rfl)) e48 F48_a1.2.2.2.2.2.2.2.2.2.2.1 F48_a1.1 (Or.inl (hw _ (List.mem_of_getElem? (i := 72) rfl))) (hw _ (List.mem_of_getElem? (i := 9) rfl)) (ty := .boolean) (by decide) rfl rfl (hb hby d13_178) rfl ?_
      intro T49 h49 X49 e49 W49
      have N49 := Fr.snoc X49 N48 nb
      have Z49 : n0 ≤ h49.size := Nat.le_trans Z48 (Keep.of_wr W49).1
      have OL49 := OL48.wr W49 nb
      have F49_a1 := F48_a1.set_alikeKnown hw W49
      have F49_lf := F48_lf.wrO W49 (Ne.symm (own_neOA F48_a1.1 (hw _ (List.mem_of_getElem? (i := 9) rfl)) F48_lf))
      have F49_fe := F48_fe.wrO W49 (Ne.symm (own_neOA F48_a1.1 (hw _ (List.mem_of_getElem? (i := 9) rfl)) F48_fe))
      have F49_cf := F48_cf.wrO W49 (Ne.symm (own_neOA F48_a1.1 (hw _ (List.mem_of_getElem? (i := 9) rfl)) F48_cf))
      have F49_lq := F48_lq.wrO W49 (Ne.symm (own_neOA F48_a1.1 (hw _ (List.mem_of_getElem? (i := 9) rfl)) F48_lq.va))
      have F49_dt := F48_dt.wrO W49 (Ne.symm (own_neOA F48_a1.1 (hw _ (List.mem_of_getElem? (i := 9) rfl)) F48_dt))
      have K49 : Keep _ h49 [a1] := (Keep.refl h48 [a1]).wr W49 (Or.inl (List.mem_of_getElem? (i := 0) rfl))
      refine own_retV X49 hx lk hret (hb hby d13_181) (by decide) (by decide) ?_
      rw [e49]
      have e1 : chg sj = (if p4 = 0 then chg sj else chg sj + 1) := (if_pos c94).symm
      have e2 : fs = (if lastf sj < 0 then fs + 1 else fs) := (if_neg c63).symm
      have e3 : pc = (if p4 = 0 then pc else pc + 1) := (if_pos c94).symm
      have FF := F49_a1
      rw [e2, e3, ← g_dl] at FF
      refine ⟨rfl, N49, OL49, (fun x => if h46.size ≤ x then 50 else (fun x => if h44.size ≤ x then sj else own x) x), lf, fe, cf, lq, pl, dt, rl, _, FF, F49_lf, F49_fe, (IA.congr F49_cf (fun j _ => own_fix e1 j)), F49_lq, (DA.congr F49_dt (fun j _ => own_fix2 (E3.trans (congrArg (fun c => DSP c p2) e1)) j)), W2, ⟨nb, nlf, nfe, ncf, ndt⟩, fun j hj => ?_, d48, by omega, R48.other K49 (fun x hx => by cases List.mem_singleton.mp hx; exact fun e => by have z := W2.1.symm.trans e; omega)⟩
      by_cases e : j = sj
      · subst e
        exact ⟨d46, by omega, (R46.thru K48 hw48 (by omega)).other K49 (fun x hx => by cases List.mem_singleton.mp hx; exact fun e => by have z := W2.1.symm.trans e; omega)⟩
      · obtain ⟨d, q, z⟩ := hR1 j hj
        exact ⟨d, by omega, ((z.thru K46 hw46 (fun y => e y.symm)).thru K48 hw48 (by omega)).other K49 (fun x hx => by cases List.mem_singleton.mp hx; exact fun e => by have z := W2.1.symm.trans e; omega)⟩
    · refine own_ifNo (n := 97) X39 hx (hb hby d13_94) (Jvm.Free.XT.i0_eq_f c94) rfl ?_
      refine own_aloadN (n := 98) X39 hx (hb hby d13_97) rfl rfl rfl ?_
      refine own_getF (n := 101) X39 hx hZ hown (hw _ (List.mem_of_getElem? (i := 55) rfl)) e39 F39_a1.2.2.2.1 (hb hby d13_98) rfl ?_
      intro T50 X50 e50
      refine own_iloadN (n := 102) X50 hx (hb hby d13_101) rfl rfl ?_
      refine own_dup2 (n := 103) X50 hx (hb hby d13_102) rfl rfl rfl ?_
      refine own_iaload (n := 104) X50 hx hZ e50 F39_cf (i := sj) hsrc hs (hb hby d13_103) rfl ?_
      refine own_iconst (n := 105) X50 hx (1 : Int32) (hb hby d13_104) rfl rfl ?_
      refine own_iadd (n := 106) X50 hx (hb hby d13_105) rfl ?_
      refine own_iastore (n := 107) X50 hx hZ e50 F39_cf (i := sj) hsrc hs (hb hby d13_106) rfl ?_
      intro T51 h51 X51 e51 W51 A51
      have N51 := Fr.snoc X51 N39 ncf
      have Z51 : n0 ≤ h51.size := Nat.le_trans Z39 (Keep.of_wr W51).1
      have OL51 := OL39.wr W51 ncf
      have F51_a1 := F39_a1.wrO W51 (own_neOA F39_a1.1 (hw _ (List.mem_of_getElem? (i := 9) rfl)) F39_cf)
      have F51_lf := F39_lf.wrO W51 ne_lf_cf
      have F51_fe := A39.wrO W51 ne_fe_cf
      have F51_lq := F39_lq.wrO W51 (own_neAA F39_lq.va F39_cf (by decide))
      have F51_dt := F39_dt.wrO W51 (own_neAA F39_dt F39_cf (by decide))
      have K51 : Keep _ h51 [a1, lf, fe, cf, dt] := K39.wr W51 (Or.inl (List.mem_of_getElem? (i := 3) rfl))
      refine own_aloadN (n := 108) X51 hx (hb hby d13_107) rfl rfl rfl ?_
      refine own_dup (n := 109) X51 hx (hb hby d13_108) rfl rfl ?_
      refine own_getF (n := 112) X51 hx hZ hown (hw _ (List.mem_of_getElem? (i := 77) rfl)) e51 F51_a1.2.2.2.2.2.2.2.2.1 (hb hby d13_109) rfl ?_
      intro T52 X52 e52
      refine own_lconst (n := 113) X52 hx (1 : Int64) (hb hby d13_112) rfl rfl ?_
      refine own_ladd (n := 114) X52 hx (hb hby d13_113) rfl ?_
      refine own_putF (n := 117) X52 hx hZ hown (hw _ (List.mem_of_getElem? (i := 77) rfl)) e52 F51_a1.2.2.2.2.2.2.2.2.1 F51_a1.1 (Or.inl (hw _ (List.mem_of_getElem? (i := 78) rfl))) (hw _ (List.mem_of_getElem? (i := 9) rfl)) (ty := .long) (by decide) rfl rfl (hb hby d13_114) rfl ?_
      intro T53 h53 X53 e53 W53
      have N53 := Fr.snoc X53 N51 nb
      have Z53 : n0 ≤ h53.size := Nat.le_trans Z51 (Keep.of_wr W53).1
      have OL53 := OL51.wr W53 nb
      have F53_a1 := F51_a1.set_pooledChangedFetches hw W53
      have F53_lf := F51_lf.wrO W53 (Ne.symm (own_neOA F51_a1.1 (hw _ (List.mem_of_getElem? (i := 9) rfl)) F51_lf))
      have F53_fe := F51_fe.wrO W53 (Ne.symm (own_neOA F51_a1.1 (hw _ (List.mem_of_getElem? (i := 9) rfl)) F51_fe))
      have F53_cf := A51.wrO W53 (Ne.symm (own_neOA F51_a1.1 (hw _ (List.mem_of_getElem? (i := 9) rfl)) A51))
      have F53_lq := F51_lq.wrO W53 (Ne.symm (own_neOA F51_a1.1 (hw _ (List.mem_of_getElem? (i := 9) rfl)) F51_lq.va))
      have F53_dt := F51_dt.wrO W53 (Ne.symm (own_neOA F51_a1.1 (hw _ (List.mem_of_getElem? (i := 9) rfl)) F51_dt))
      have K53 : Keep _ h53 [a1, lf, fe, cf, dt] := K51.wr W53 (Or.inl (List.mem_of_getElem? (i := 0) rfl))
      refine own_aloadN (n := 118) X53 hx (hb hby d13_117) rfl rfl rfl ?_
      refine own_dup (n := 119) X53 hx (hb hby d13_118) rfl rfl ?_
      refine own_getF (n := 122) X53 hx hZ hown (hw _ (List.mem_of_getElem? (i := 104) rfl)) e53 F53_a1.2.2.2.2.2.2.2.2.2.1 (hb hby d13_119) rfl ?_
      intro T54 X54 e54
      refine own_iload (n := 124) X54 hx (hb hby d13_122) rfl rfl ?_
      refine own_i2l (n := 125) X54 hx (hb hby d13_124) rfl ?_
      refine own_ladd (n := 126) X54 hx (hb hby d13_125) rfl ?_
      refine own_putF (n := 129) X54 hx hZ hown (hw _ (List.mem_of_getElem? (i := 104) rfl)) e54 F53_a1.2.2.2.2.2.2.2.2.2.1 F53_a1.1 (Or.inl (hw _ (List.mem_of_getElem? (i := 105) rfl))) (hw _ (List.mem_of_getElem? (i := 9) rfl)) (ty := .long) (by decide) rfl rfl (hb hby d13_126) rfl ?_
      intro T55 h55 X55 e55 W55
      have N55 := Fr.snoc X55 N53 nb
      have Z55 : n0 ≤ h55.size := Nat.le_trans Z53 (Keep.of_wr W55).1
      have OL55 := OL53.wr W55 nb
      have F55_a1 := F53_a1.set_pooledSlots hw W55
      have F55_lf := F53_lf.wrO W55 (Ne.symm (own_neOA F53_a1.1 (hw _ (List.mem_of_getElem? (i := 9) rfl)) F53_lf))
      have F55_fe := F53_fe.wrO W55 (Ne.symm (own_neOA F53_a1.1 (hw _ (List.mem_of_getElem? (i := 9) rfl)) F53_fe))
      have F55_cf := F53_cf.wrO W55 (Ne.symm (own_neOA F53_a1.1 (hw _ (List.mem_of_getElem? (i := 9) rfl)) F53_cf))
      have F55_lq := F53_lq.wrO W55 (Ne.symm (own_neOA F53_a1.1 (hw _ (List.mem_of_getElem? (i := 9) rfl)) F53_lq.va))
      have F55_dt := F53_dt.wrO W55 (Ne.symm (own_neOA F53_a1.1 (hw _ (List.mem_of_getElem? (i := 9) rfl)) F53_dt))
      have K55 : Keep _ h55 [a1, lf, fe, cf, dt] := K53.wr W55 (Or.inl (List.mem_of_getElem? (i := 0) rfl))
      refine own_aloadN (n := 130) X55 hx (hb hby d13_129) rfl rfl rfl ?_
      refine own_getF (n := 133) X55 hx hZ hown (hw _ (List.mem_of_getElem? (i := 55) rfl)) e55 F55_a1.2.2.2.1 (hb hby d13_130) rfl ?_
      intro T56 X56 e56
      refine own_iloadN (n := 134) X56 hx (hb hby d13_133) rfl rfl ?_
      refine own_iaload (n := 135) X56 hx hZ e56 F55_cf (i := sj) hsrc hs (hb hby d13_134) rfl ?_
      refine own_i2d (n := 136) X56 hx (hb hby d13_135) rfl ?_
      refine own_dstore (n := 138) X56 hx (hb hby d13_136) (l' := #[.val (.ref a1), .val (.int p2), .val (.int p3), .val (.int p4), .val (.int dl), .val (.double (FP.i2d ((fun y => if y = sj then ((chg sj) + (1 : Int32)) else chg y) sj))), .second]) rfl rfl ?_
      show Ends p e below (EF s ({ frames := 4, cells := 4, slots := 32, locals := 103 } : Room).cells ({ frames := 4, cells := 4, slots := 32, locals := 103 } : Room).slots) (Q13 Z a1 p2 p3 p4 km lastf chg dsp fs pc ps kn av ob sj h0 n0) (T56.setTop (mkF m 138 #[.val (.ref a1), .val (.int p2), .val (.int p3), .val (.int p4), .val (.int dl), .val (.double (FP.i2d ((fun y => if y = sj then ((chg sj) + (1 : Int32)) else chg y) sj))), .second] []))
      generalize g_dx : (FP.i2d ((fun y => if y = sj then ((chg sj) + (1 : Int32)) else chg y) sj)) = dx
      refine own_aloadN (n := 139) X56 hx (hb hby d13_138) rfl rfl rfl ?_
      refine own_getF (n := 142) X56 hx hZ hown (hw _ (List.mem_of_getElem? (i := 63) rfl)) e56 F55_a1.2.2.2.2.2.2.1 (hb hby d13_139) rfl ?_
      intro T57 X57 e57
      refine own_iloadN (n := 143) X57 hx (hb hby d13_142) rfl rfl ?_
      refine own_dload (n := 145) X57 hx (hb hby d13_143) rfl rfl ?_
      refine own_dload (n := 147) X57 hx (hb hby d13_145) rfl rfl ?_
      have hcc : 0 ≤ (chg sj + (1 : Int32)).toInt ∧ (chg sj + (1 : Int32)).toInt ≤ 2 := by have q := c_iadd (chg sj) 1; have r := rng32 (chg sj + 1); have o : (1 : Int32).toInt = 1 := rfl; omega
      obtain ⟨E1, E1a⟩ := own_sq (c := (chg sj + (1 : Int32))) hcc.1 hcc.2
      have hdx : dx = FP.i2d (chg sj + (1 : Int32)) := g_dx.symm.trans (congrArg FP.i2d (if_pos rfl))
      have E1' : FP.dmul dx dx = FP.l2d ((chg sj + (1 : Int32)).toInt64 * (chg sj + (1 : Int32)).toInt64) := by rw [hdx]; exact E1
      refine own_dmul (n := 148) X57 hx (hb hby d13_147) (Jvm.RoadKit.nn_w E1') rfl ?_
      refine own_iloadN (n := 149) X57 hx (hb hby d13_148) rfl rfl ?_
      refine own_i2d (n := 150) X57 hx (hb hby d13_149) rfl ?_
      refine own_dconst1 (n := 151) X57 hx (hb hby d13_150) rfl ?_
      obtain ⟨E2, E2a⟩ := own_e2 hl0
      refine own_dadd (n := 152) X57 hx (hb hby d13_151) (Jvm.RoadKit.nn_w E2) rfl ?_
      have E3 : FP.ddiv (FP.dmul dx dx) (FP.dadd (FP.i2d p2) (4607182418800017408 : UInt64)) = DSP (chg sj + (1 : Int32)) p2 := by rw [E1', E2]; rfl
      refine own_ddiv (n := 153) X57 hx (hb hby d13_152) (by rw [E3]; exact own_nn (own_dspv hcc.1 hcc.2 hl0)) rfl ?_
      refine own_dastore (n := 154) X57 hx hZ e57 F55_dt (i := sj) hsrc hs (hb hby d13_153) rfl ?_
      intro T58 h58 X58 e58 W58 A58
      have N58 := Fr.snoc X58 N55 ndt
      have Z58 : n0 ≤ h58.size := Nat.le_trans Z55 (Keep.of_wr W58).1
      have OL58 := OL55.wr W58 ndt
      have F58_a1 := F55_a1.wrO W58 (own_neOA F55_a1.1 (hw _ (List.mem_of_getElem? (i := 9) rfl)) F55_dt)
      have F58_lf := F55_lf.wrO W58 (own_neAA F55_lf F55_dt (by decide))
      have F58_fe := F55_fe.wrO W58 (own_neAA F55_fe F55_dt (by decide))
      have F58_cf := F55_cf.wrO W58 (own_neAA F55_cf F55_dt (by decide))
      have F58_lq := F55_lq.wrO W58 (own_neAA F55_lq.va F55_dt (by decide))
      have K58 : Keep _ h58 [a1, lf, fe, cf, dt] := K55.wr W58 (Or.inl (List.mem_of_getElem? (i := 4) rfl))
      refine own_aloadN (n := 155) X58 hx (hb hby d13_154) rfl rfl rfl ?_
      refine own_getF (n := 158) X58 hx hZ hown (hw _ (List.mem_of_getElem? (i := 58) rfl)) e58 F58_a1.2.2.2.2.1 (hb hby d13_155) rfl ?_
      intro T59 X59 e59
      refine own_iloadN (n := 159) X59 hx (hb hby d13_158) rfl rfl ?_
      refine own_aaload (n := 160) X59 hx hZ e59 F58_lq (i := sj) hsrc hs (v := (.ref (rl sj))) rfl (hb hby d13_159) rfl ?_
      refine own_iload (n := 162) X59 hx (hb hby d13_160) rfl rfl ?_
      refine own_iloadN (n := 163) X59 hx (hb hby d13_162) rfl rfl ?_
      obtain ⟨dr, hdr, RS⟩ := hR sj hs
      have RS1 := RS.other K58 (own_wsC W0 (by omega))
      have RP1 := RP.other K58 (own_wsC W0 (by decide))
      have hR1 : ∀ j, j < km → ∃ d, d ≤ ob + 1 ∧ RLI Z h58 n0 own j (rl j) d := fun j hj => by obtain ⟨d, q, z⟩ := hR j hj; exact ⟨d, q, z.other K58 (own_wsC W0 (by omega))⟩
      have W1 : OWNS (fun x => if h58.size ≤ x then sj else own x) a1 lf fe cf lq dt := W0.up F58_a1.lt F58_lf.lt F58_fe.lt F58_cf.lt A58.lt F58_lq.lt
      refine own_callV (n := 166) X59 hx hZ hown (hw _ (List.mem_of_getElem? (i := 106) rfl)) (hw _ (List.mem_of_getElem? (i := 107) rfl)) (hw _ (List.mem_of_getElem? (i := 109) rfl)) (hw _ (List.mem_of_getElem? (i := 108) rfl)) (hw _ (List.mem_of_getElem? (i := 19) rfl)) (hw _ (List.mem_of_getElem? (i := 110) rfl)) (by decide) e59 RS1.exa (rm16 l Z a0 hw [] (rl sj) dl p4 own sj dr h58 n0 Z58 OL58 RS1 (by omega)) (W := 0) (by decide) (by decide) (by decide) (by decide) (by rw [hml]; rfl) (argsL := [(.int dl), (.int p4)]) (rest := []) pd_16 rfl (by rfl) (Nat.le_of_eq rfl) (hb hby d13_163) rfl rfl ?_
      intro v60 T60 h60 L60 X60 e60 q60
      obtain ⟨rfl, M60, OL60, ⟨ws60, K60, hw60⟩, d60, hd60, R60⟩ := q60
      have N60 := Fr.app N58 M60
      have Z60 := own_oldz OL60
      have F60_a1 := F58_a1.keep K60 (fun q => by have z := (W0.1).symm.trans (hw60 _ q); omega)
      have F60_lf := F58_lf.keep K60 (fun q => by have z := (W0.2.1).symm.trans (hw60 _ q); omega)
      have F60_fe := F58_fe.keep K60 (fun q => by have z := (W0.2.2.1).symm.trans (hw60 _ q); omega)
      have F60_cf := F58_cf.keep K60 (fun q => by have z := (W0.2.2.2.1).symm.trans (hw60 _ q); omega)
      have F60_lq := F58_lq.keep K60 (fun q => by have z := (W0.2.2.2.2.2).symm.trans (hw60 _ q); omega)
      have F60_dt := A58.keep K60 (fun q => by have z := (W0.2.2.2.2.1).symm.trans (hw60 _ q); omega)
      have RP2 := RP1.thru K60 hw60 (by omega)
      refine own_aloadN (n := 167) X60 hx (hb hby d13_166) rfl rfl rfl ?_
      refine own_getF (n := 170) X60 hx hZ hown (hw _ (List.mem_of_getElem? (i := 60) rfl)) e60 F60_a1.2.2.2.2.2.1 (hb hby d13_167) rfl ?_
      intro T61 X61 e61
      refine own_iload (n := 172) X61 hx (hb hby d13_170) rfl rfl ?_
      refine own_iloadN (n := 173) X61 hx (hb hby d13_172) rfl rfl ?_
      have W2 : OWNS (fun x => if h60.size ≤ x then 50 else (fun x => if h58.size ≤ x then sj else own x) x) a1 lf fe cf lq dt := W1.up F60_a1.lt F60_lf.lt F60_fe.lt F60_cf.lt F60_dt.lt F60_lq.lt
      refine own_callV (n := 176) X61 hx hZ hown (hw _ (List.mem_of_getElem? (i := 106) rfl)) (hw _ (List.mem_of_getElem? (i := 107) rfl)) (hw _ (List.mem_of_getElem? (i := 109) rfl)) (hw _ (List.mem_of_getElem? (i := 108) rfl)) (hw _ (List.mem_of_getElem? (i := 19) rfl)) (hw _ (List.mem_of_getElem? (i := 110) rfl)) (by decide) e61 RP2.exa (rm16 l Z a0 hw [] pl dl p4 (fun x => if h58.size ≤ x then sj else own x) 50 dp h60 n0 Z60 OL60 RP2 (by omega)) (W := 0) (by decide) (by decide) (by decide) (by decide) (by rw [hml]; rfl) (argsL := [(.int dl), (.int p4)]) (rest := []) pd_16 rfl (by rfl) (Nat.le_of_eq rfl) (hb hby d13_173) rfl rfl ?_
      intro v62 T62 h62 L62 X62 e62 q62
      obtain ⟨rfl, M62, OL62, ⟨ws62, K62, hw62⟩, d62, hd62, R62⟩ := q62
      have N62 := Fr.app N60 M62
      have Z62 := own_oldz OL62
      have F62_a1 := F60_a1.keep K62 (fun q => by have z := (W1.1).symm.trans (hw62 _ q); omega)
      have F62_lf := F60_lf.keep K62 (fun q => by have z := (W1.2.1).symm.trans (hw62 _ q); omega)
      have F62_fe := F60_fe.keep K62 (fun q => by have z := (W1.2.2.1).symm.trans (hw62 _ q); omega)
      have F62_cf := F60_cf.keep K62 (fun q => by have z := (W1.2.2.2.1).symm.trans (hw62 _ q); omega)
      have F62_lq := F60_lq.keep K62 (fun q => by have z := (W1.2.2.2.2.2).symm.trans (hw62 _ q); omega)
      have F62_dt := F60_dt.keep K62 (fun q => by have z := (W1.2.2.2.2.1).symm.trans (hw62 _ q); omega)
      refine own_aloadN (n := 177) X62 hx (hb hby d13_176) rfl rfl rfl ?_
      refine own_iconst (n := 178) X62 hx (0 : Int32) (hb hby d13_177) rfl rfl ?_
      refine own_putF (n := 181) X62 hx hZ hown (hw _ (List.mem_of_getElem? (i := 71) rfl)) e62 F62_a1.2.2.2.2.2.2.2.2.2.2.1 F62_a1.1 (Or.inl (hw _ (List.mem_of_getElem? (i := 72) rfl))) (hw _ (List.mem_of_getElem? (i := 9) rfl)) (ty := .boolean) (by decide) rfl rfl (hb hby d13_178) rfl ?_
      intro T63 h63 X63 e63 W63
      have N63 := Fr.snoc X63 N62 nb
      have Z63 : n0 ≤ h63.size := Nat.le_trans Z62 (Keep.of_wr W63).1
      have OL63 := OL62.wr W63 nb
      have F63_a1 := F62_a1.set_alikeKnown hw W63
      have F63_lf := F62_lf.wrO W63 (Ne.symm (own_neOA F62_a1.1 (hw _ (List.mem_of_getElem? (i := 9) rfl)) F62_lf))
      have F63_fe := F62_fe.wrO W63 (Ne.symm (own_neOA F62_a1.1 (hw _ (List.mem_of_getElem? (i := 9) rfl)) F62_fe))
      have F63_cf := F62_cf.wrO W63 (Ne.symm (own_neOA F62_a1.1 (hw _ (List.mem_of_getElem? (i := 9) rfl)) F62_cf))
      have F63_lq := F62_lq.wrO W63 (Ne.symm (own_neOA F62_a1.1 (hw _ (List.mem_of_getElem? (i := 9) rfl)) F62_lq.va))
      have F63_dt := F62_dt.wrO W63 (Ne.symm (own_neOA F62_a1.1 (hw _ (List.mem_of_getElem? (i := 9) rfl)) F62_dt))
      have K63 : Keep _ h63 [a1] := (Keep.refl h62 [a1]).wr W63 (Or.inl (List.mem_of_getElem? (i := 0) rfl))
      refine own_retV X63 hx lk hret (hb hby d13_181) (by decide) (by decide) ?_
      rw [e63]
      have e1 : chg sj + 1 = (if p4 = 0 then chg sj else chg sj + 1) := (if_neg c94).symm
      have e2 : fs = (if lastf sj < 0 then fs + 1 else fs) := (if_neg c63).symm
      have e3 : pc + 1 = (if p4 = 0 then pc else pc + 1) := (if_neg c94).symm
      have FF := F63_a1
      rw [e2, e3, ← g_dl] at FF
      refine ⟨rfl, N63, OL63, (fun x => if h60.size ≤ x then 50 else (fun x => if h58.size ≤ x then sj else own x) x), lf, fe, cf, lq, pl, dt, rl, _, FF, F63_lf, F63_fe, (IA.congr F63_cf (fun j _ => own_fix2 e1 j)), F63_lq, (DA.congr F63_dt (fun j _ => own_fix2 (E3.trans (congrArg (fun c => DSP c p2) e1)) j)), W2, ⟨nb, nlf, nfe, ncf, ndt⟩, fun j hj => ?_, d62, by omega, R62.other K63 (fun x hx => by cases List.mem_singleton.mp hx; exact fun e => by have z := W2.1.symm.trans e; omega)⟩
      by_cases e : j = sj
      · subst e
        exact ⟨d60, by omega, (R60.thru K62 hw62 (by omega)).other K63 (fun x hx => by cases List.mem_singleton.mp hx; exact fun e => by have z := W2.1.symm.trans e; omega)⟩
      · obtain ⟨d, q, z⟩ := hR1 j hj
        exact ⟨d, by omega, ((z.thru K60 hw60 (fun y => e y.symm)).thru K62 hw62 (by omega)).other K63 (fun x hx => by cases List.mem_singleton.mp hx; exact fun e => by have z := W2.1.symm.trans e; omega)⟩
theorem own_rel {A B : Nat} (hA : 0 < A) (hB : 0 < B) (lo : B ≤ A * 2 ^ 200) (hi : A ≤ 9223372036854775808 * B) : ∃ c q, FP.Core.roundRatio FP.Core.b64 false A B 0 = .fin false c q ∧ 4503599627370496 * (FP.Core.inUnits c q FP.Core.b64.qmin * B) ≤ 4503599627370497 * (A * 2 ^ (0 - FP.Core.b64.qmin).toNat) ∧ 4503599627370495 * (A * 2 ^ (0 - FP.Core.b64.qmin).toNat) ≤ 4503599627370496 * (FP.Core.inUnits c q FP.Core.b64.qmin * B) := by
  obtain ⟨c, q, e⟩ := own_fit hB hi
  refine ⟨c, q, e, ?_⟩
  have l1 : -200 < FP.Core.leading A B + 1 := FP.Core.lt_of_below (A := A) (B := B) (a := -200) (fun z => by
    have z' : A * 2 ^ 200 < B * 2 ^ 0 := z
    omega) (FP.Core.leading_spec hA hB).2
  have hQ : -300 ≤ FP.Core.quantum FP.Core.b64 A B 0 := by
    unfold FP.Core.quantum
    rw [show ((FP.Core.b64.p : Int)) = 53 from rfl]
    omega
  have hnb := (FP.Core.quantum_not_below (f := FP.Core.b64) hA hB 0).resolve_left (fun z => by rw [z, FP.Core.qmin_b64] at hQ; omega)
  have hle := FP.Core.nearest_units_le (f := FP.Core.b64) hA hB 0
  unfold FP.Core.roundRatio FP.Core.roundAt at e
  rw [if_neg (by omega)] at e
  generalize FP.Core.quantum FP.Core.b64 A B 0 = Q at e hQ hnb hle
  have hv := (FP.Core.settle_value FP.Core.good_b64 hle e (e0 := FP.Core.b64.qmin) (by rw [FP.Core.qmin_b64]; omega)).2
  rw [show ((FP.Core.b64.p : Int) - 1) = ((52 : Nat) : Int) from rfl, ← FP.Core.units_below] at hnb
  have hs := FP.Core.nearest_spec (FP.Core.unitsNum A 0 Q) (FP.Core.unitsDen B 0 Q) (FP.Core.unitsDen_pos hB 0 Q)
  generalize FP.Core.nearest (FP.Core.unitsNum A 0 Q) (FP.Core.unitsDen B 0 Q) = K at hv hs
  have e1 : FP.Core.inUnits c q FP.Core.b64.qmin * B = K * FP.Core.unitsDen B 0 Q * 2 ^ (1074 - (0 - Q).toNat) := by
    rw [hv]
    unfold FP.Core.inUnits FP.Core.unitsDen
    rw [FP.Core.qmin_b64, show (Q - (-1074)).toNat = (Q - 0).toNat + (1074 - (0 - Q).toNat) by omega, Nat.pow_add]
    ac_rfl
  have e2 : A * 2 ^ (0 - FP.Core.b64.qmin).toNat = FP.Core.unitsNum A 0 Q * 2 ^ (1074 - (0 - Q).toNat) := by
    unfold FP.Core.unitsNum
    rw [FP.Core.qmin_b64, show ((0 : Int) - (-1074)).toNat = (0 - Q).toNat + (1074 - (0 - Q).toNat) by omega, Nat.pow_add]
    ac_rfl
  rw [e1, e2]
  obtain ⟨h1, h2, -⟩ := hs
  rw [show (2 : Nat) ^ 52 = 4503599627370496 from rfl] at hnb
  generalize FP.Core.unitsNum A 0 Q = num at *
  generalize FP.Core.unitsDen B 0 Q = den at *
  have h1' : 2 * num ≤ 2 * (K * den) + den := by
    have : (2 * K + 1) * den = 2 * (K * den) + den := by rw [Nat.add_mul, Nat.one_mul, Nat.mul_assoc]
    omega
  have h2' : 2 * (K * den) ≤ 2 * num + den := by
    have : 2 * K * den = 2 * (K * den) := Nat.mul_assoc ..
    omega
  generalize K * den = kd at *
  generalize 2 ^ (1074 - (0 - Q).toNat) = W
  have a1 : 4503599627370496 * kd ≤ 4503599627370497 * num := by omega
  have a2 : 4503599627370495 * num ≤ 4503599627370496 * kd := by omega
  exact ⟨by rw [← Nat.mul_assoc, ← Nat.mul_assoc]; exact Nat.mul_le_mul_right _ a1, by rw [← Nat.mul_assoc, ← Nat.mul_assoc]; exact Nat.mul_le_mul_right _ a2⟩
def VAL (x : UInt64) (v : Nat) : Prop := ∃ c q, FP.Core.val64 x = .fin false c q ∧ FP.Core.inUnits c q FP.Core.b64.qmin = v
def UU : Nat := 2 ^ (0 - FP.Core.b64.qmin).toNat
theorem own_UU : 0 < UU := Nat.two_pow_pos _
theorem own_VR {x : UInt64} {A B : Nat} (hx : FP.Core.val64 x = FP.Core.roundRatio FP.Core.b64 false A B 0) (hA : 0 < A) (hB : 0 < B) (lo : B ≤ A * 2 ^ 200) (hi : A ≤ 9223372036854775808 * B) : ∃ v, VAL x v ∧ 4503599627370496 * (v * B) ≤ 4503599627370497 * (A * UU) ∧ 4503599627370495 * (A * UU) ≤ 4503599627370496 * (v * B) := by
  obtain ⟨c, q, e, h1, h2⟩ := own_rel hA hB lo hi
  exact ⟨_, ⟨c, q, hx.trans e, rfl⟩, h1, h2⟩
theorem own_VI {a : Int64} {n : Nat} (h : a.toInt = (n : Int)) (hn : 0 < n) (hs : n < 9007199254740992) : VAL (FP.l2d a) (n * UU) := by
  obtain ⟨c, q, e, -, w⟩ := own_whole h hn hs
  refine ⟨c, q, e, ?_⟩
  have F := FP.Core.val64_fits (FP.Core.l2d a)
  rw [e] at F
  have hq := F.2.1
  unfold FP.Core.inUnits UU
  rw [FP.Core.qmin_b64] at hq ⊢
  have p := Nat.two_pow_pos (-q).toNat
  refine Nat.eq_of_mul_eq_mul_right (Nat.two_pow_pos q.toNat) ?_
  have s1 : c * 2 ^ (q - -1074).toNat * 2 ^ q.toNat = (c * 2 ^ q.toNat) * 2 ^ (q - -1074).toNat := by ac_rfl
  rw [s1, w, Nat.mul_assoc, Nat.mul_assoc, ← Nat.pow_add, ← Nat.pow_add]
  congr 2
  omega
theorem own_fitq {x : UInt64} {c : Nat} {q : Int} (e : FP.Core.val64 x = .fin false c q) : FP.Core.fits FP.Core.b64 (.fin false c q) ∧ -1074 ≤ q := by
  have F := FP.Core.val64_fits x
  rw [e] at F
  have hq := F.2.1
  rw [FP.Core.qmin_b64] at hq
  exact ⟨F, hq⟩
theorem own_esum {c d : Nat} {q r : Int} : FP.Core.exactSum (.fin false c q) (.fin false d r) = .fin false (FP.Core.inUnits c q (min q r) + FP.Core.inUnits d r (min q r)) (min q r) := by
  show FP.Core.Datum.fin (FP.Core.sumSign false false (FP.Core.sumUnits false c q false d r (min q r))) (FP.Core.sumUnits false c q false d r (min q r)).natAbs (min q r) = _
  have e : FP.Core.sumUnits false c q false d r (min q r) = ((FP.Core.inUnits c q (min q r) + FP.Core.inUnits d r (min q r) : Nat) : Int) := rfl
  rw [e]
  generalize FP.Core.inUnits c q (min q r) + FP.Core.inUnits d r (min q r) = t
  unfold FP.Core.sumSign
  congr 1
  split
  · rfl
  · exact decide_eq_false (by omega)
theorem own_VA {x y : UInt64} {v w : Nat} (hx : VAL x v) (hy : VAL y w) : FP.Core.val64 (FP.dadd x y) = FP.Core.roundRatio FP.Core.b64 false (v + w) UU 0 := by
  obtain ⟨c, q, e1, w1⟩ := hx
  obtain ⟨d, r, e2, w2⟩ := hy
  obtain ⟨F1, h1⟩ := own_fitq e1
  obtain ⟨F2, h2⟩ := own_fitq e2
  have z : FP.Core.val64 (FP.dadd x y) = FP.Core.round FP.Core.b64 (FP.Core.exactSum (FP.Core.val64 x) (FP.Core.val64 y)) := FP.Core.val64_dadd x y
  rw [z, e1, e2, own_esum]
  have hm : -1074 ≤ min q r := by omega
  rw [FP.Core.inUnits_move c (q := q) (e := FP.Core.b64.qmin) (r := min q r) (by rw [FP.Core.qmin_b64]; omega) (by omega)] at w1
  rw [FP.Core.inUnits_move d (q := r) (e := FP.Core.b64.qmin) (r := min q r) (by rw [FP.Core.qmin_b64]; omega) (by omega)] at w2
  rw [← w1, ← w2, ← Nat.add_mul]
  generalize FP.Core.inUnits c q (min q r) + FP.Core.inUnits d r (min q r) = t
  show FP.Core.roundRatio FP.Core.b64 false t 1 (min q r) = _
  refine FP.Core.roundRatio_congr (by decide) own_UU ?_
  unfold UU
  rw [FP.Core.qmin_b64, Nat.mul_one, Nat.mul_assoc, Nat.mul_assoc, ← Nat.pow_add, ← Nat.pow_add]
  congr 2
  omega
theorem own_VM {x y : UInt64} {v w : Nat} (hx : VAL x v) (hy : VAL y w) : FP.Core.val64 (FP.dmul x y) = FP.Core.roundRatio FP.Core.b64 false (v * w) (UU * UU) 0 := by
  obtain ⟨c, q, e1, w1⟩ := hx
  obtain ⟨d, r, e2, w2⟩ := hy
  obtain ⟨F1, h1⟩ := own_fitq e1
  obtain ⟨F2, h2⟩ := own_fitq e2
  have z : FP.Core.val64 (FP.dmul x y) = FP.Core.round FP.Core.b64 (FP.Core.exactProduct (FP.Core.val64 x) (FP.Core.val64 y)) := FP.Core.val64_dmul x y
  rw [z, e1, e2, ← w1, ← w2]
  show FP.Core.roundRatio FP.Core.b64 false (c * d) 1 (q + r) = _
  refine FP.Core.roundRatio_congr (by decide) (Nat.mul_pos own_UU own_UU) ?_
  unfold UU FP.Core.inUnits
  rw [FP.Core.qmin_b64, Nat.mul_one]
  have s1 : c * d * (2 ^ ((0 : Int) - -1074).toNat * 2 ^ ((0 : Int) - -1074).toNat) * 2 ^ (q + r - 0).toNat = c * d * (2 ^ ((0 : Int) - -1074).toNat * 2 ^ ((0 : Int) - -1074).toNat * 2 ^ (q + r - 0).toNat) := by ac_rfl
  have s2 : c * 2 ^ (q - -1074).toNat * (d * 2 ^ (r - -1074).toNat) * 2 ^ (0 - (q + r)).toNat = c * d * (2 ^ (q - -1074).toNat * 2 ^ (r - -1074).toNat * 2 ^ (0 - (q + r)).toNat) := by ac_rfl
  rw [s1, s2, ← Nat.pow_add, ← Nat.pow_add, ← Nat.pow_add, ← Nat.pow_add]
  congr 2
  omega
theorem own_VD {x y : UInt64} {v w : Nat} (hx : VAL x v) (hy : VAL y w) (hw : 0 < w) : FP.Core.val64 (FP.ddiv x y) = FP.Core.roundRatio FP.Core.b64 false v w 0 := by
  obtain ⟨c, q, e1, w1⟩ := hx
  obtain ⟨d, r, e2, w2⟩ := hy
  obtain ⟨F1, h1⟩ := own_fitq e1
  obtain ⟨F2, h2⟩ := own_fitq e2
  have hd : 0 < d := by
    rcases Nat.eq_zero_or_pos d with z | z
    · rw [z] at w2
      unfold FP.Core.inUnits at w2
      omega
    · exact z
  have z : FP.Core.val64 (FP.ddiv x y) = FP.Core.quotient FP.Core.b64 (FP.Core.val64 x) (FP.Core.val64 y) := FP.Core.val64_ddiv x y
  rw [z, e1, e2]
  show (if d = 0 then _ else FP.Core.roundRatio FP.Core.b64 false c d (q - r)) = _
  rw [if_neg (by omega)]
  refine FP.Core.roundRatio_congr hd hw ?_
  rw [← w1, ← w2]
  unfold FP.Core.inUnits
  rw [FP.Core.qmin_b64]
  have s1 : c * (d * 2 ^ (r - -1074).toNat) * 2 ^ (q - r - 0).toNat = c * d * (2 ^ (r - -1074).toNat * 2 ^ (q - r - 0).toNat) := by ac_rfl
  have s2 : c * 2 ^ (q - -1074).toNat * d * 2 ^ (0 - (q - r)).toNat = c * d * (2 ^ (q - -1074).toNat * 2 ^ (0 - (q - r)).toNat) := by ac_rfl
  rw [s1, s2, ← Nat.pow_add, ← Nat.pow_add]
  congr 2
  omega
theorem own_chU {K L U vx vy vS v1 v2 a b e0 e1 E C : Nat} (k1 : K * vS ≤ L * (vx + vy)) (k2 : K * v1 ≤ L * (vS * E)) (k3 : K * (v2 * C) ≤ L * v1) (hx : K * (vx * e0) ≤ L * (a * U)) (hy : K * (vy * e1) ≤ L * (b * U)) : K * K * K * K * (v2 * (C * (e0 * e1))) ≤ L * L * L * L * ((a * e1 + b * e0) * E * U) := by
  have s1 : K * K * K * K * (v2 * (C * (e0 * e1))) = K * K * K * (e0 * e1) * (K * (v2 * C)) := by ac_rfl
  have s2 : K * K * K * (e0 * e1) * (L * v1) = K * K * L * (e0 * e1) * (K * v1) := by ac_rfl
  have s3 : K * K * L * (e0 * e1) * (L * (vS * E)) = K * L * L * E * (e0 * e1) * (K * vS) := by ac_rfl
  have s4 : K * L * L * E * (e0 * e1) * (L * (vx + vy)) = L * L * L * E * ((K * (vx * e0)) * e1 + (K * (vy * e1)) * e0) := by
    simp only [Nat.mul_add]
    congr 1 <;> ac_rfl
  have s5 : L * L * L * E * ((L * (a * U)) * e1 + (L * (b * U)) * e0) = L * L * L * L * ((a * e1 + b * e0) * E * U) := by
    simp only [Nat.mul_add, Nat.add_mul]
    congr 1 <;> ac_rfl
  rw [s1]
  refine Nat.le_trans (Nat.mul_le_mul_left _ k3) ?_
  rw [s2]
  refine Nat.le_trans (Nat.mul_le_mul_left _ k2) ?_
  rw [s3]
  refine Nat.le_trans (Nat.mul_le_mul_left _ k1) ?_
  rw [s4, ← s5]
  exact Nat.mul_le_mul_left _ (Nat.add_le_add (Nat.mul_le_mul_right _ hx) (Nat.mul_le_mul_right _ hy))
theorem own_chL {K M U vx vy vS v1 v2 a b e0 e1 E C : Nat} (k1 : M * (vx + vy) ≤ K * vS) (k2 : M * (vS * E) ≤ K * v1) (k3 : M * v1 ≤ K * (v2 * C)) (hx : M * (a * U) ≤ K * (vx * e0)) (hy : M * (b * U) ≤ K * (vy * e1)) : M * M * M * M * ((a * e1 + b * e0) * E * U) ≤ K * K * K * K * (v2 * (C * (e0 * e1))) := by
  have s1 : K * K * K * K * (v2 * (C * (e0 * e1))) = K * K * K * (e0 * e1) * (K * (v2 * C)) := by ac_rfl
  have s2 : K * K * K * (e0 * e1) * (M * v1) = K * K * M * (e0 * e1) * (K * v1) := by ac_rfl
  have s3 : K * K * M * (e0 * e1) * (M * (vS * E)) = K * M * M * E * (e0 * e1) * (K * vS) := by ac_rfl
  have s4 : K * M * M * E * (e0 * e1) * (M * (vx + vy)) = M * M * M * E * ((K * (vx * e0)) * e1 + (K * (vy * e1)) * e0) := by
    simp only [Nat.mul_add]
    congr 1 <;> ac_rfl
  have s5 : M * M * M * E * ((M * (a * U)) * e1 + (M * (b * U)) * e0) = M * M * M * M * ((a * e1 + b * e0) * E * U) := by
    simp only [Nat.mul_add, Nat.add_mul]
    congr 1 <;> ac_rfl
  rw [s1]
  refine Nat.le_trans ?_ (Nat.mul_le_mul_left _ k3)
  rw [s2]
  refine Nat.le_trans ?_ (Nat.mul_le_mul_left _ k2)
  rw [s3]
  refine Nat.le_trans ?_ (Nat.mul_le_mul_left _ k1)
  rw [s4, ← s5]
  exact Nat.mul_le_mul_left _ (Nat.add_le_add (Nat.mul_le_mul_right _ hx) (Nat.mul_le_mul_right _ hy))
theorem own_below {K4 L4 G U v2 D T n dd : Nat} (hD : 0 < D) (hU : 0 < U) (hK : 0 < K4) (hc : K4 * (v2 * D) ≤ L4 * (n * U)) (hdd : dd = T * D) (hg : (G + 1) * n < G * dd) (hnum : L4 * G ≤ K4 * (G + 1)) : v2 ≤ T * U := by
  refine Nat.le_of_not_lt fun hlt => ?_
  have a1 : K4 * (T * U * D) ≤ L4 * (n * U) := Nat.le_trans (Nat.mul_le_mul_left _ (Nat.mul_le_mul_right _ (Nat.le_of_lt hlt))) hc
  have a2 : K4 * dd * U ≤ L4 * n * U := by
    have e1 : K4 * (T * U * D) = K4 * (T * D) * U := by ac_rfl
    have e2 : L4 * (n * U) = L4 * n * U := by ac_rfl
    rw [e1, e2, ← hdd] at a1
    exact a1
  have a3 := Nat.le_of_mul_le_mul_right a2 hU
  have a4 : K4 * dd * G ≤ K4 * (G + 1) * n := by
    refine Nat.le_trans (Nat.mul_le_mul_right G a3) ?_
    have e3 : L4 * n * G = L4 * G * n := by ac_rfl
    rw [e3]
    exact Nat.mul_le_mul_right n hnum
  have a5 : K4 * (G * dd) ≤ K4 * ((G + 1) * n) := by
    have e4 : K4 * dd * G = K4 * (G * dd) := by ac_rfl
    rw [e4, Nat.mul_assoc] at a4
    exact a4
  exact absurd (Nat.le_of_mul_le_mul_left a5 hK) (Nat.not_le.mpr hg)
theorem own_above {K4 M4 G H U v2 D T n dd : Nat} (hD : 0 < D) (hU : 0 < U) (hT : 1 ≤ T) (hn : 0 < n) (hK : 0 < K4) (hc : M4 * (n * U) ≤ K4 * (v2 * D)) (hdd : dd = T * D) (hg : (G + 1) * dd < G * n) (hnum : K4 * (H + 1) * G ≤ H * M4 * (G + 1)) : (H * T + 1) * U ≤ H * v2 := by
  refine Nat.le_of_not_lt fun hlt => ?_
  have a1 : H * (M4 * (n * U)) < K4 * ((H * T + 1) * U * D) := by
    refine Nat.lt_of_le_of_lt (Nat.mul_le_mul_left H hc) ?_
    have e1 : H * (K4 * (v2 * D)) = K4 * (H * v2 * D) := by ac_rfl
    rw [e1]
    exact Nat.mul_lt_mul_of_pos_left (Nat.mul_lt_mul_of_pos_right hlt hD) hK
  have a2 : (H * T + 1) * U * D ≤ (H + 1) * dd * U := by
    have e2 : (H + 1) * dd * U = ((H + 1) * T) * U * D := by rw [hdd]; ac_rfl
    rw [e2]
    refine Nat.mul_le_mul_right _ (Nat.mul_le_mul_right _ ?_)
    rw [Nat.add_mul, Nat.one_mul]
    omega
  have a3 : H * M4 * n * U < K4 * ((H + 1) * dd) * U := by
    have e3 : H * (M4 * (n * U)) = H * M4 * n * U := by ac_rfl
    have e4 : K4 * ((H + 1) * dd * U) = K4 * ((H + 1) * dd) * U := by ac_rfl
    rw [e3] at a1
    refine Nat.lt_of_lt_of_le a1 ?_
    rw [← e4]
    exact Nat.mul_le_mul_left _ a2
  have a4 : H * M4 * n < K4 * ((H + 1) * dd) := Nat.lt_of_mul_lt_mul_right a3
  have a5 : K4 * ((H + 1) * dd) * (G + 1) ≤ K4 * (H + 1) * G * n := by
    have e5 : K4 * ((H + 1) * dd) * (G + 1) = K4 * (H + 1) * ((G + 1) * dd) := by ac_rfl
    have e6 : K4 * (H + 1) * G * n = K4 * (H + 1) * (G * n) := by ac_rfl
    rw [e5, e6]
    exact Nat.mul_le_mul_left _ (Nat.le_of_lt hg)
  have a6 : H * M4 * n * (G + 1) < H * M4 * (G + 1) * n := by
    refine Nat.lt_of_lt_of_le (Nat.mul_lt_mul_of_pos_right a4 (Nat.succ_pos G)) ?_
    refine Nat.le_trans a5 (Nat.mul_le_mul_right n hnum)
  have e7 : H * M4 * n * (G + 1) = H * M4 * (G + 1) * n := by ac_rfl
  omega
theorem own_sub {x y : UInt64} {v w : Nat} (hx : VAL x v) (hy : VAL y w) : ∃ sg n e, FP.Core.val64 (FP.dsub x y) = FP.Core.round FP.Core.b64 (.fin sg n e) ∧ FP.Core.b64.qmin ≤ e ∧ FP.Core.signed sg (FP.Core.inUnits n e FP.Core.b64.qmin) = (v : Int) - (w : Int) := by
  obtain ⟨c, q, e1, w1⟩ := hx
  obtain ⟨d, r, e2, w2⟩ := hy
  obtain ⟨F1, h1⟩ := own_fitq e1
  obtain ⟨F2, h2⟩ := own_fitq e2
  have F2' : FP.Core.fits FP.Core.b64 (.fin true d r) := F2
  obtain ⟨sg, n, e, z1, z2, z3⟩ := FP.Core.sum_units F1 F2'
  have z : FP.Core.val64 (FP.dsub x y) = FP.Core.round FP.Core.b64 (FP.Core.exactSum (FP.Core.val64 x) (FP.Core.negate (FP.Core.val64 y))) := FP.Core.val64_dsub x y
  refine ⟨sg, n, e, ?_, z2, ?_⟩
  · rw [z, e1, e2]
    show FP.Core.round FP.Core.b64 (FP.Core.exactSum (.fin false c q) (.fin true d r)) = _
    rw [z1]
  · rw [z3]
    show ((FP.Core.inUnits c q FP.Core.b64.qmin : Nat) : Int) + -((FP.Core.inUnits d r FP.Core.b64.qmin : Nat) : Int) = _
    rw [w1, w2]
    omega
theorem own_cmpA {x y W : UInt64} {v w wv : Nat} (hx : VAL x v) (hy : VAL y w) (hW : VAL W wv) (h : v ≤ w + wv) : Jvm.Free.Fl.NoNaN64 (FP.dsub x y) ∧ ¬ 0 < cmpValue (FP.dcmp (FP.dsub x y) W) .g := by
  obtain ⟨sg, n, e, z1, z2, z3⟩ := own_sub hx hy
  obtain ⟨cW, qW, eW, wW⟩ := hW
  obtain ⟨FW, -⟩ := own_fitq eW
  have nn : FP.Core.val64 (FP.dsub x y) ≠ .nan := by rw [z1]; exact FP.Core.roundRatio_ne_nan _ _ _ _ _
  have le := FP.Core.zval_round_le FP.Core.good_b64 (s := sg) (c := n) (q := e) (e0 := FP.Core.b64.qmin) (V := .fin false cW qW) FW (by simp) (Int.le_refl _) z2 (by
    rw [z3, show (2 ^ (FP.Core.b64.qmin - FP.Core.b64.qmin).toNat : Nat) = 1 by decide +kernel]
    show _ ≤ ((FP.Core.inUnits cW qW FP.Core.b64.qmin : Nat) : Int) * ((1 : Nat) : Int)
    rw [wW]
    omega)
  refine ⟨Jvm.Free.Fl.noNaN64_no.mpr ((FP.Core.notNaN_iff _).mpr nn), ?_⟩
  have e0 : FP.dcmp (FP.dsub x y) W = _ := FP.Core.dcmp_zval nn (by rw [eW]; simp)
  rw [e0, z1, eW]
  rcases Int.lt_or_eq_of_le le with z | z
  · rw [(FP.Core.compare_lt_iff _ _).mpr z]
    decide
  · rw [(FP.Core.compare_eq_iff _ _).mpr z]
    decide
theorem own_cmpB {x y W : UInt64} {v w wv vv : Nat} {V : FP.Core.Datum} (hx : VAL x v) (hy : VAL y w) (hW : VAL W wv) (hV : FP.Core.fits FP.Core.b64 V) (hVn : V ≠ .nan) (hVz : FP.Core.zval FP.Core.b64 V = (vv : Int)) (h : w + vv ≤ v) (hlt : wv < vv) : Jvm.Free.Fl.NoNaN64 (FP.dsub x y) ∧ 0 < cmpValue (FP.dcmp (FP.dsub x y) W) .g := by
  obtain ⟨sg, n, e, z1, z2, z3⟩ := own_sub hx hy
  obtain ⟨cW, qW, eW, wW⟩ := hW
  obtain ⟨FW, -⟩ := own_fitq eW
  have nn : FP.Core.val64 (FP.dsub x y) ≠ .nan := by rw [z1]; exact FP.Core.roundRatio_ne_nan _ _ _ _ _
  have ge := FP.Core.zval_round_ge FP.Core.good_b64 (s := sg) (c := n) (q := e) (e0 := FP.Core.b64.qmin) (V := V) hV hVn (Int.le_refl _) z2 (by
    rw [z3, show (2 ^ (FP.Core.b64.qmin - FP.Core.b64.qmin).toNat : Nat) = 1 by decide +kernel, hVz]
    omega)
  refine ⟨Jvm.Free.Fl.noNaN64_no.mpr ((FP.Core.notNaN_iff _).mpr nn), ?_⟩
  have e0 : FP.dcmp (FP.dsub x y) W = _ := FP.Core.dcmp_zval nn (by rw [eW]; simp)
  have eWz : FP.Core.zval FP.Core.b64 (.fin false cW qW) = (wv : Int) := by
    show ((FP.Core.inUnits cW qW FP.Core.b64.qmin : Nat) : Int) = _
    rw [wW]
  rw [e0, z1, eW, (FP.Core.compare_gt_iff _ _).mpr (by rw [eWz]; rw [hVz] at ge; omega)]
  decide
theorem own_VU {x : UInt64} {v w : Nat} (h1 : VAL x v) (h2 : VAL x w) : v = w := by
  obtain ⟨c, q, e1, w1⟩ := h1
  obtain ⟨d, r, e2, w2⟩ := h2
  rw [e1] at e2
  cases e2
  exact w1.symm.trans w2
theorem own_nnV {x : UInt64} {v : Nat} (h : VAL x v) : Jvm.Free.Fl.NoNaN64 x := by
  obtain ⟨c, q, e1, w1⟩ := h
  exact Jvm.Free.Fl.noNaN64_no.mpr ((FP.Core.notNaN_iff x).mpr (by rw [e1]; simp))
theorem own_VX {x : UInt64} {A B c s : Nat} (hx : FP.Core.val64 x = FP.Core.roundRatio FP.Core.b64 false A B 0) (hB : 0 < B) (hc : c < 9007199254740992) (hs : s ≤ 500) (h : A * 2 ^ s = c * B) : ∃ v, VAL x v ∧ v * 2 ^ s = c * UU := by
  have e1 : FP.Core.roundRatio FP.Core.b64 false A B 0 = FP.Core.roundRatio FP.Core.b64 false c 1 (-(s : Int)) := FP.Core.roundRatio_congr hB (by decide) (by
    rw [Nat.mul_one, show ((0 : Int) - -(s : Int)).toNat = s by omega, show (-(s : Int) - 0).toNat = 0 by omega, Nat.pow_zero, Nat.mul_one, h])
  obtain ⟨c', q', e2, e3⟩ := FP.Core.round_exact FP.Core.good_b64 false (c := c) (q := -(s : Int)) hc (by rw [FP.Core.qmin_b64]; omega) (by rw [show FP.Core.b64.qmax = 971 by decide +kernel]; omega)
  refine ⟨_, ⟨c', q', hx.trans (e1.trans e2), e3⟩, ?_⟩
  unfold FP.Core.inUnits UU
  rw [FP.Core.qmin_b64, Nat.mul_assoc, ← Nat.pow_add]
  congr 2
  omega
theorem own_zadd {z x : UInt64} {v : Nat} (hz : VAL z 0) (hx : VAL x v) : VAL (FP.dadd z x) v := by
  have e := own_VA hz hx
  obtain ⟨c, q, e1, w1⟩ := hx
  obtain ⟨F1, h1⟩ := own_fitq e1
  refine ⟨c, q, ?_, w1⟩
  rw [e, Nat.zero_add, ← w1]
  refine FP.Core.roundRatio_exact FP.Core.good_b64 own_UU F1 ?_
  unfold FP.Core.inUnits UU
  rw [FP.Core.qmin_b64, Nat.mul_assoc, Nat.mul_assoc, ← Nat.pow_add, ← Nat.pow_add]
  congr 2
  omega
theorem own_V0 : VAL 0 0 := ⟨0, -1074, by decide +kernel, by decide +kernel⟩
/-- a term's value, within a part in 2^52 -/
def TRM (x : UInt64) (a ee vx : Nat) : Prop := VAL x vx ∧ 4503599627370496 * (vx * ee) ≤ 4503599627370497 * (a * UU) ∧ 4503599627370495 * (a * UU) ≤ 4503599627370496 * (vx * ee) ∧ ((∃ t, t ≤ 29 ∧ ee = 2 ^ t) → vx * ee = a * UU)
theorem own_trm {x : UInt64} {a ee : Nat} (hx : FP.Core.val64 x = FP.Core.roundRatio FP.Core.b64 false a ee 0) (ha : a ≤ 4) (he : 0 < ee) (he2 : ee ≤ 536870912) : ∃ vx, TRM x a ee vx := by
  rcases Nat.eq_zero_or_pos a with z | z
  · subst z
    have e : FP.Core.val64 x = .fin false 0 FP.Core.b64.qmin := hx
    exact ⟨0, ⟨0, _, e, by unfold FP.Core.inUnits; omega⟩, by omega, by omega, fun _ => by omega⟩
  · obtain ⟨v, V, h1, h2⟩ := own_VR hx z he (Nat.le_trans he2 (Nat.le_trans (show 536870912 ≤ 1 * 2 ^ 200 by decide) (Nat.mul_le_mul_right _ z))) (by omega)
    refine ⟨v, V, h1, h2, fun ⟨t, ht, e⟩ => ?_⟩
    obtain ⟨v', V', h'⟩ := own_VX (c := a) (s := t) hx he (by omega) (by omega) (by rw [e])
    cases own_VU V V'
    rw [e]
    exact h'
theorem own_lo1 {U s v : Nat} (h1 : U ≤ s * 1073741824) (h2 : 4503599627370495 * s ≤ 4503599627370496 * v) : U ≤ 3000000000 * v := by omega
theorem own_lo2 {U v w : Nat} (h1 : U ≤ 3000000000 * v) (h2 : v ≤ w) : U ≤ 3000000000 * w := by omega
theorem own_t2 {X Y S : UInt64} {ps pc : Int64} {a b e0 e1 E C vx vy : Nat} (hX : TRM X a e0 vx) (hY : TRM Y b e1 vy) (hS : FP.Core.val64 S = FP.Core.roundRatio FP.Core.b64 false (vx + vy) UU 0) (hps : ps.toInt = (E : Int)) (hpc : pc.toInt = (C : Int)) (ha : a ≤ 4) (hb : b ≤ 4) (hab : 1 ≤ a + b) (p0 : 0 < e0) (p1 : 0 < e1) (q0 : e0 ≤ 536870912) (q1 : e1 ≤ 536870912) (E1 : 0 < E) (E2 : E ≤ 1073741824) (C1 : 0 < C) (C2 : C ≤ 4) :
    ∃ vS v1 v2, VAL S vS ∧ VAL (FP.dmul S (FP.l2d ps)) v1 ∧ VAL (FP.ddiv (FP.dmul S (FP.l2d ps)) (FP.l2d pc)) v2 ∧ 4503599627370496 * 4503599627370496 * 4503599627370496 * 4503599627370496 * (v2 * (C * (e0 * e1))) ≤ 4503599627370497 * 4503599627370497 * 4503599627370497 * 4503599627370497 * ((a * e1 + b * e0) * E * UU) ∧ 4503599627370495 * 4503599627370495 * 4503599627370495 * 4503599627370495 * ((a * e1 + b * e0) * E * UU) ≤ 4503599627370496 * 4503599627370496 * 4503599627370496 * 4503599627370496 * (v2 * (C * (e0 * e1))) ∧ ((∃ t, t ≤ 29 ∧ e0 = 2 ^ t) → (∃ t, t ≤ 29 ∧ e1 = 2 ^ t) → ∀ T, T ≤ 100 → (a * e1 + b * e0) * E = T * (C * (e0 * e1)) → v2 = T * UU) := by
  obtain ⟨VX, x1, x2, x3⟩ := hX
  obtain ⟨VY, y1, y2, y3⟩ := hY
  have hU := own_UU
  have ax : a * UU ≤ 4 * UU := Nat.mul_le_mul_right _ ha
  have bx : b * UU ≤ 4 * UU := Nat.mul_le_mul_right _ hb
  have ex : vx ≤ vx * e0 := Nat.le_mul_of_pos_right _ p0
  have ex2 : vx * e0 ≤ vx * 536870912 := Nat.mul_le_mul_left _ q0
  have ey : vy ≤ vy * e1 := Nat.le_mul_of_pos_right _ p1
  have ey2 : vy * e1 ≤ vy * 536870912 := Nat.mul_le_mul_left _ q1
  have s_hi : vx + vy ≤ 16 * UU := by omega
  have s_lo : UU ≤ (vx + vy) * 1073741824 := by
    rcases Nat.eq_zero_or_pos a with z | z
    · have : UU ≤ b * UU := Nat.le_mul_of_pos_left _ (by omega)
      omega
    · have : UU ≤ a * UU := Nat.le_mul_of_pos_left _ z
      omega
  have g200 : (1073741824 : Nat) ≤ 2 ^ 200 := by decide
  obtain ⟨vS, VS, r1, r2⟩ := own_VR hS (by omega) hU (Nat.le_trans s_lo (Nat.mul_le_mul_left _ g200)) (by omega)
  have k1 : 4503599627370496 * vS ≤ 4503599627370497 * (vx + vy) := Nat.le_of_mul_le_mul_right (by rw [Nat.mul_assoc, Nat.mul_assoc]; exact r1) hU
  have m1 : 4503599627370495 * (vx + vy) ≤ 4503599627370496 * vS := Nat.le_of_mul_le_mul_right (by rw [Nat.mul_assoc, Nat.mul_assoc]; exact r2) hU
  have S_hi : vS ≤ 32 * UU := by omega
  have S_lo : UU ≤ 3000000000 * vS := own_lo1 s_lo m1
  have VE := own_VI hps E1 (by omega)
  have VC := own_VI hpc C1 (by omega)
  have w1 : vS ≤ vS * E := Nat.le_mul_of_pos_right _ E1
  have w2 : vS * E ≤ vS * 1073741824 := Nat.mul_le_mul_left _ E2
  have hM := own_VM VS VE
  have aw : vS * (E * UU) = vS * E * UU := (Nat.mul_assoc ..).symm
  obtain ⟨v1, V1, r3, r4⟩ := own_VR hM (Nat.mul_pos (by omega) (Nat.mul_pos E1 hU)) (Nat.mul_pos hU hU) (by
    rw [aw, show vS * E * UU * 2 ^ 200 = vS * E * 2 ^ 200 * UU by ac_rfl]
    exact Nat.mul_le_mul_right _ (Nat.le_trans (own_lo2 S_lo w1) (by rw [Nat.mul_comm]; exact Nat.mul_le_mul_left _ (by decide)))) (by
    rw [aw, ← Nat.mul_assoc]
    exact Nat.mul_le_mul_right _ (by omega))
  have hUU := Nat.mul_pos hU hU
  have k2 : 4503599627370496 * v1 ≤ 4503599627370497 * (vS * E) := Nat.le_of_mul_le_mul_right (c := UU * UU) (by
    rw [Nat.mul_assoc, show 4503599627370497 * (vS * E) * (UU * UU) = 4503599627370497 * (vS * (E * UU) * UU) by ac_rfl]; exact r3) hUU
  have m2 : 4503599627370495 * (vS * E) ≤ 4503599627370496 * v1 := Nat.le_of_mul_le_mul_right (c := UU * UU) (by
    rw [Nat.mul_assoc 4503599627370496 v1, show 4503599627370495 * (vS * E) * (UU * UU) = 4503599627370495 * (vS * (E * UU) * UU) by ac_rfl]; exact r4) hUU
  have hD := own_VD V1 VC (Nat.mul_pos C1 hU)
  have cc1 : UU ≤ C * UU := Nat.le_mul_of_pos_left _ C1
  have cc2 : C * UU ≤ 4 * UU := Nat.mul_le_mul_right _ C2
  have g200' : (17179869184 : Nat) ≤ 2 ^ 200 := by decide
  obtain ⟨v2, V2, r5, r6⟩ := own_VR hD (by omega) (Nat.mul_pos C1 hU) (Nat.le_trans (by omega : C * UU ≤ 17179869184 * v1) (by rw [Nat.mul_comm]; exact Nat.mul_le_mul_left _ g200')) (by omega)
  have k3 : 4503599627370496 * (v2 * C) ≤ 4503599627370497 * v1 := Nat.le_of_mul_le_mul_right (c := UU) (by
    rw [Nat.mul_assoc 4503599627370497, show 4503599627370496 * (v2 * C) * UU = 4503599627370496 * (v2 * (C * UU)) by ac_rfl]; exact r5) hU
  have m3 : 4503599627370495 * v1 ≤ 4503599627370496 * (v2 * C) := Nat.le_of_mul_le_mul_right (c := UU) (by
    rw [Nat.mul_assoc 4503599627370495, show 4503599627370496 * (v2 * C) * UU = 4503599627370496 * (v2 * (C * UU)) by ac_rfl]; exact r6) hU
  refine ⟨vS, v1, v2, VS, V1, V2, own_chU k1 k2 k3 x1 y1, own_chL m1 m2 m3 x2 y2, fun hp0 hp1 T hT hn => ?_⟩
  have X := x3 hp0
  have Y := y3 hp1
  obtain ⟨t0, ht0, ee0⟩ := hp0
  obtain ⟨t1, ht1, ee1⟩ := hp1
  have he : e0 * e1 = 2 ^ (t0 + t1) := by rw [ee0, ee1, ← Nat.pow_add]
  have hpos : 0 < e0 * e1 := Nat.mul_pos p0 p1
  have b1 : a * e1 ≤ 4 * 536870912 := Nat.mul_le_mul ha q1
  have b2 : b * e0 ≤ 4 * 536870912 := Nat.mul_le_mul hb q0
  have sum : (vx + vy) * (e0 * e1) = (a * e1 + b * e0) * UU := by
    have s1 : (vx + vy) * (e0 * e1) = vx * e0 * e1 + vy * e1 * e0 := by rw [Nat.add_mul]; congr 1 <;> ac_rfl
    rw [s1, X, Y, Nat.add_mul]
    congr 1 <;> ac_rfl
  obtain ⟨vS', VS', hS'⟩ := own_VX (c := a * e1 + b * e0) (s := t0 + t1) hS hU (by omega) (by omega) (by rw [← he]; exact sum)
  cases own_VU VS VS'
  rw [← he] at hS'
  have hCT : C * T ≤ 4 * 100 := Nat.mul_le_mul C2 hT
  have f1 : vS * E = C * T * UU := by
    refine Nat.eq_of_mul_eq_mul_right hpos ?_
    have s1 : vS * E * (e0 * e1) = vS * (e0 * e1) * E := by ac_rfl
    have s2 : (a * e1 + b * e0) * UU * E = (a * e1 + b * e0) * E * UU := by ac_rfl
    rw [s1, hS', s2, hn]
    ac_rfl
  obtain ⟨v1', V1', h1'⟩ := own_VX (c := C * T) (s := 0) hM (Nat.mul_pos hU hU) (by omega) (by omega) (by
    rw [Nat.pow_zero, Nat.mul_one, aw, f1]
    ac_rfl)
  cases own_VU V1 V1'
  rw [Nat.pow_zero, Nat.mul_one] at h1'
  obtain ⟨v2', V2', h2'⟩ := own_VX (c := T) (s := 0) hD (Nat.mul_pos C1 hU) (by omega) (by omega) (by
    rw [Nat.pow_zero, Nat.mul_one, h1']
    ac_rfl)
  cases own_VU V2 V2'
  rw [Nat.pow_zero, Nat.mul_one] at h2'
  exact h2'
theorem own_nnsub {x y : UInt64} {v w : Nat} (hx : VAL x v) (hy : VAL y w) : Jvm.Free.Fl.NoNaN64 (FP.dsub x y) := by
  obtain ⟨sg, n, e, z1, z2, z3⟩ := own_sub hx hy
  exact Jvm.Free.Fl.noNaN64_no.mpr ((FP.Core.notNaN_iff _).mpr (by rw [z1]; exact FP.Core.roundRatio_ne_nan _ _ _ _ _))
def SUM (f : Nat → UInt64) : Nat → UInt64
  | 0 => 0
  | k + 1 => FP.dadd (SUM f k) (f k)
def UV (S : UInt64) (ps pc : Int64) : UInt64 := FP.dsub (FP.ddiv (FP.dmul S (FP.l2d ps)) (FP.l2d pc)) (FP.l2d pc)
def WW (fs : Int32) : UInt64 := FP.dmul (4611686018427387904 : UInt64) (FP.i2d (fs - (1 : Int32)))
def RES (S : UInt64) (ps pc : Int64) (fs : Int32) : Prop := 0 < cmpValue (FP.dcmp (UV S ps pc) (WW fs)) .g
theorem own_core {X Y S : UInt64} {ps pc : Int64} {fs : Int32} {a b e0 e1 E C k : Nat} (hX : FP.Core.val64 X = FP.Core.roundRatio FP.Core.b64 false a e0 0) (hY : FP.Core.val64 Y = FP.Core.roundRatio FP.Core.b64 false b e1 0) (hS : ∀ vx vy, VAL X vx → VAL Y vy → FP.Core.val64 S = FP.Core.roundRatio FP.Core.b64 false (vx + vy) UU 0) (hps : ps.toInt = (E : Int)) (hpc : pc.toInt = (C : Int)) (hfs : fs.toInt = (k : Int)) (hk : k = 1 ∨ k = 2) (ha : a ≤ 4) (hb : b ≤ 4) (hab : 1 ≤ a + b) (p0 : 0 < e0) (p1 : 0 < e1) (q0 : e0 ≤ 536870912) (q1 : e1 ≤ 536870912) (E1 : 0 < E) (E2 : E ≤ 1073741824) (C1 : 0 < C) (C2 : C ≤ 4) {n dd : Nat} (hn : n = (a * e1 + b * e0) * E) (hdd : dd = (C + (2 * k - 2)) * (C * (e0 * e1))) (hk1 : k = 1 → n = dd) :
    Jvm.Free.Fl.NoNaN64 (FP.dmul S (FP.l2d ps)) ∧ Jvm.Free.Fl.NoNaN64 (FP.ddiv (FP.dmul S (FP.l2d ps)) (FP.l2d pc)) ∧ Jvm.Free.Fl.NoNaN64 (UV S ps pc) ∧ Jvm.Free.Fl.NoNaN64 (WW fs) ∧
    (n < dd → n / 1099511627776 < dd - n → ¬ RES S ps pc fs) ∧ (dd < n → n / 1099511627776 < n - dd → RES S ps pc fs) ∧ (n = dd → (∃ t, t ≤ 29 ∧ e0 = 2 ^ t) → (∃ t, t ≤ 29 ∧ e1 = 2 ^ t) → ¬ RES S ps pc fs) := by
  obtain ⟨vx, TX⟩ := own_trm hX ha p0 q0
  obtain ⟨vy, TY⟩ := own_trm hY hb p1 q1
  obtain ⟨vS, v1, v2, VS, V1, V2, up, lo, ex⟩ := own_t2 TX TY (hS vx vy TX.1 TY.1) hps hpc ha hb hab p0 p1 q0 q1 E1 E2 C1 C2
  have VC := own_VI hpc C1 (by omega)
  have VW : VAL (WW fs) ((2 * k - 2) * UU) := by
    rcases hk with rfl | rfl
    · obtain rfl : fs = 1 := Int32.toInt_inj.mp (hfs.trans rfl)
      exact ⟨0, -1074, by decide +kernel, by decide +kernel⟩
    · obtain rfl : fs = 2 := Int32.toInt_inj.mp (hfs.trans rfl)
      exact ⟨2 ^ 52, -51, by decide +kernel, by decide +kernel⟩
  have hU := own_UU
  have hD : 0 < C * (e0 * e1) := Nat.mul_pos C1 (Nat.mul_pos p0 p1)
  have small : v2 ≤ (C + (2 * k - 2)) * UU → ¬ RES S ps pc fs := fun h => (own_cmpA V2 VC VW (by rw [Nat.add_mul] at h; exact h)).2
  rw [← hn] at up lo
  refine ⟨own_nnV V1, own_nnV V2, own_nnsub V2 VC, own_nnV VW, fun h1 h2 => ?_, fun h1 h2 => ?_, fun h1 h2 h3 => ?_⟩
  · exact small (own_below (K4 := 4503599627370496 * 4503599627370496 * 4503599627370496 * 4503599627370496) (L4 := 4503599627370497 * 4503599627370497 * 4503599627370497 * 4503599627370497) (G := 1099511627776) hD hU (by decide) up hdd (by omega) (by decide))
  · rcases hk with rfl | rfl
    · exact absurd (hk1 rfl) (by omega)
    · have big := own_above (K4 := 4503599627370496 * 4503599627370496 * 4503599627370496 * 4503599627370496) (M4 := 4503599627370495 * 4503599627370495 * 4503599627370495 * 4503599627370495) (G := 1099511627775) (H := 2199023255552) hD hU (by omega) (by omega) (by decide) lo hdd (by omega) (by decide)
      have hv : 2199023255552 * FP.Core.inUnits (2 ^ 52 + 1024) (-51) FP.Core.b64.qmin = (2199023255552 * 2 + 1) * UU := by decide +kernel
      have hl : (2 * 2 - 2) * UU < FP.Core.inUnits (2 ^ 52 + 1024) (-51) FP.Core.b64.qmin := by decide +kernel
      have hf : FP.Core.fits FP.Core.b64 (.fin false (2 ^ 52 + 1024) (-51)) := by refine ⟨?_, ?_, ?_, Or.inr ?_⟩ <;> decide +kernel
      refine (own_cmpB V2 VC VW (V := .fin false (2 ^ 52 + 1024) (-51)) hf (by simp) rfl ?_ hl).2
      refine Nat.le_of_mul_le_mul_left (c := 2199023255552) ?_ (by decide)
      show 2199023255552 * (C * UU + FP.Core.inUnits (2 ^ 52 + 1024) (-51) FP.Core.b64.qmin) ≤ 2199023255552 * v2
      rw [Nat.mul_add, hv]
      refine Nat.le_trans (Nat.le_of_eq ?_) big
      rw [show C + (2 * 2 - 2) = C + 2 from rfl, Nat.mul_add 2199023255552 C 2, Nat.add_assoc (2199023255552 * C), Nat.add_mul (2199023255552 * C), Nat.mul_assoc]
  · exact small (Nat.le_of_eq (ex h2 h3 _ (by rcases hk with rfl | rfl <;> omega) (by rw [← hn, h1, hdd])))
theorem own_S2 {f : Nat → UInt64} {vx vy : Nat} (hX : VAL (f 0) vx) (hY : VAL (f 1) vy) : FP.Core.val64 (SUM f 2) = FP.Core.roundRatio FP.Core.b64 false (vx + vy) UU 0 ∧ ∀ j, j < 2 → Jvm.Free.Fl.NoNaN64 (FP.dadd (SUM f j) (f j)) := by
  have z0 : VAL (SUM f 0) 0 := own_V0
  have z1 : VAL (SUM f 1) vx := own_zadd z0 hX
  have z2 := own_VA z1 hY
  refine ⟨z2, fun j hj => ?_⟩
  rcases (show j = 0 ∨ j = 1 by omega) with rfl | rfl
  · exact own_nnV z1
  · exact own_nn z2
theorem own_S3 {f : Nat → UInt64} {vx vy : Nat} (h0 : f 0 = 0) (hX : VAL (f 1) vx) (hY : VAL (f 2) vy) : FP.Core.val64 (SUM f 3) = FP.Core.roundRatio FP.Core.b64 false (vx + vy) UU 0 ∧ ∀ j, j < 3 → Jvm.Free.Fl.NoNaN64 (FP.dadd (SUM f j) (f j)) := by
  have z0 : VAL (SUM f 0) 0 := own_V0
  have z1 : VAL (SUM f 1) 0 := own_zadd z0 (by rw [h0]; exact own_V0)
  have z2 : VAL (SUM f 2) vx := own_zadd z1 hX
  have z3 := own_VA z2 hY
  refine ⟨z3, fun j hj => ?_⟩
  rcases (show j = 0 ∨ j = 1 ∨ j = 2 by omega) with rfl | rfl | rfl
  · exact own_nnV z1
  · exact own_nnV z2
  · exact own_nn z3
theorem d10_0 : decode prog_35_method_16_code 0 = .ok (.aload_n 0, 1) := by decide +kernel
theorem d10_1 : decode prog_35_method_16_code 1 = .ok (.getfield 71, 3) := by decide +kernel
theorem d10_4 : decode prog_35_method_16_code 4 = .ok (.lconst 0, 1) := by decide +kernel
theorem d10_5 : decode prog_35_method_16_code 5 = .ok (.lcmp, 1) := by decide +kernel
theorem d10_6 : decode prog_35_method_16_code 6 = .ok (.ifCond .ne 5, 3) := by decide +kernel
theorem d10_9 : decode prog_35_method_16_code 9 = .ok (.iconst 1, 1) := by decide +kernel
theorem d10_10 : decode prog_35_method_16_code 10 = .ok (.ireturn, 1) := by decide +kernel
theorem d10_11 : decode prog_35_method_16_code 11 = .ok (.dconst 0, 1) := by decide +kernel
theorem d10_12 : decode prog_35_method_16_code 12 = .ok (.dstore_n 1, 1) := by decide +kernel
theorem d10_13 : decode prog_35_method_16_code 13 = .ok (.aload_n 0, 1) := by decide +kernel
theorem d10_14 : decode prog_35_method_16_code 14 = .ok (.getfield 43, 3) := by decide +kernel
theorem d10_17 : decode prog_35_method_16_code 17 = .ok (.astore_n 3, 1) := by decide +kernel
theorem d10_18 : decode prog_35_method_16_code 18 = .ok (.aload_n 3, 1) := by decide +kernel
theorem d10_19 : decode prog_35_method_16_code 19 = .ok (.arraylength, 1) := by decide +kernel
theorem d10_20 : decode prog_35_method_16_code 20 = .ok (.istore 4, 2) := by decide +kernel
theorem d10_22 : decode prog_35_method_16_code 22 = .ok (.iconst 0, 1) := by decide +kernel
theorem d10_23 : decode prog_35_method_16_code 23 = .ok (.istore 5, 2) := by decide +kernel
theorem d10_25 : decode prog_35_method_16_code 25 = .ok (.iload 5, 2) := by decide +kernel
theorem d10_27 : decode prog_35_method_16_code 27 = .ok (.iload 4, 2) := by decide +kernel
theorem d10_29 : decode prog_35_method_16_code 29 = .ok (.if_icmp .ge 20, 3) := by decide +kernel
theorem d10_32 : decode prog_35_method_16_code 32 = .ok (.aload_n 3, 1) := by decide +kernel
theorem d10_33 : decode prog_35_method_16_code 33 = .ok (.iload 5, 2) := by decide +kernel
theorem d10_35 : decode prog_35_method_16_code 35 = .ok (.daload, 1) := by decide +kernel
theorem d10_36 : decode prog_35_method_16_code 36 = .ok (.dstore 6, 2) := by decide +kernel
theorem d10_38 : decode prog_35_method_16_code 38 = .ok (.dload_n 1, 1) := by decide +kernel
theorem d10_39 : decode prog_35_method_16_code 39 = .ok (.dload 6, 2) := by decide +kernel
theorem d10_41 : decode prog_35_method_16_code 41 = .ok (.dadd, 1) := by decide +kernel
theorem d10_42 : decode prog_35_method_16_code 42 = .ok (.dstore_n 1, 1) := by decide +kernel
theorem d10_43 : decode prog_35_method_16_code 43 = .ok (.iinc 5 1, 3) := by decide +kernel
theorem d10_46 : decode prog_35_method_16_code 46 = .ok (.goto (-21), 3) := by decide +kernel
theorem d10_49 : decode prog_35_method_16_code 49 = .ok (.dload_n 1, 1) := by decide +kernel
theorem d10_50 : decode prog_35_method_16_code 50 = .ok (.aload_n 0, 1) := by decide +kernel
theorem d10_51 : decode prog_35_method_16_code 51 = .ok (.getfield 75, 3) := by decide +kernel
theorem d10_54 : decode prog_35_method_16_code 54 = .ok (.l2d, 1) := by decide +kernel
theorem d10_55 : decode prog_35_method_16_code 55 = .ok (.dmul, 1) := by decide +kernel
theorem d10_56 : decode prog_35_method_16_code 56 = .ok (.aload_n 0, 1) := by decide +kernel
theorem d10_57 : decode prog_35_method_16_code 57 = .ok (.getfield 71, 3) := by decide +kernel
theorem d10_60 : decode prog_35_method_16_code 60 = .ok (.l2d, 1) := by decide +kernel
theorem d10_61 : decode prog_35_method_16_code 61 = .ok (.ddiv, 1) := by decide +kernel
theorem d10_62 : decode prog_35_method_16_code 62 = .ok (.aload_n 0, 1) := by decide +kernel
theorem d10_63 : decode prog_35_method_16_code 63 = .ok (.getfield 71, 3) := by decide +kernel
theorem d10_66 : decode prog_35_method_16_code 66 = .ok (.l2d, 1) := by decide +kernel
theorem d10_67 : decode prog_35_method_16_code 67 = .ok (.dsub, 1) := by decide +kernel
theorem d10_68 : decode prog_35_method_16_code 68 = .ok (.dstore_n 3, 1) := by decide +kernel
theorem d10_69 : decode prog_35_method_16_code 69 = .ok (.dload_n 3, 1) := by decide +kernel
theorem d10_70 : decode prog_35_method_16_code 70 = .ok (.ldc2_w 159, 3) := by decide +kernel
theorem d10_73 : decode prog_35_method_16_code 73 = .ok (.aload_n 0, 1) := by decide +kernel
theorem d10_74 : decode prog_35_method_16_code 74 = .ok (.getfield 67, 3) := by decide +kernel
theorem d10_77 : decode prog_35_method_16_code 77 = .ok (.iconst 1, 1) := by decide +kernel
theorem d10_78 : decode prog_35_method_16_code 78 = .ok (.isub, 1) := by decide +kernel
theorem d10_79 : decode prog_35_method_16_code 79 = .ok (.i2d, 1) := by decide +kernel
theorem d10_80 : decode prog_35_method_16_code 80 = .ok (.dmul, 1) := by decide +kernel
theorem d10_81 : decode prog_35_method_16_code 81 = .ok (.dcmp .g, 1) := by decide +kernel
theorem d10_82 : decode prog_35_method_16_code 82 = .ok (.ifCond .gt 7, 3) := by decide +kernel
theorem d10_85 : decode prog_35_method_16_code 85 = .ok (.iconst 1, 1) := by decide +kernel
theorem d10_86 : decode prog_35_method_16_code 86 = .ok (.goto 4, 3) := by decide +kernel
theorem d10_89 : decode prog_35_method_16_code 89 = .ok (.iconst 0, 1) := by decide +kernel
theorem d10_90 : decode prog_35_method_16_code 90 = .ok (.ireturn, 1) := by decide +kernel
theorem pn_10 : plainFor (⟨"com/example/revisit/revisit/policy/ChangeRates", "solveAlike", "()Z"⟩ : MethodName) = true := by first | exact plainFor_of_name (by first | (simp [plainName, overriddenIn]; done) | decide +kernel) | decide +kernel
theorem ef_10 (m : MethodId) (a1 : Addr) : entryFrame m #[(.ref a1)] 8 = mkF m 0 #[.val (.ref a1), .unset, .unset, .unset, .unset, .unset, .unset, .unset] [] := by first | (simp [entryFrame, argsToLocals, Value.category, Array.replicate]; done) | rfl
theorem pd_10 : parseMethodDescriptor "()Z" = some ⟨[], some .boolean⟩ := by decide +kernel
def Q10 (Z : State) (a1 : Addr) (km : Nat) (lastf : Nat → Int32) (chg : Nat → Int32) (dsp : Nat → UInt64) (fs : Int32) (pc : Int64) (ps : Int64) (kn : Int32) (av : Int32) (ob : Nat) (h0 : Heap) (n0 : Nat) (v : Option Value) (h : Heap) (L : List Loc) : Prop := ∃ r, v = some (.int r) ∧ (r = 0 ∨ r = 1) ∧ (pc = 0 → r = 1) ∧ (¬ pc = 0 → (RES (SUM dsp km) ps pc fs → r = 0) ∧ (¬ RES (SUM dsp km) ps pc fs → r = 1)) ∧ Fr n0 L ∧ h0 = h
theorem rm10 (l : Launch) (Z : State) (a0 : Array Value) (hw : ∀ d ∈ tables_1, d.before a0 Z = true) (ws : List Jvm.Cond) (a1 : Addr) (km : Nat) (lastf : Nat → Int32) (chg : Nat → Int32) (dsp : Nat → UInt64) (fs : Int32) (pc : Int64) (ps : Int64) (kn : Int32) (av : Int32) (ob : Nat) (h0 : Heap) (n0 : Nat) (Z0 : n0 ≤ h0.size) (S0 : CRS Z h0 n0 a1 km lastf chg dsp fs pc ps kn av ob) (hkm : km = 2 ∨ km = 3) (hN : ¬ pc = 0 → (∀ j, j < km → Jvm.Free.Fl.NoNaN64 (FP.dadd (SUM dsp j) (dsp j))) ∧ Jvm.Free.Fl.NoNaN64 (FP.dmul (SUM dsp km) (FP.l2d ps)) ∧ Jvm.Free.Fl.NoNaN64 (FP.ddiv (FP.dmul (SUM dsp km) (FP.l2d ps)) (FP.l2d pc)) ∧ Jvm.Free.Fl.NoNaN64 (UV (SUM dsp km) ps pc) ∧ Jvm.Free.Fl.NoNaN64 (WW fs)) :
    MetFree l (⟨"com/example/revisit/revisit/policy/ChangeRates", "solveAlike", "()Z"⟩ : MethodName) (head1 (Jvm.Cond.code (⟨"com/example/revisit/revisit/policy/ChangeRates", "solveAlike", "()Z"⟩ : MethodName) prog_35_method_16_code 8 (some .boolean) :: ws) ({ frames := 0, cells := 0, slots := 0, locals := 0 } : Room)) (fun a U => a = #[(.ref a1)] ∧ Z.Warmed39 U.vm ∧ U.heap = h0) (fun _ _ _ _ _ => True) (fun _ U o U' => ∃ v L, o = .returned v ∧ (Q10 Z a1 km lastf chg dsp fs pc ps kn av ob h0 n0) v U'.heap L ∧ FrameEnd U o U' L ({ frames := 0, cells := 0, slots := 0, locals := 0 } : Room).cells ({ frames := 0, cells := 0, slots := 0, locals := 0 } : Room).slots) := by
  refine MetFree.of_bodySF pn_10 hisR ?_
  intro p e s m args below meth c s₁ Bd hml0 hP hK
  obtain ⟨rfl, hZ, hh⟩ := hP
  have hx := Bd.exec
  have hby := Bd.bytes
  have hml : c.maxLocals = 8 := hml0
  have hown : s.vm.findClass "com/example/revisit/revisit/policy/ChangeRates" = some m.cls := findClass_of_methodNamed Bd.named
  have hnm := (name_of_methodNamed Bd.named Bd.method).1
  have X0 : Stand p l e ({ frames := 0, cells := 0, slots := 0, locals := 0 } : Room) s m #[(.ref a1)] below meth c s₁ [] 0 0 := Stand.of_body Bd
  have e0 : s₁.heap = h0 := by rw [← hh, Bd.state]; rfl
  have N0 := Fr.nil n0
  have lk : meth.locks = false := BodyLoose.notSynchronized Bd
  have hret := Bd.returns
  show Ends p e below (EF s ({ frames := 0, cells := 0, slots := 0, locals := 0 } : Room).cells ({ frames := 0, cells := 0, slots := 0, locals := 0 } : Room).slots) (Q10 Z a1 km lastf chg dsp fs pc ps kn av ob h0 n0) (s₁.setTop (entryFrame m #[(.ref a1)] 8))
  refine Ends.cast (ef_10 m a1) ?_
  obtain ⟨own, lf, fe, cf, lq, pl, dt, rl, gf, F0, Ai, Aj, Ak, Al, Am, W0, ⟨nb, nlf, nfe, ncf, ndt⟩, hR, dp, hdp, RP⟩ := S0
  rcases hkm with rfl | rfl
  · skip
    refine own_aloadN (n := 1) X0 hx (hb hby d10_0) rfl rfl rfl ?_
    refine own_getF (n := 4) X0 hx hZ hown (hw _ (List.mem_of_getElem? (i := 77) rfl)) e0 F0.2.2.2.2.2.2.2.2.1 (hb hby d10_1) rfl ?_
    intro T1 X1 e1
    refine own_lconst (n := 5) X1 hx (0 : Int64) (hb hby d10_4) rfl rfl ?_
    refine own_lcmp (n := 6) X1 hx (hb hby d10_5) rfl ?_
    by_cases c6 : pc = (0 : Int64)
    · refine own_ifNo (n := 9) X1 hx (hb hby d10_6) (lw_ne_f c6) rfl ?_
      refine own_iconst (n := 10) X1 hx (1 : Int32) (hb hby d10_9) rfl rfl ?_
      refine own_retN X1 hx lk hret (by simp) (hb hby d10_10) (by decide) (by decide) ?_
      rw [e1]
      exact ⟨_, rfl, Or.inr rfl, fun _ => rfl, fun z => absurd c6 z, N0, rfl⟩
    · refine own_ifYes (n := 11) X1 hx (hb hby d10_6) (lw_ne_t c6) (by decide) (by decide) ?_
      refine own_dconst0 (n := 12) X1 hx (hb hby d10_11) rfl ?_
      refine own_dstoreN (n := 13) X1 hx (hb hby d10_12) (l' := #[.val (.ref a1), .val (.double (0 : UInt64)), .second, .unset, .unset, .unset, .unset, .unset]) rfl rfl ?_
      refine own_aloadN (n := 14) X1 hx (hb hby d10_13) rfl rfl rfl ?_
      refine own_getF (n := 17) X1 hx hZ hown (hw _ (List.mem_of_getElem? (i := 63) rfl)) e1 F0.2.2.2.2.2.2.1 (hb hby d10_14) rfl ?_
      intro T2 X2 e2
      refine own_astoreN (n := 18) X2 hx (hb hby d10_17) rfl (l' := #[.val (.ref a1), .val (.double (0 : UInt64)), .second, .val (.ref dt), .unset, .unset, .unset, .unset]) rfl rfl ?_
      refine own_aloadN (n := 19) X2 hx (hb hby d10_18) rfl rfl rfl ?_
      refine own_arraylength (n := 20) X2 hx hZ e2 Am (v := (2 : Int32)) rfl (hb hby d10_19) rfl ?_
      refine own_istore (n := 22) X2 hx (hb hby d10_20) (l' := #[.val (.ref a1), .val (.double (0 : UInt64)), .second, .val (.ref dt), .val (.int (2 : Int32)), .unset, .unset, .unset]) rfl rfl ?_
      refine own_iconst (n := 23) X2 hx (0 : Int32) (hb hby d10_22) rfl rfl ?_
      refine own_istore (n := 25) X2 hx (hb hby d10_23) (l' := #[.val (.ref a1), .val (.double (0 : UInt64)), .second, .val (.ref dt), .val (.int (2 : Int32)), .val (.int (0 : Int32)), .unset, .unset]) rfl rfl ?_
      refine own_iload (n := 27) X2 hx (hb hby d10_25) rfl rfl ?_
      refine own_iload (n := 29) X2 hx (hb hby d10_27) rfl rfl ?_
      refine own_icmpNo (n := 32) X2 hx (hb hby d10_29) (Jvm.Free.XT.ii_ge_f (by decide)) rfl ?_
      refine own_aloadN (n := 33) X2 hx (hb hby d10_32) rfl rfl rfl ?_
      refine own_iload (n := 35) X2 hx (hb hby d10_33) rfl rfl ?_
      refine own_daload (n := 36) X2 hx hZ e2 Am (i := 0) (by decide) (by decide) (hb hby d10_35) rfl ?_
      refine own_dstore (n := 38) X2 hx (hb hby d10_36) (l' := #[.val (.ref a1), .val (.double (0 : UInt64)), .second, .val (.ref dt), .val (.int (2 : Int32)), .val (.int (0 : Int32)), .val (.double (dsp 0)), .second]) rfl rfl ?_
      refine own_dloadN (n := 39) X2 hx (hb hby d10_38) rfl rfl ?_
      refine own_dload (n := 41) X2 hx (hb hby d10_39) rfl rfl ?_
      refine own_dadd (n := 42) X2 hx (hb hby d10_41) ((hN c6).1 0 (by decide)) rfl ?_
      refine own_dstoreN (n := 43) X2 hx (hb hby d10_42) (l' := #[.val (.ref a1), .val (.double (FP.dadd (0 : UInt64) (dsp 0))), .second, .val (.ref dt), .val (.int (2 : Int32)), .val (.int (0 : Int32)), .val (.double (dsp 0)), .second]) rfl rfl ?_
      refine own_iinc (n := 46) X2 hx (hb hby d10_43) rfl (v := (1 : Int32)) rfl (l' := #[.val (.ref a1), .val (.double (FP.dadd (0 : UInt64) (dsp 0))), .second, .val (.ref dt), .val (.int (2 : Int32)), .val (.int ((0 : Int32) + (1 : Int32))), .val (.double (dsp 0)), .second]) rfl rfl ?_
      refine own_goto (n := 25) X2 hx (hb hby d10_46) (by decide) (by decide) ?_
      refine own_iload (n := 27) X2 hx (hb hby d10_25) rfl rfl ?_
      refine own_iload (n := 29) X2 hx (hb hby d10_27) rfl rfl ?_
      refine own_icmpNo (n := 32) X2 hx (hb hby d10_29) (Jvm.Free.XT.ii_ge_f (by decide)) rfl ?_
      refine own_aloadN (n := 33) X2 hx (hb hby d10_32) rfl rfl rfl ?_
      refine own_iload (n := 35) X2 hx (hb hby d10_33) rfl rfl ?_
      refine own_daload (n := 36) X2 hx hZ e2 Am (i := 1) (by decide) (by decide) (hb hby d10_35) rfl ?_
      refine own_dstore (n := 38) X2 hx (hb hby d10_36) (l' := #[.val (.ref a1), .val (.double (FP.dadd (0 : UInt64) (dsp 0))), .second, .val (.ref dt), .val (.int (2 : Int32)), .val (.int ((0 : Int32) + (1 : Int32))), .val (.double (dsp 1)), .second]) rfl rfl ?_
      refine own_dloadN (n := 39) X2 hx (hb hby d10_38) rfl rfl ?_
      refine own_dload (n := 41) X2 hx (hb hby d10_39) rfl rfl ?_
      refine own_dadd (n := 42) X2 hx (hb hby d10_41) ((hN c6).1 1 (by decide)) rfl ?_
      refine own_dstoreN (n := 43) X2 hx (hb hby d10_42) (l' := #[.val (.ref a1), .val (.double (FP.dadd (FP.dadd (0 : UInt64) (dsp 0)) (dsp 1))), .second, .val (.ref dt), .val (.int (2 : Int32)), .val (.int ((0 : Int32) + (1 : Int32))), .val (.double (dsp 1)), .second]) rfl rfl ?_
      refine own_iinc (n := 46) X2 hx (hb hby d10_43) rfl (v := (1 : Int32)) rfl (l' := #[.val (.ref a1), .val (.double (FP.dadd (FP.dadd (0 : UInt64) (dsp 0)) (dsp 1))), .second, .val (.ref dt), .val (.int (2 : Int32)), .val (.int (((0 : Int32) + (1 : Int32)) + (1 : Int32))), .val (.double (dsp 1)), .second]) rfl rfl ?_
      refine own_goto (n := 25) X2 hx (hb hby d10_46) (by decide) (by decide) ?_
      refine own_iload (n := 27) X2 hx (hb hby d10_25) rfl rfl ?_
      refine own_iload (n := 29) X2 hx (hb hby d10_27) rfl rfl ?_
      refine own_icmpYes (n := 49) X2 hx (hb hby d10_29) (Jvm.Free.XT.ii_ge_t (by decide)) (by decide) (by decide) ?_
      refine own_dloadN (n := 50) X2 hx (hb hby d10_49) rfl rfl ?_
      refine own_aloadN (n := 51) X2 hx (hb hby d10_50) rfl rfl rfl ?_
      refine own_getF (n := 54) X2 hx hZ hown (hw _ (List.mem_of_getElem? (i := 104) rfl)) e2 F0.2.2.2.2.2.2.2.2.2.1 (hb hby d10_51) rfl ?_
      intro T3 X3 e3
      refine own_l2d (n := 55) X3 hx (hb hby d10_54) rfl ?_
      refine own_dmul (n := 56) X3 hx (hb hby d10_55) (hN c6).2.1 rfl ?_
      refine own_aloadN (n := 57) X3 hx (hb hby d10_56) rfl rfl rfl ?_
      refine own_getF (n := 60) X3 hx hZ hown (hw _ (List.mem_of_getElem? (i := 77) rfl)) e3 F0.2.2.2.2.2.2.2.2.1 (hb hby d10_57) rfl ?_
      intro T4 X4 e4
      refine own_l2d (n := 61) X4 hx (hb hby d10_60) rfl ?_
      refine own_ddiv (n := 62) X4 hx (hb hby d10_61) (hN c6).2.2.1 rfl ?_
      refine own_aloadN (n := 63) X4 hx (hb hby d10_62) rfl rfl rfl ?_
      refine own_getF (n := 66) X4 hx hZ hown (hw _ (List.mem_of_getElem? (i := 77) rfl)) e4 F0.2.2.2.2.2.2.2.2.1 (hb hby d10_63) rfl ?_
      intro T5 X5 e5
      refine own_l2d (n := 67) X5 hx (hb hby d10_66) rfl ?_
      refine own_dsub (n := 68) X5 hx (hb hby d10_67) (hN c6).2.2.2.1 rfl ?_
      refine own_dstoreN (n := 69) X5 hx (hb hby d10_68) (l' := #[.val (.ref a1), .val (.double (FP.dadd (FP.dadd (0 : UInt64) (dsp 0)) (dsp 1))), .second, .val (.double (FP.dsub (FP.ddiv (FP.dmul (FP.dadd (FP.dadd (0 : UInt64) (dsp 0)) (dsp 1)) (FP.l2d ps)) (FP.l2d pc)) (FP.l2d pc))), .second, .val (.int (((0 : Int32) + (1 : Int32)) + (1 : Int32))), .val (.double (dsp 1)), .second]) rfl rfl ?_
      refine own_dloadN (n := 70) X5 hx (hb hby d10_69) rfl rfl ?_
      refine own_ldcD (n := 73) X5 hx hZ hown (hw _ (List.mem_of_getElem? (i := 140) rfl)) (hb hby d10_70) rfl ?_
      refine own_aloadN (n := 74) X5 hx (hb hby d10_73) rfl rfl rfl ?_
      refine own_getF (n := 77) X5 hx hZ hown (hw _ (List.mem_of_getElem? (i := 102) rfl)) e5 F0.2.2.2.2.2.2.2.1 (hb hby d10_74) rfl ?_
      intro T6 X6 e6
      refine own_iconst (n := 78) X6 hx (1 : Int32) (hb hby d10_77) rfl rfl ?_
      refine own_isub (n := 79) X6 hx (hb hby d10_78) rfl ?_
      refine own_i2d (n := 80) X6 hx (hb hby d10_79) rfl ?_
      refine own_dmul (n := 81) X6 hx (hb hby d10_80) (hN c6).2.2.2.2 rfl ?_
      refine own_dcmp (n := 82) X6 hx (hb hby d10_81) rfl ?_
      by_cases c82 : 0 < (cmpValue (FP.dcmp (FP.dsub (FP.ddiv (FP.dmul (FP.dadd (FP.dadd (0 : UInt64) (dsp 0)) (dsp 1)) (FP.l2d ps)) (FP.l2d pc)) (FP.l2d pc)) (FP.dmul (4611686018427387904 : UInt64) (FP.i2d (fs - (1 : Int32))))) .g)
      · refine own_ifYes (n := 89) X6 hx (hb hby d10_82) (Jvm.Free.XT.i0_gt_t c82) (by decide) (by decide) ?_
        refine own_iconst (n := 90) X6 hx (0 : Int32) (hb hby d10_89) rfl rfl ?_
        refine own_retN X6 hx lk hret (by simp) (hb hby d10_90) (by decide) (by decide) ?_
        rw [e6]
        exact ⟨_, rfl, Or.inl rfl, fun z => absurd z c6, fun _ => ⟨fun _ => rfl, fun z => absurd c82 z⟩, N0, rfl⟩
      · refine own_ifNo (n := 85) X6 hx (hb hby d10_82) (Jvm.Free.XT.i0_gt_f c82) rfl ?_
        refine own_iconst (n := 86) X6 hx (1 : Int32) (hb hby d10_85) rfl rfl ?_
        refine own_goto (n := 90) X6 hx (hb hby d10_86) (by decide) (by decide) ?_
        refine own_retN X6 hx lk hret (by simp) (hb hby d10_90) (by decide) (by decide) ?_
        rw [e6]
        exact ⟨_, rfl, Or.inr rfl, fun z => absurd z c6, fun _ => ⟨fun z => absurd z c82, fun _ => rfl⟩, N0, rfl⟩
  · skip
    refine own_aloadN (n := 1) X0 hx (hb hby d10_0) rfl rfl rfl ?_
    refine own_getF (n := 4) X0 hx hZ hown (hw _ (List.mem_of_getElem? (i := 77) rfl)) e0 F0.2.2.2.2.2.2.2.2.1 (hb hby d10_1) rfl ?_
    intro T7 X7 e7
    refine own_lconst (n := 5) X7 hx (0 : Int64) (hb hby d10_4) rfl rfl ?_
    refine own_lcmp (n := 6) X7 hx (hb hby d10_5) rfl ?_
    by_cases c6 : pc = (0 : Int64)
    · refine own_ifNo (n := 9) X7 hx (hb hby d10_6) (lw_ne_f c6) rfl ?_
      refine own_iconst (n := 10) X7 hx (1 : Int32) (hb hby d10_9) rfl rfl ?_
      refine own_retN X7 hx lk hret (by simp) (hb hby d10_10) (by decide) (by decide) ?_
      rw [e7]
      exact ⟨_, rfl, Or.inr rfl, fun _ => rfl, fun z => absurd c6 z, N0, rfl⟩
    · refine own_ifYes (n := 11) X7 hx (hb hby d10_6) (lw_ne_t c6) (by decide) (by decide) ?_
      refine own_dconst0 (n := 12) X7 hx (hb hby d10_11) rfl ?_
      refine own_dstoreN (n := 13) X7 hx (hb hby d10_12) (l' := #[.val (.ref a1), .val (.double (0 : UInt64)), .second, .unset, .unset, .unset, .unset, .unset]) rfl rfl ?_
      refine own_aloadN (n := 14) X7 hx (hb hby d10_13) rfl rfl rfl ?_
      refine own_getF (n := 17) X7 hx hZ hown (hw _ (List.mem_of_getElem? (i := 63) rfl)) e7 F0.2.2.2.2.2.2.1 (hb hby d10_14) rfl ?_
      intro T8 X8 e8
      refine own_astoreN (n := 18) X8 hx (hb hby d10_17) rfl (l' := #[.val (.ref a1), .val (.double (0 : UInt64)), .second, .val (.ref dt), .unset, .unset, .unset, .unset]) rfl rfl ?_
      refine own_aloadN (n := 19) X8 hx (hb hby d10_18) rfl rfl rfl ?_
      refine own_arraylength (n := 20) X8 hx hZ e8 Am (v := (3 : Int32)) rfl (hb hby d10_19) rfl ?_
      refine own_istore (n := 22) X8 hx (hb hby d10_20) (l' := #[.val (.ref a1), .val (.double (0 : UInt64)), .second, .val (.ref dt), .val (.int (3 : Int32)), .unset, .unset, .unset]) rfl rfl ?_
      refine own_iconst (n := 23) X8 hx (0 : Int32) (hb hby d10_22) rfl rfl ?_
      refine own_istore (n := 25) X8 hx (hb hby d10_23) (l' := #[.val (.ref a1), .val (.double (0 : UInt64)), .second, .val (.ref dt), .val (.int (3 : Int32)), .val (.int (0 : Int32)), .unset, .unset]) rfl rfl ?_
      refine own_iload (n := 27) X8 hx (hb hby d10_25) rfl rfl ?_
      refine own_iload (n := 29) X8 hx (hb hby d10_27) rfl rfl ?_
      refine own_icmpNo (n := 32) X8 hx (hb hby d10_29) (Jvm.Free.XT.ii_ge_f (by decide)) rfl ?_
      refine own_aloadN (n := 33) X8 hx (hb hby d10_32) rfl rfl rfl ?_
      refine own_iload (n := 35) X8 hx (hb hby d10_33) rfl rfl ?_
      refine own_daload (n := 36) X8 hx hZ e8 Am (i := 0) (by decide) (by decide) (hb hby d10_35) rfl ?_
      refine own_dstore (n := 38) X8 hx (hb hby d10_36) (l' := #[.val (.ref a1), .val (.double (0 : UInt64)), .second, .val (.ref dt), .val (.int (3 : Int32)), .val (.int (0 : Int32)), .val (.double (dsp 0)), .second]) rfl rfl ?_
      refine own_dloadN (n := 39) X8 hx (hb hby d10_38) rfl rfl ?_
      refine own_dload (n := 41) X8 hx (hb hby d10_39) rfl rfl ?_
      refine own_dadd (n := 42) X8 hx (hb hby d10_41) ((hN c6).1 0 (by decide)) rfl ?_
      refine own_dstoreN (n := 43) X8 hx (hb hby d10_42) (l' := #[.val (.ref a1), .val (.double (FP.dadd (0 : UInt64) (dsp 0))), .second, .val (.ref dt), .val (.int (3 : Int32)), .val (.int (0 : Int32)), .val (.double (dsp 0)), .second]) rfl rfl ?_
      refine own_iinc (n := 46) X8 hx (hb hby d10_43) rfl (v := (1 : Int32)) rfl (l' := #[.val (.ref a1), .val (.double (FP.dadd (0 : UInt64) (dsp 0))), .second, .val (.ref dt), .val (.int (3 : Int32)), .val (.int ((0 : Int32) + (1 : Int32))), .val (.double (dsp 0)), .second]) rfl rfl ?_
      refine own_goto (n := 25) X8 hx (hb hby d10_46) (by decide) (by decide) ?_
      refine own_iload (n := 27) X8 hx (hb hby d10_25) rfl rfl ?_
      refine own_iload (n := 29) X8 hx (hb hby d10_27) rfl rfl ?_
      refine own_icmpNo (n := 32) X8 hx (hb hby d10_29) (Jvm.Free.XT.ii_ge_f (by decide)) rfl ?_
      refine own_aloadN (n := 33) X8 hx (hb hby d10_32) rfl rfl rfl ?_
      refine own_iload (n := 35) X8 hx (hb hby d10_33) rfl rfl ?_
      refine own_daload (n := 36) X8 hx hZ e8 Am (i := 1) (by decide) (by decide) (hb hby d10_35) rfl ?_
      refine own_dstore (n := 38) X8 hx (hb hby d10_36) (l' := #[.val (.ref a1), .val (.double (FP.dadd (0 : UInt64) (dsp 0))), .second, .val (.ref dt), .val (.int (3 : Int32)), .val (.int ((0 : Int32) + (1 : Int32))), .val (.double (dsp 1)), .second]) rfl rfl ?_
      refine own_dloadN (n := 39) X8 hx (hb hby d10_38) rfl rfl ?_
      refine own_dload (n := 41) X8 hx (hb hby d10_39) rfl rfl ?_
      refine own_dadd (n := 42) X8 hx (hb hby d10_41) ((hN c6).1 1 (by decide)) rfl ?_
      refine own_dstoreN (n := 43) X8 hx (hb hby d10_42) (l' := #[.val (.ref a1), .val (.double (FP.dadd (FP.dadd (0 : UInt64) (dsp 0)) (dsp 1))), .second, .val (.ref dt), .val (.int (3 : Int32)), .val (.int ((0 : Int32) + (1 : Int32))), .val (.double (dsp 1)), .second]) rfl rfl ?_
      refine own_iinc (n := 46) X8 hx (hb hby d10_43) rfl (v := (1 : Int32)) rfl (l' := #[.val (.ref a1), .val (.double (FP.dadd (FP.dadd (0 : UInt64) (dsp 0)) (dsp 1))), .second, .val (.ref dt), .val (.int (3 : Int32)), .val (.int (((0 : Int32) + (1 : Int32)) + (1 : Int32))), .val (.double (dsp 1)), .second]) rfl rfl ?_
      refine own_goto (n := 25) X8 hx (hb hby d10_46) (by decide) (by decide) ?_
      refine own_iload (n := 27) X8 hx (hb hby d10_25) rfl rfl ?_
      refine own_iload (n := 29) X8 hx (hb hby d10_27) rfl rfl ?_
      refine own_icmpNo (n := 32) X8 hx (hb hby d10_29) (Jvm.Free.XT.ii_ge_f (by decide)) rfl ?_
      refine own_aloadN (n := 33) X8 hx (hb hby d10_32) rfl rfl rfl ?_
      refine own_iload (n := 35) X8 hx (hb hby d10_33) rfl rfl ?_
      refine own_daload (n := 36) X8 hx hZ e8 Am (i := 2) (by decide) (by decide) (hb hby d10_35) rfl ?_
      refine own_dstore (n := 38) X8 hx (hb hby d10_36) (l' := #[.val (.ref a1), .val (.double (FP.dadd (FP.dadd (0 : UInt64) (dsp 0)) (dsp 1))), .second, .val (.ref dt), .val (.int (3 : Int32)), .val (.int (((0 : Int32) + (1 : Int32)) + (1 : Int32))), .val (.double (dsp 2)), .second]) rfl rfl ?_
      refine own_dloadN (n := 39) X8 hx (hb hby d10_38) rfl rfl ?_
      refine own_dload (n := 41) X8 hx (hb hby d10_39) rfl rfl ?_
      refine own_dadd (n := 42) X8 hx (hb hby d10_41) ((hN c6).1 2 (by decide)) rfl ?_
      refine own_dstoreN (n := 43) X8 hx (hb hby d10_42) (l' := #[.val (.ref a1), .val (.double (FP.dadd (FP.dadd (FP.dadd (0 : UInt64) (dsp 0)) (dsp 1)) (dsp 2))), .second, .val (.ref dt), .val (.int (3 : Int32)), .val (.int (((0 : Int32) + (1 : Int32)) + (1 : Int32))), .val (.double (dsp 2)), .second]) rfl rfl ?_
      refine own_iinc (n := 46) X8 hx (hb hby d10_43) rfl (v := (1 : Int32)) rfl (l' := #[.val (.ref a1), .val (.double (FP.dadd (FP.dadd (FP.dadd (0 : UInt64) (dsp 0)) (dsp 1)) (dsp 2))), .second, .val (.ref dt), .val (.int (3 : Int32)), .val (.int ((((0 : Int32) + (1 : Int32)) + (1 : Int32)) + (1 : Int32))), .val (.double (dsp 2)), .second]) rfl rfl ?_
      refine own_goto (n := 25) X8 hx (hb hby d10_46) (by decide) (by decide) ?_
      refine own_iload (n := 27) X8 hx (hb hby d10_25) rfl rfl ?_
      refine own_iload (n := 29) X8 hx (hb hby d10_27) rfl rfl ?_
      refine own_icmpYes (n := 49) X8 hx (hb hby d10_29) (Jvm.Free.XT.ii_ge_t (by decide)) (by decide) (by decide) ?_
      refine own_dloadN (n := 50) X8 hx (hb hby d10_49) rfl rfl ?_
      refine own_aloadN (n := 51) X8 hx (hb hby d10_50) rfl rfl rfl ?_
      refine own_getF (n := 54) X8 hx hZ hown (hw _ (List.mem_of_getElem? (i := 104) rfl)) e8 F0.2.2.2.2.2.2.2.2.2.1 (hb hby d10_51) rfl ?_
      intro T9 X9 e9
      refine own_l2d (n := 55) X9 hx (hb hby d10_54) rfl ?_
      refine own_dmul (n := 56) X9 hx (hb hby d10_55) (hN c6).2.1 rfl ?_
      refine own_aloadN (n := 57) X9 hx (hb hby d10_56) rfl rfl rfl ?_
      refine own_getF (n := 60) X9 hx hZ hown (hw _ (List.mem_of_getElem? (i := 77) rfl)) e9 F0.2.2.2.2.2.2.2.2.1 (hb hby d10_57) rfl ?_
      intro T10 X10 e10
      refine own_l2d (n := 61) X10 hx (hb hby d10_60) rfl ?_
      refine own_ddiv (n := 62) X10 hx (hb hby d10_61) (hN c6).2.2.1 rfl ?_
      refine own_aloadN (n := 63) X10 hx (hb hby d10_62) rfl rfl rfl ?_
      refine own_getF (n := 66) X10 hx hZ hown (hw _ (List.mem_of_getElem? (i := 77) rfl)) e10 F0.2.2.2.2.2.2.2.2.1 (hb hby d10_63) rfl ?_
      intro T11 X11 e11
      refine own_l2d (n := 67) X11 hx (hb hby d10_66) rfl ?_
      refine own_dsub (n := 68) X11 hx (hb hby d10_67) (hN c6).2.2.2.1 rfl ?_
      refine own_dstoreN (n := 69) X11 hx (hb hby d10_68) (l' := #[.val (.ref a1), .val (.double (FP.dadd (FP.dadd (FP.dadd (0 : UInt64) (dsp 0)) (dsp 1)) (dsp 2))), .second, .val (.double (FP.dsub (FP.ddiv (FP.dmul (FP.dadd (FP.dadd (FP.dadd (0 : UInt64) (dsp 0)) (dsp 1)) (dsp 2)) (FP.l2d ps)) (FP.l2d pc)) (FP.l2d pc))), .second, .val (.int ((((0 : Int32) + (1 : Int32)) + (1 : Int32)) + (1 : Int32))), .val (.double (dsp 2)), .second]) rfl rfl ?_
      refine own_dloadN (n := 70) X11 hx (hb hby d10_69) rfl rfl ?_
      refine own_ldcD (n := 73) X11 hx hZ hown (hw _ (List.mem_of_getElem? (i := 140) rfl)) (hb hby d10_70) rfl ?_
      refine own_aloadN (n := 74) X11 hx (hb hby d10_73) rfl rfl rfl ?_
      refine own_getF (n := 77) X11 hx hZ hown (hw _ (List.mem_of_getElem? (i := 102) rfl)) e11 F0.2.2.2.2.2.2.2.1 (hb hby d10_74) rfl ?_
      intro T12 X12 e12
      refine own_iconst (n := 78) X12 hx (1 : Int32) (hb hby d10_77) rfl rfl ?_
      refine own_isub (n := 79) X12 hx (hb hby d10_78) rfl ?_
      refine own_i2d (n := 80) X12 hx (hb hby d10_79) rfl ?_
      refine own_dmul (n := 81) X12 hx (hb hby d10_80) (hN c6).2.2.2.2 rfl ?_
      refine own_dcmp (n := 82) X12 hx (hb hby d10_81) rfl ?_
      by_cases c82 : 0 < (cmpValue (FP.dcmp (FP.dsub (FP.ddiv (FP.dmul (FP.dadd (FP.dadd (FP.dadd (0 : UInt64) (dsp 0)) (dsp 1)) (dsp 2)) (FP.l2d ps)) (FP.l2d pc)) (FP.l2d pc)) (FP.dmul (4611686018427387904 : UInt64) (FP.i2d (fs - (1 : Int32))))) .g)
      · refine own_ifYes (n := 89) X12 hx (hb hby d10_82) (Jvm.Free.XT.i0_gt_t c82) (by decide) (by decide) ?_
        refine own_iconst (n := 90) X12 hx (0 : Int32) (hb hby d10_89) rfl rfl ?_
        refine own_retN X12 hx lk hret (by simp) (hb hby d10_90) (by decide) (by decide) ?_
        rw [e12]
        exact ⟨_, rfl, Or.inl rfl, fun z => absurd z c6, fun _ => ⟨fun _ => rfl, fun z => absurd c82 z⟩, N0, rfl⟩
      · refine own_ifNo (n := 85) X12 hx (hb hby d10_82) (Jvm.Free.XT.i0_gt_f c82) rfl ?_
        refine own_iconst (n := 86) X12 hx (1 : Int32) (hb hby d10_85) rfl rfl ?_
        refine own_goto (n := 90) X12 hx (hb hby d10_86) (by decide) (by decide) ?_
        refine own_retN X12 hx lk hret (by simp) (hb hby d10_90) (by decide) (by decide) ?_
        rw [e12]
        exact ⟨_, rfl, Or.inr rfl, fun z => absurd z c6, fun _ => ⟨fun z => absurd z c82, fun _ => rfl⟩, N0, rfl⟩
theorem d9_0 : decode prog_35_method_15_code 0 = .ok (.aload_n 0, 1) := by decide +kernel
theorem d9_1 : decode prog_35_method_15_code 1 = .ok (.getfield 81, 3) := by decide +kernel
theorem d9_4 : decode prog_35_method_15_code 4 = .ok (.ifCond .ne 16, 3) := by decide +kernel
theorem d9_7 : decode prog_35_method_15_code 7 = .ok (.aload_n 0, 1) := by decide +kernel
theorem d9_8 : decode prog_35_method_15_code 8 = .ok (.aload_n 0, 1) := by decide +kernel
theorem d9_9 : decode prog_35_method_15_code 9 = .ok (.invokevirtual 155, 3) := by decide +kernel
theorem d9_12 : decode prog_35_method_15_code 12 = .ok (.putfield 85, 3) := by decide +kernel
theorem d9_15 : decode prog_35_method_15_code 15 = .ok (.aload_n 0, 1) := by decide +kernel
theorem d9_16 : decode prog_35_method_15_code 16 = .ok (.iconst 1, 1) := by decide +kernel
theorem d9_17 : decode prog_35_method_15_code 17 = .ok (.putfield 81, 3) := by decide +kernel
theorem d9_20 : decode prog_35_method_15_code 20 = .ok (.aload_n 0, 1) := by decide +kernel
theorem d9_21 : decode prog_35_method_15_code 21 = .ok (.getfield 85, 3) := by decide +kernel
theorem d9_24 : decode prog_35_method_15_code 24 = .ok (.ireturn, 1) := by decide +kernel
theorem pn_9 : plainFor (⟨"com/example/revisit/revisit/policy/ChangeRates", "alike", "()Z"⟩ : MethodName) = true := by first | exact plainFor_of_name (by first | (simp [plainName, overriddenIn]; done) | decide +kernel) | decide +kernel
theorem ef_9 (m : MethodId) (a1 : Addr) : entryFrame m #[(.ref a1)] 1 = mkF m 0 #[.val (.ref a1)] [] := by first | (simp [entryFrame, argsToLocals, Value.category, Array.replicate]; done) | rfl
theorem pd_9 : parseMethodDescriptor "()Z" = some ⟨[], some .boolean⟩ := by decide +kernel
def Q9 (Z : State) (a1 : Addr) (km : Nat) (lastf : Nat → Int32) (chg : Nat → Int32) (dsp : Nat → UInt64) (fs : Int32) (pc : Int64) (ps : Int64) (kn : Int32) (av : Int32) (ob : Nat) (h0 : Heap) (n0 : Nat) (v : Option Value) (h : Heap) (L : List Loc) : Prop := ∃ r, v = some (.int r) ∧ (r = 0 ∨ r = 1) ∧ Fr n0 L ∧ Old Z n0 h ∧ CRS Z h n0 a1 km lastf chg dsp fs pc ps 1 r ob ∧ (kn = 1 → r = av) ∧ (kn = 0 → (pc = 0 → r = 1) ∧ (¬ pc = 0 → (RES (SUM dsp km) ps pc fs → r = 0) ∧ (¬ RES (SUM dsp km) ps pc fs → r = 1)))
theorem rm9 (l : Launch) (Z : State) (a0 : Array Value) (hw : ∀ d ∈ tables_1, d.before a0 Z = true) (ws : List Jvm.Cond) (a1 : Addr) (km : Nat) (lastf : Nat → Int32) (chg : Nat → Int32) (dsp : Nat → UInt64) (fs : Int32) (pc : Int64) (ps : Int64) (kn : Int32) (av : Int32) (ob : Nat) (h0 : Heap) (n0 : Nat) (Z0 : n0 ≤ h0.size) (OL : Old Z n0 h0) (S0 : CRS Z h0 n0 a1 km lastf chg dsp fs pc ps kn av ob) (hkm : km = 2 ∨ km = 3) (hN : ¬ pc = 0 → (∀ j, j < km → Jvm.Free.Fl.NoNaN64 (FP.dadd (SUM dsp j) (dsp j))) ∧ Jvm.Free.Fl.NoNaN64 (FP.dmul (SUM dsp km) (FP.l2d ps)) ∧ Jvm.Free.Fl.NoNaN64 (FP.ddiv (FP.dmul (SUM dsp km) (FP.l2d ps)) (FP.l2d pc)) ∧ Jvm.Free.Fl.NoNaN64 (UV (SUM dsp km) ps pc) ∧ Jvm.Free.Fl.NoNaN64 (WW fs)) (hkn : kn = 0 ∨ kn = 1) (hav : av = 0 ∨ av = 1) :
    MetFree l (⟨"com/example/revisit/revisit/policy/ChangeRates", "alike", "()Z"⟩ : MethodName) (head1 (Jvm.Cond.code (⟨"com/example/revisit/revisit/policy/ChangeRates", "alike", "()Z"⟩ : MethodName) prog_35_method_15_code 1 (some .boolean) :: ws) ({ frames := 1, cells := 0, slots := 0, locals := 20 } : Room)) (fun a U => a = #[(.ref a1)] ∧ Z.Warmed39 U.vm ∧ U.heap = h0) (fun _ _ _ _ _ => True) (fun _ U o U' => ∃ v L, o = .returned v ∧ (Q9 Z a1 km lastf chg dsp fs pc ps kn av ob h0 n0) v U'.heap L ∧ FrameEnd U o U' L ({ frames := 1, cells := 0, slots := 0, locals := 20 } : Room).cells ({ frames := 1, cells := 0, slots := 0, locals := 20 } : Room).slots) := by
  refine MetFree.of_bodySF pn_9 hisR ?_
  intro p e s m args below meth c s₁ Bd hml0 hP hK
  obtain ⟨rfl, hZ, hh⟩ := hP
  have hx := Bd.exec
  have hby := Bd.bytes
  have hml : c.maxLocals = 1 := hml0
  have hown : s.vm.findClass "com/example/revisit/revisit/policy/ChangeRates" = some m.cls := findClass_of_methodNamed Bd.named
  have hnm := (name_of_methodNamed Bd.named Bd.method).1
  have X0 : Stand p l e ({ frames := 1, cells := 0, slots := 0, locals := 20 } : Room) s m #[(.ref a1)] below meth c s₁ [] 0 0 := Stand.of_body Bd
  have e0 : s₁.heap = h0 := by rw [← hh, Bd.state]; rfl
  have N0 := Fr.nil n0
  have lk : meth.locks = false := BodyLoose.notSynchronized Bd
  have hret := Bd.returns
  show Ends p e below (EF s ({ frames := 1, cells := 0, slots := 0, locals := 20 } : Room).cells ({ frames := 1, cells := 0, slots := 0, locals := 20 } : Room).slots) (Q9 Z a1 km lastf chg dsp fs pc ps kn av ob h0 n0) (s₁.setTop (entryFrame m #[(.ref a1)] 1))
  refine Ends.cast (ef_9 m a1) ?_
  have S1 := S0
  obtain ⟨own, lf, fe, cf, lq, pl, dt, rl, gf, F0, Ai, Aj, Ak, Al, Am, W0, ⟨nb, nlf, nfe, ncf, ndt⟩, hR, dp, hdp, RP⟩ := S0
  refine own_aloadN (n := 1) X0 hx (hb hby d9_0) rfl rfl rfl ?_
  refine own_getF (n := 4) X0 hx hZ hown (hw _ (List.mem_of_getElem? (i := 71) rfl)) e0 F0.2.2.2.2.2.2.2.2.2.2.1 (hb hby d9_1) rfl ?_
  intro T1 X1 e1
  by_cases c4 : kn = 0
  · refine own_ifNo (n := 7) X1 hx (hb hby d9_4) (Jvm.Free.XT.i0_ne_f c4) rfl ?_
    refine own_aloadN (n := 8) X1 hx (hb hby d9_7) rfl rfl rfl ?_
    refine own_aloadN (n := 9) X1 hx (hb hby d9_8) rfl rfl rfl ?_
    refine own_callP (n := 12) X1 hx hZ hown (hw _ (List.mem_of_getElem? (i := 73) rfl)) (hw _ (List.mem_of_getElem? (i := 74) rfl)) (hw _ (List.mem_of_getElem? (i := 75) rfl)) (hw _ (List.mem_of_getElem? (i := 69) rfl)) rfl (hw _ (List.mem_of_getElem? (i := 10) rfl)) (hw _ (List.mem_of_getElem? (i := 76) rfl)) (by decide) e1 F0.1 (rm10 l Z a0 hw [] a1 km lastf chg dsp fs pc ps kn av ob h0 n0 Z0 S1 hkm hN) (W := 1) (by decide) (by decide) (by decide) (by decide) (by rw [hml]; rfl) (argsL := []) (rest := [(.ref a1)]) pd_10 rfl (by rfl) (Nat.le_of_eq rfl) (hb hby d9_9) rfl rfl ?_
    intro v2 T2 h2 L2 X2 e2 q2
    obtain ⟨r2, rfl, h01, ha2, hb2, M2, rfl⟩ := q2
    have N2 := Fr.app N0 M2
    refine own_putF (n := 15) X2 hx hZ hown (hw _ (List.mem_of_getElem? (i := 79) rfl)) e2 F0.2.2.2.2.2.2.2.2.2.2.2 F0.1 (Or.inl (hw _ (List.mem_of_getElem? (i := 80) rfl))) (hw _ (List.mem_of_getElem? (i := 9) rfl)) (ty := .boolean) (by decide) (by rcases h01 with z | z <;> rw [z] <;> rfl) (by rcases h01 with z | z <;> rw [z] <;> rfl) (hb hby d9_12) rfl ?_
    intro T3 h3 X3 e3 W3
    have N3 := Fr.snoc X3 N2 nb
    have Z3 : n0 ≤ h3.size := Nat.le_trans Z0 (Keep.of_wr W3).1
    have OL3 := OL.wr W3 nb
    have F3_a1 := F0.set_alike hw W3
    have F3_lf := Ai.wrO W3 (Ne.symm (own_neOA F0.1 (hw _ (List.mem_of_getElem? (i := 9) rfl)) Ai))
    have F3_fe := Aj.wrO W3 (Ne.symm (own_neOA F0.1 (hw _ (List.mem_of_getElem? (i := 9) rfl)) Aj))
    have F3_cf := Ak.wrO W3 (Ne.symm (own_neOA F0.1 (hw _ (List.mem_of_getElem? (i := 9) rfl)) Ak))
    have F3_lq := Al.wrO W3 (Ne.symm (own_neOA F0.1 (hw _ (List.mem_of_getElem? (i := 9) rfl)) Al.va))
    have F3_dt := Am.wrO W3 (Ne.symm (own_neOA F0.1 (hw _ (List.mem_of_getElem? (i := 9) rfl)) Am))
    have K3 : Keep _ h3 [a1] := (Keep.refl h0 [a1]).wr W3 (Or.inl (List.mem_of_getElem? (i := 0) rfl))
    refine own_aloadN (n := 16) X3 hx (hb hby d9_15) rfl rfl rfl ?_
    refine own_iconst (n := 17) X3 hx (1 : Int32) (hb hby d9_16) rfl rfl ?_
    refine own_putF (n := 20) X3 hx hZ hown (hw _ (List.mem_of_getElem? (i := 71) rfl)) e3 F3_a1.2.2.2.2.2.2.2.2.2.2.1 F3_a1.1 (Or.inl (hw _ (List.mem_of_getElem? (i := 72) rfl))) (hw _ (List.mem_of_getElem? (i := 9) rfl)) (ty := .boolean) (by decide) rfl rfl (hb hby d9_17) rfl ?_
    intro T4 h4 X4 e4 W4
    have N4 := Fr.snoc X4 N3 nb
    have Z4 : n0 ≤ h4.size := Nat.le_trans Z3 (Keep.of_wr W4).1
    have OL4 := OL3.wr W4 nb
    have F4_a1 := F3_a1.set_alikeKnown hw W4
    have F4_lf := F3_lf.wrO W4 (Ne.symm (own_neOA F3_a1.1 (hw _ (List.mem_of_getElem? (i := 9) rfl)) F3_lf))
    have F4_fe := F3_fe.wrO W4 (Ne.symm (own_neOA F3_a1.1 (hw _ (List.mem_of_getElem? (i := 9) rfl)) F3_fe))
    have F4_cf := F3_cf.wrO W4 (Ne.symm (own_neOA F3_a1.1 (hw _ (List.mem_of_getElem? (i := 9) rfl)) F3_cf))
    have F4_lq := F3_lq.wrO W4 (Ne.symm (own_neOA F3_a1.1 (hw _ (List.mem_of_getElem? (i := 9) rfl)) F3_lq.va))
    have F4_dt := F3_dt.wrO W4 (Ne.symm (own_neOA F3_a1.1 (hw _ (List.mem_of_getElem? (i := 9) rfl)) F3_dt))
    have K4 : Keep _ h4 [a1] := K3.wr W4 (Or.inl (List.mem_of_getElem? (i := 0) rfl))
    refine own_aloadN (n := 21) X4 hx (hb hby d9_20) rfl rfl rfl ?_
    refine own_getF (n := 24) X4 hx hZ hown (hw _ (List.mem_of_getElem? (i := 79) rfl)) e4 F4_a1.2.2.2.2.2.2.2.2.2.2.2 (hb hby d9_21) rfl ?_
    intro T5 X5 e5
    refine own_retN X5 hx lk hret (by simp) (hb hby d9_24) (by decide) (by decide) ?_
    rw [e5]
    have SS : CRS Z h4 n0 a1 km lastf chg dsp fs pc ps 1 r2 ob := ⟨own, lf, fe, cf, lq, pl, dt, rl, gf, F4_a1, F4_lf, F4_fe, F4_cf, F4_lq, F4_dt, W0, ⟨nb, nlf, nfe, ncf, ndt⟩, fun j hj => by obtain ⟨d, q, z⟩ := hR j hj; exact ⟨d, q, z.other K4 (fun x hx => by cases List.mem_singleton.mp hx; exact fun e => by have z := W0.1.symm.trans e; rcases hkm with h | h <;> omega)⟩, dp, hdp, RP.other K4 (fun x hx => by cases List.mem_singleton.mp hx; exact fun e => by have z := W0.1.symm.trans e; omega)⟩
    rcases h01 with rfl | rfl
    · exact ⟨_, rfl, Or.inl rfl, N4, OL4, SS, fun z => absurd (c4.symm.trans z) (by decide), fun _ => ⟨ha2, hb2⟩⟩
    · exact ⟨_, rfl, Or.inr rfl, N4, OL4, SS, fun z => absurd (c4.symm.trans z) (by decide), fun _ => ⟨ha2, hb2⟩⟩
  · refine own_ifYes (n := 20) X1 hx (hb hby d9_4) (Jvm.Free.XT.i0_ne_t c4) (by decide) (by decide) ?_
    refine own_aloadN (n := 21) X1 hx (hb hby d9_20) rfl rfl rfl ?_
    refine own_getF (n := 24) X1 hx hZ hown (hw _ (List.mem_of_getElem? (i := 79) rfl)) e1 F0.2.2.2.2.2.2.2.2.2.2.2 (hb hby d9_21) rfl ?_
    intro T6 X6 e6
    refine own_retN X6 hx lk hret (by simp) (hb hby d9_24) (by decide) (by decide) ?_
    rw [e6]
    obtain rfl : kn = 1 := hkn.resolve_left c4
    rcases hav with rfl | rfl
    · exact ⟨_, rfl, Or.inl rfl, N0, OL, S1, fun _ => rfl, fun z => absurd z c4⟩
    · exact ⟨_, rfl, Or.inr rfl, N0, OL, S1, fun _ => rfl, fun z => absurd z c4⟩
theorem own_mulN {x y : Int64} {m n : Nat} (hx : x.toInt = (m : Int)) (hy : y.toInt = (n : Int)) (h : m * n < 9223372036854775808) : (x * y).toInt = ((m * n : Nat) : Int) := by
  have e : x.toInt * y.toInt = ((m * n : Nat) : Int) := by rw [hx, hy, Int.natCast_mul]
  rw [FP.Core.int64_mul (by rw [e]; omega) (by rw [e]; omega), e]
theorem own_addN {x y : Int64} {m n : Nat} (hx : x.toInt = (m : Int)) (hy : y.toInt = (n : Int)) (h : m + n < 9223372036854775808) : (x + y).toInt = ((m + n : Nat) : Int) := by
  rw [FP.Core.int64_add (by omega) (by omega), hx, hy]
  omega
theorem own_subN2 {x : Int64} {m : Nat} (hx : x.toInt = (m : Int)) (h : 2 ≤ m) (h2 : m < 1000) : (x - (2 : Int64)).toInt = ((m - 2 : Nat) : Int) := by
  have o : (2 : Int64).toInt = 2 := rfl
  rw [FP.Core.int64_sub (by omega) (by omega), hx, o]
  omega
theorem own_nqv {p2 p4 fa fb ee : Int64} {c0 c1 e0 e1 E : Nat} (h2 : p2.toInt = (c0 : Int)) (h4 : p4.toInt = (c1 : Int)) (ha : fa.toInt = (e0 : Int)) (hb : fb.toInt = (e1 : Int)) (hE : ee.toInt = (E : Int)) (b0 : c0 ≤ 2) (b1 : c1 ≤ 2) (q0 : e0 ≤ 536870912) (q1 : e1 ≤ 536870912) (E2 : E ≤ 1073741824) : ((((p2 * p2) * fb) + ((p4 * p4) * fa)) * ee).toInt = (((c0 * c0 * e1 + c1 * c1 * e0) * E : Nat) : Int) := by
  have a1 : c0 * c0 ≤ 2 * 2 := Nat.mul_le_mul b0 b0
  have a2 : c1 * c1 ≤ 2 * 2 := Nat.mul_le_mul b1 b1
  have a3 : c0 * c0 * e1 ≤ 4 * 536870912 := Nat.mul_le_mul a1 q1
  have a4 : c1 * c1 * e0 ≤ 4 * 536870912 := Nat.mul_le_mul a2 q0
  have a5 : (c0 * c0 * e1 + c1 * c1 * e0) * E ≤ 4294967296 * 1073741824 := Nat.mul_le_mul (by omega) E2
  exact own_mulN (own_addN (own_mulN (own_mulN h2 h2 (by omega)) hb (by omega)) (own_mulN (own_mulN h4 h4 (by omega)) ha (by omega)) (by omega)) hE (by omega)
theorem own_dqv {cq kq fa fb : Int64} {C k e0 e1 : Nat} (hc : cq.toInt = (C : Int)) (hk : kq.toInt = (k : Int)) (ha : fa.toInt = (e0 : Int)) (hb : fb.toInt = (e1 : Int)) (b0 : C ≤ 4) (k1 : 1 ≤ k) (k2 : k ≤ 2) (q0 : e0 ≤ 536870912) (q1 : e1 ≤ 536870912) : (((cq * ((cq + ((2 : Int64) * kq)) - (2 : Int64))) * fa) * fb).toInt = (((C + (2 * k - 2)) * (C * (e0 * e1)) : Nat) : Int) := by
  have z2 : (2 : Int64).toInt = ((2 : Nat) : Int) := rfl
  have a1 : C * (C + 2 * k - 2) ≤ 4 * 6 := Nat.mul_le_mul b0 (by omega)
  have a2 : C * (C + 2 * k - 2) * e0 ≤ 24 * 536870912 := Nat.mul_le_mul a1 q0
  have a3 : C * (C + 2 * k - 2) * e0 * e1 ≤ 12884901888 * 536870912 := Nat.mul_le_mul a2 q1
  have e := own_mulN (own_mulN (own_mulN hc (own_subN2 (own_addN hc (own_mulN z2 hk (by omega)) (by omega)) (by omega) (by omega)) (by omega)) ha (by omega)) hb (by omega)
  rw [e, show C + (2 * k - 2) = C + 2 * k - 2 by omega]
  congr 1
  ac_rfl
theorem own_nland : ∀ (e : Nat), 0 < e → e &&& (e - 1) = 0 → ∃ t, e = 2 ^ t := by
  intro e
  induction e using Nat.strongRecOn with
  | ind e ih =>
    intro hp hz
    have hd : (e / 2) &&& ((e - 1) / 2) = 0 := by rw [← Nat.and_div_two, hz]
    rcases Nat.mod_two_eq_zero_or_one e with z | z
    · have e2 : (e - 1) / 2 = e / 2 - 1 := by omega
      rw [e2] at hd
      obtain ⟨t, ht⟩ := ih (e / 2) (by omega) (by omega) hd
      exact ⟨t + 1, by rw [Nat.pow_succ, ← ht]; omega⟩
    · have e2 : (e - 1) / 2 = e / 2 := by omega
      rw [e2, Nat.and_self] at hd
      exact ⟨0, by rw [Nat.pow_zero]; omega⟩
theorem own_pow2 {x : Int64} {e : Nat} (h : x.toInt = (e : Int)) (he : 0 < e) (he2 : e ≤ 536870912) (hz : x &&& (x - (1 : Int64)) = 0) : ∃ t, t ≤ 29 ∧ e = 2 ^ t := by
  have o : (1 : Int64).toInt = 1 := rfl
  have h1 : (x - 1).toInt = ((e - 1 : Nat) : Int) := by rw [FP.Core.int64_sub (by omega) (by omega), h, o]; omega
  have nat : ∀ {y : Int64} {m : Nat}, y.toInt = (m : Int) → m < 9223372036854775808 → y.toBitVec.toNat = m := fun {y m} q r => by
    have := BitVec.toInt_eq_toNat_cond y.toBitVec
    have q' : y.toBitVec.toInt = (m : Int) := q
    have l := y.toBitVec.isLt
    rw [q'] at this
    split at this <;> omega
  have a1 := nat h (by omega)
  have a2 := nat h1 (by omega)
  have hz' : (x &&& (x - 1)).toBitVec.toNat = 0 := by rw [hz]; rfl
  have hz2 : (x.toBitVec &&& (x - 1).toBitVec).toNat = 0 := hz'
  rw [BitVec.toNat_and, a1, a2] at hz2
  obtain ⟨t, ht⟩ := own_nland e he hz2
  refine ⟨t, ?_, ht⟩
  refine Nat.le_of_not_lt fun q => ?_
  have : 2 ^ 30 ≤ 2 ^ t := Nat.pow_le_pow_right (by decide) q
  omega
theorem own_p1 {p : Int64} {e : Nat} (h : p.toInt + 1 = (e : Int)) (he : e ≤ 536870912) (hn : ¬ p < 0) : (p + (1 : Int64)).toInt = (e : Int) ∧ 0 < e := by
  have o : (1 : Int64).toInt = 1 := rfl
  have z : (0 : Int64).toInt = 0 := rfl
  rw [Int64.lt_iff_toInt_lt, z] at hn
  rw [FP.Core.int64_add (by omega) (by omega), o]
  omega
theorem own_gap {nq dq gq : Int64} {n dd : Nat} (hn : nq.toInt = (n : Int)) (hd : dq.toInt = (dd : Int)) (g : (if (nq - dq) < 0 then -(nq - dq) else (nq - dq)) = gq) (c : nq >>> ((40 : Int32) &&& 0x3f).toInt64 < gq) : (nq < dq → n < dd ∧ n / 1099511627776 < dd - n) ∧ (¬ nq < dq → ¬ nq = dq → dd < n ∧ n / 1099511627776 < n - dd) := by
  have s := Jvm.RoadKit.c_lshr nq 40 40 (by decide)
  have z : (0 : Int64).toInt = 0 := rfl
  have rn := Jvm.RoadKit.rng64 nq
  have rd := Jvm.RoadKit.rng64 dq
  have hs : (nq - dq).toInt = (n : Int) - (dd : Int) := by rw [FP.Core.int64_sub (by omega) (by omega), hn, hd]
  have e40 : ((2 ^ 40 : Nat) : Int) = 1099511627776 := by decide
  rw [Int64.lt_iff_toInt_lt, s, hn, e40] at c
  rw [← g] at c
  refine ⟨fun h => ?_, fun h1 h2 => ?_⟩
  · rw [Int64.lt_iff_toInt_lt, hn, hd] at h
    rw [if_pos (by rw [Int64.lt_iff_toInt_lt, hs, z]; omega), FP.Core.int64_neg (by omega), hs] at c
    omega
  · have h3 : ¬ n = dd := fun e => h2 (Int64.toInt_inj.mp (by rw [hn, hd, e]))
    rw [Int64.lt_iff_toInt_lt, hn, hd] at h1
    rw [if_neg (by rw [Int64.lt_iff_toInt_lt, hs, z]; omega), hs] at c
    omega
def EXP (r : Int32) (n dd ea eb : Nat) : Prop := r = 2 ∨ (r = 1 ∧ n < dd ∧ n / 1099511627776 < dd - n) ∨ (r = 0 ∧ dd < n ∧ n / 1099511627776 < n - dd) ∨ (r = 1 ∧ n = dd ∧ (∃ t, t ≤ 29 ∧ ea = 2 ^ t) ∧ ∃ t, t ≤ 29 ∧ eb = 2 ^ t)
def SRC (p : Int64) (ee xx kk : Nat) : Prop := (p < 0 ∧ ee = 1 ∧ xx = 0 ∧ kk = 0) ∨ (¬ p < 0 ∧ p.toInt + 1 = (ee : Int) ∧ xx = ee ∧ kk = 1)
theorem d11_0 : decode method_7_code 0 = .ok (.lload_n 0, 1) := by decide +kernel
theorem d11_1 : decode method_7_code 1 = .ok (.lconst 0, 1) := by decide +kernel
theorem d11_2 : decode method_7_code 2 = .ok (.lcmp, 1) := by decide +kernel
theorem d11_3 : decode method_7_code 3 = .ok (.ifCond .lt 7, 3) := by decide +kernel
theorem d11_6 : decode method_7_code 6 = .ok (.iconst 1, 1) := by decide +kernel
theorem d11_7 : decode method_7_code 7 = .ok (.goto 4, 3) := by decide +kernel
theorem d11_10 : decode method_7_code 10 = .ok (.iconst 0, 1) := by decide +kernel
theorem d11_11 : decode method_7_code 11 = .ok (.lload 4, 2) := by decide +kernel
theorem d11_13 : decode method_7_code 13 = .ok (.lconst 0, 1) := by decide +kernel
theorem d11_14 : decode method_7_code 14 = .ok (.lcmp, 1) := by decide +kernel
theorem d11_15 : decode method_7_code 15 = .ok (.ifCond .lt 7, 3) := by decide +kernel
theorem d11_18 : decode method_7_code 18 = .ok (.iconst 1, 1) := by decide +kernel
theorem d11_19 : decode method_7_code 19 = .ok (.goto 4, 3) := by decide +kernel
theorem d11_22 : decode method_7_code 22 = .ok (.iconst 0, 1) := by decide +kernel
theorem d11_23 : decode method_7_code 23 = .ok (.iadd, 1) := by decide +kernel
theorem d11_24 : decode method_7_code 24 = .ok (.i2l, 1) := by decide +kernel
theorem d11_25 : decode method_7_code 25 = .ok (.lstore 8, 2) := by decide +kernel
theorem d11_27 : decode method_7_code 27 = .ok (.lload_n 0, 1) := by decide +kernel
theorem d11_28 : decode method_7_code 28 = .ok (.lconst 0, 1) := by decide +kernel
theorem d11_29 : decode method_7_code 29 = .ok (.lcmp, 1) := by decide +kernel
theorem d11_30 : decode method_7_code 30 = .ok (.ifCond .lt 9, 3) := by decide +kernel
theorem d11_33 : decode method_7_code 33 = .ok (.lload_n 0, 1) := by decide +kernel
theorem d11_34 : decode method_7_code 34 = .ok (.lconst 1, 1) := by decide +kernel
theorem d11_35 : decode method_7_code 35 = .ok (.ladd, 1) := by decide +kernel
theorem d11_36 : decode method_7_code 36 = .ok (.goto 4, 3) := by decide +kernel
theorem d11_39 : decode method_7_code 39 = .ok (.lconst 0, 1) := by decide +kernel
theorem d11_40 : decode method_7_code 40 = .ok (.lload 4, 2) := by decide +kernel
theorem d11_42 : decode method_7_code 42 = .ok (.lconst 0, 1) := by decide +kernel
theorem d11_43 : decode method_7_code 43 = .ok (.lcmp, 1) := by decide +kernel
theorem d11_44 : decode method_7_code 44 = .ok (.ifCond .lt 10, 3) := by decide +kernel
theorem d11_47 : decode method_7_code 47 = .ok (.lload 4, 2) := by decide +kernel
theorem d11_49 : decode method_7_code 49 = .ok (.lconst 1, 1) := by decide +kernel
theorem d11_50 : decode method_7_code 50 = .ok (.ladd, 1) := by decide +kernel
theorem d11_51 : decode method_7_code 51 = .ok (.goto 4, 3) := by decide +kernel
theorem d11_54 : decode method_7_code 54 = .ok (.lconst 0, 1) := by decide +kernel
theorem d11_55 : decode method_7_code 55 = .ok (.ladd, 1) := by decide +kernel
theorem d11_56 : decode method_7_code 56 = .ok (.lstore 10, 2) := by decide +kernel
theorem d11_58 : decode method_7_code 58 = .ok (.lload_n 0, 1) := by decide +kernel
theorem d11_59 : decode method_7_code 59 = .ok (.lconst 0, 1) := by decide +kernel
theorem d11_60 : decode method_7_code 60 = .ok (.lcmp, 1) := by decide +kernel
theorem d11_61 : decode method_7_code 61 = .ok (.ifCond .lt 9, 3) := by decide +kernel
theorem d11_64 : decode method_7_code 64 = .ok (.lload_n 0, 1) := by decide +kernel
theorem d11_65 : decode method_7_code 65 = .ok (.lconst 1, 1) := by decide +kernel
theorem d11_66 : decode method_7_code 66 = .ok (.ladd, 1) := by decide +kernel
theorem d11_67 : decode method_7_code 67 = .ok (.goto 4, 3) := by decide +kernel
theorem d11_70 : decode method_7_code 70 = .ok (.lconst 1, 1) := by decide +kernel
theorem d11_71 : decode method_7_code 71 = .ok (.lstore 12, 2) := by decide +kernel
theorem d11_73 : decode method_7_code 73 = .ok (.lload 4, 2) := by decide +kernel
theorem d11_75 : decode method_7_code 75 = .ok (.lconst 0, 1) := by decide +kernel
theorem d11_76 : decode method_7_code 76 = .ok (.lcmp, 1) := by decide +kernel
theorem d11_77 : decode method_7_code 77 = .ok (.ifCond .lt 10, 3) := by decide +kernel
theorem d11_80 : decode method_7_code 80 = .ok (.lload 4, 2) := by decide +kernel
theorem d11_82 : decode method_7_code 82 = .ok (.lconst 1, 1) := by decide +kernel
theorem d11_83 : decode method_7_code 83 = .ok (.ladd, 1) := by decide +kernel
theorem d11_84 : decode method_7_code 84 = .ok (.goto 4, 3) := by decide +kernel
theorem d11_87 : decode method_7_code 87 = .ok (.lconst 1, 1) := by decide +kernel
theorem d11_88 : decode method_7_code 88 = .ok (.lstore 14, 2) := by decide +kernel
theorem d11_90 : decode method_7_code 90 = .ok (.lload_n 2, 1) := by decide +kernel
theorem d11_91 : decode method_7_code 91 = .ok (.lload 6, 2) := by decide +kernel
theorem d11_93 : decode method_7_code 93 = .ok (.ladd, 1) := by decide +kernel
theorem d11_94 : decode method_7_code 94 = .ok (.lstore 16, 2) := by decide +kernel
theorem d11_96 : decode method_7_code 96 = .ok (.lload 16, 2) := by decide +kernel
theorem d11_98 : decode method_7_code 98 = .ok (.lconst 0, 1) := by decide +kernel
theorem d11_99 : decode method_7_code 99 = .ok (.lcmp, 1) := by decide +kernel
theorem d11_100 : decode method_7_code 100 = .ok (.ifCond .ne 5, 3) := by decide +kernel
theorem d11_103 : decode method_7_code 103 = .ok (.iconst 1, 1) := by decide +kernel
theorem d11_104 : decode method_7_code 104 = .ok (.ireturn, 1) := by decide +kernel
theorem d11_105 : decode method_7_code 105 = .ok (.lload_n 2, 1) := by decide +kernel
theorem d11_106 : decode method_7_code 106 = .ok (.lload_n 2, 1) := by decide +kernel
theorem d11_107 : decode method_7_code 107 = .ok (.lmul, 1) := by decide +kernel
theorem d11_108 : decode method_7_code 108 = .ok (.lload 14, 2) := by decide +kernel
theorem d11_110 : decode method_7_code 110 = .ok (.lmul, 1) := by decide +kernel
theorem d11_111 : decode method_7_code 111 = .ok (.lload 6, 2) := by decide +kernel
theorem d11_113 : decode method_7_code 113 = .ok (.lload 6, 2) := by decide +kernel
theorem d11_115 : decode method_7_code 115 = .ok (.lmul, 1) := by decide +kernel
theorem d11_116 : decode method_7_code 116 = .ok (.lload 12, 2) := by decide +kernel
theorem d11_118 : decode method_7_code 118 = .ok (.lmul, 1) := by decide +kernel
theorem d11_119 : decode method_7_code 119 = .ok (.ladd, 1) := by decide +kernel
theorem d11_120 : decode method_7_code 120 = .ok (.lload 10, 2) := by decide +kernel
theorem d11_122 : decode method_7_code 122 = .ok (.lmul, 1) := by decide +kernel
theorem d11_123 : decode method_7_code 123 = .ok (.lstore 18, 2) := by decide +kernel
theorem d11_125 : decode method_7_code 125 = .ok (.lload 16, 2) := by decide +kernel
theorem d11_127 : decode method_7_code 127 = .ok (.lload 16, 2) := by decide +kernel
theorem d11_129 : decode method_7_code 129 = .ok (.ldc2_w 41, 3) := by decide +kernel
theorem d11_132 : decode method_7_code 132 = .ok (.lload 8, 2) := by decide +kernel
theorem d11_134 : decode method_7_code 134 = .ok (.lmul, 1) := by decide +kernel
theorem d11_135 : decode method_7_code 135 = .ok (.ladd, 1) := by decide +kernel
theorem d11_136 : decode method_7_code 136 = .ok (.ldc2_w 41, 3) := by decide +kernel
theorem d11_139 : decode method_7_code 139 = .ok (.lsub, 1) := by decide +kernel
theorem d11_140 : decode method_7_code 140 = .ok (.lmul, 1) := by decide +kernel
theorem d11_141 : decode method_7_code 141 = .ok (.lload 12, 2) := by decide +kernel
theorem d11_143 : decode method_7_code 143 = .ok (.lmul, 1) := by decide +kernel
theorem d11_144 : decode method_7_code 144 = .ok (.lload 14, 2) := by decide +kernel
theorem d11_146 : decode method_7_code 146 = .ok (.lmul, 1) := by decide +kernel
theorem d11_147 : decode method_7_code 147 = .ok (.lstore 20, 2) := by decide +kernel
theorem d11_149 : decode method_7_code 149 = .ok (.lload 18, 2) := by decide +kernel
theorem d11_151 : decode method_7_code 151 = .ok (.lload 20, 2) := by decide +kernel
theorem d11_153 : decode method_7_code 153 = .ok (.lcmp, 1) := by decide +kernel
theorem d11_154 : decode method_7_code 154 = .ok (.ifCond .ne 23, 3) := by decide +kernel
theorem d11_157 : decode method_7_code 157 = .ok (.lload 12, 2) := by decide +kernel
theorem d11_159 : decode method_7_code 159 = .ok (.invokestatic 43, 3) := by decide +kernel
theorem d11_162 : decode method_7_code 162 = .ok (.ifCond .eq 13, 3) := by decide +kernel
theorem d11_165 : decode method_7_code 165 = .ok (.lload 14, 2) := by decide +kernel
theorem d11_167 : decode method_7_code 167 = .ok (.invokestatic 43, 3) := by decide +kernel
theorem d11_170 : decode method_7_code 170 = .ok (.ifCond .eq 5, 3) := by decide +kernel
theorem d11_173 : decode method_7_code 173 = .ok (.iconst 1, 1) := by decide +kernel
theorem d11_174 : decode method_7_code 174 = .ok (.ireturn, 1) := by decide +kernel
theorem d11_175 : decode method_7_code 175 = .ok (.iconst 2, 1) := by decide +kernel
theorem d11_176 : decode method_7_code 176 = .ok (.ireturn, 1) := by decide +kernel
theorem d11_177 : decode method_7_code 177 = .ok (.lload 18, 2) := by decide +kernel
theorem d11_179 : decode method_7_code 179 = .ok (.lload 20, 2) := by decide +kernel
theorem d11_181 : decode method_7_code 181 = .ok (.lsub, 1) := by decide +kernel
theorem d11_182 : decode method_7_code 182 = .ok (.invokestatic 47, 3) := by decide +kernel
theorem d11_185 : decode method_7_code 185 = .ok (.lstore 22, 2) := by decide +kernel
theorem d11_187 : decode method_7_code 187 = .ok (.lload 22, 2) := by decide +kernel
theorem d11_189 : decode method_7_code 189 = .ok (.lload 18, 2) := by decide +kernel
theorem d11_191 : decode method_7_code 191 = .ok (.bipush 40, 2) := by decide +kernel
theorem d11_193 : decode method_7_code 193 = .ok (.lshr, 1) := by decide +kernel
theorem d11_194 : decode method_7_code 194 = .ok (.lcmp, 1) := by decide +kernel
theorem d11_195 : decode method_7_code 195 = .ok (.ifCond .gt 5, 3) := by decide +kernel
theorem d11_198 : decode method_7_code 198 = .ok (.iconst 2, 1) := by decide +kernel
theorem d11_199 : decode method_7_code 199 = .ok (.ireturn, 1) := by decide +kernel
theorem d11_200 : decode method_7_code 200 = .ok (.lload 18, 2) := by decide +kernel
theorem d11_202 : decode method_7_code 202 = .ok (.lload 20, 2) := by decide +kernel
theorem d11_204 : decode method_7_code 204 = .ok (.lcmp, 1) := by decide +kernel
theorem d11_205 : decode method_7_code 205 = .ok (.ifCond .ge 7, 3) := by decide +kernel
theorem d11_208 : decode method_7_code 208 = .ok (.iconst 1, 1) := by decide +kernel
theorem d11_209 : decode method_7_code 209 = .ok (.goto 4, 3) := by decide +kernel
theorem d11_212 : decode method_7_code 212 = .ok (.iconst 0, 1) := by decide +kernel
theorem d11_213 : decode method_7_code 213 = .ok (.ireturn, 1) := by decide +kernel
theorem pn_11 : plainFor (⟨"com/example/revisit/revisit/policy/ChangeRatesAlikePinLaw", "expect", "(JJJJ)I"⟩ : MethodName) = true := by first | exact plainFor_of_name (by first | (simp [plainName, overriddenIn]; done) | decide +kernel) | decide +kernel
theorem ef_11 (m : MethodId) (p1 : Int64) (p2 : Int64) (p3 : Int64) (p4 : Int64) : entryFrame m #[(.long p1), (.long p2), (.long p3), (.long p4)] 24 = mkF m 0 #[.val (.long p1), .second, .val (.long p2), .second, .val (.long p3), .second, .val (.long p4), .second, .unset, .unset, .unset, .unset, .unset, .unset, .unset, .unset, .unset, .unset, .unset, .unset, .unset, .unset, .unset, .unset] [] := by first | (simp [entryFrame, argsToLocals, Value.category, Array.replicate]; done) | rfl
theorem pd_11 : parseMethodDescriptor "(JJJJ)I" = some ⟨[.long, .long, .long, .long], some .int⟩ := by decide +kernel
def Q11 (Z : State) (p1 : Int64) (p2 : Int64) (p3 : Int64) (p4 : Int64) (ca : Nat) (cb : Nat) (ea : Nat) (eb : Nat) (xa : Nat) (xb : Nat) (ka : Nat) (kb : Nat) (h0 : Heap) (n0 : Nat) (v : Option Value) (h : Heap) (L : List Loc) : Prop := ∃ r, v = some (.int r) ∧ (ca + cb = 0 → r = 1) ∧ (¬ ca + cb = 0 → EXP r ((ca * ca * eb + cb * cb * ea) * (xa + xb)) ((ca + cb + (2 * (ka + kb) - 2)) * ((ca + cb) * (ea * eb))) ea eb) ∧ Fr n0 L ∧ h0 = h
theorem rm11 (l : Launch) (Z : State) (a0 : Array Value) (hw : ∀ d ∈ tables_1, d.before a0 Z = true) (ws : List Jvm.Cond) (p1 : Int64) (p2 : Int64) (p3 : Int64) (p4 : Int64) (ca : Nat) (cb : Nat) (ea : Nat) (eb : Nat) (xa : Nat) (xb : Nat) (ka : Nat) (kb : Nat) (h0 : Heap) (n0 : Nat) (Z0 : n0 ≤ h0.size) (sa : SRC p1 ea xa ka) (sb : SRC p3 eb xb kb) (hc0 : p2.toInt = (ca : Int)) (hc1 : p4.toInt = (cb : Int)) (b0 : ca ≤ 2) (b1 : cb ≤ 2) (q0 : ea ≤ 536870912) (q1 : eb ≤ 536870912) (hza : ka = 0 → ca = 0) (hzb : kb = 0 → cb = 0) :
    MetFree l (⟨"com/example/revisit/revisit/policy/ChangeRatesAlikePinLaw", "expect", "(JJJJ)I"⟩ : MethodName) (head1 (Jvm.Cond.code (⟨"com/example/revisit/revisit/policy/ChangeRatesAlikePinLaw", "expect", "(JJJJ)I"⟩ : MethodName) method_7_code 24 (some .int) :: ws) ({ frames := 1, cells := 0, slots := 0, locals := 20 } : Room)) (fun a U => a = #[(.long p1), (.long p2), (.long p3), (.long p4)] ∧ Z.Warmed39 U.vm ∧ U.heap = h0) (fun _ _ _ _ _ => True) (fun _ U o U' => ∃ v L, o = .returned v ∧ (Q11 Z p1 p2 p3 p4 ca cb ea eb xa xb ka kb h0 n0) v U'.heap L ∧ FrameEnd U o U' L ({ frames := 1, cells := 0, slots := 0, locals := 20 } : Room).cells ({ frames := 1, cells := 0, slots := 0, locals := 20 } : Room).slots) := by
  refine MetFree.of_bodySF pn_11 hisR ?_
  intro p e s m args below meth c s₁ Bd hml0 hP hK
  obtain ⟨rfl, hZ, hh⟩ := hP
  have hx := Bd.exec
  have hby := Bd.bytes
  have hml : c.maxLocals = 24 := hml0
  have hown : s.vm.findClass "com/example/revisit/revisit/policy/ChangeRatesAlikePinLaw" = some m.cls := findClass_of_methodNamed Bd.named
  have hnm := (name_of_methodNamed Bd.named Bd.method).1
  have X0 : Stand p l e ({ frames := 1, cells := 0, slots := 0, locals := 20 } : Room) s m #[(.long p1), (.long p2), (.long p3), (.long p4)] below meth c s₁ [] 0 0 := Stand.of_body Bd
  have e0 : s₁.heap = h0 := by rw [← hh, Bd.state]; rfl
  have N0 := Fr.nil n0
  have lk : meth.locks = false := BodyLoose.notSynchronized Bd
  have hret := Bd.returns
  show Ends p e below (EF s ({ frames := 1, cells := 0, slots := 0, locals := 20 } : Room).cells ({ frames := 1, cells := 0, slots := 0, locals := 20 } : Room).slots) (Q11 Z p1 p2 p3 p4 ca cb ea eb xa xb ka kb h0 n0) (s₁.setTop (entryFrame m #[(.long p1), (.long p2), (.long p3), (.long p4)] 24))
  refine Ends.cast (ef_11 m p1 p2 p3 p4) ?_
  rcases sa with ⟨m0, ua, ub, uc⟩ | ⟨m0, ua, ub, uc⟩
  · rcases sb with ⟨m1, wa, wb, wc⟩ | ⟨m1, wa, wb, wc⟩
    · skip
      refine own_lloadN (n := 1) X0 hx (hb hby d11_0) rfl rfl ?_
      refine own_lconst (n := 2) X0 hx (0 : Int64) (hb hby d11_1) rfl rfl ?_
      refine own_lcmp (n := 3) X0 hx (hb hby d11_2) rfl ?_
      refine own_ifYes (n := 10) X0 hx (hb hby d11_3) (lw_lt_t m0) (by decide) (by decide) ?_
      refine own_iconst (n := 11) X0 hx (0 : Int32) (hb hby d11_10) rfl rfl ?_
      refine own_lload (n := 13) X0 hx (hb hby d11_11) rfl rfl ?_
      refine own_lconst (n := 14) X0 hx (0 : Int64) (hb hby d11_13) rfl rfl ?_
      refine own_lcmp (n := 15) X0 hx (hb hby d11_14) rfl ?_
      refine own_ifYes (n := 22) X0 hx (hb hby d11_15) (lw_lt_t m1) (by decide) (by decide) ?_
      refine own_iconst (n := 23) X0 hx (0 : Int32) (hb hby d11_22) rfl rfl ?_
      refine own_iadd (n := 24) X0 hx (hb hby d11_23) rfl ?_
      refine own_i2l (n := 25) X0 hx (hb hby d11_24) rfl ?_
      refine own_lstore (n := 27) X0 hx (hb hby d11_25) (l' := #[.val (.long p1), .second, .val (.long p2), .second, .val (.long p3), .second, .val (.long p4), .second, .val (.long (((0 : Int32) + (0 : Int32)).toInt64)), .second, .unset, .unset, .unset, .unset, .unset, .unset, .unset, .unset, .unset, .unset, .unset, .unset, .unset, .unset]) rfl rfl ?_
      show Ends p e below (EF s ({ frames := 1, cells := 0, slots := 0, locals := 20 } : Room).cells ({ frames := 1, cells := 0, slots := 0, locals := 20 } : Room).slots) (Q11 Z p1 p2 p3 p4 ca cb ea eb xa xb ka kb h0 n0) (s₁.setTop (mkF m 27 #[.val (.long p1), .second, .val (.long p2), .second, .val (.long p3), .second, .val (.long p4), .second, .val (.long (((0 : Int32) + (0 : Int32)).toInt64)), .second, .unset, .unset, .unset, .unset, .unset, .unset, .unset, .unset, .unset, .unset, .unset, .unset, .unset, .unset] []))
      generalize g_kq : (((0 : Int32) + (0 : Int32)).toInt64) = kq
      refine own_lloadN (n := 28) X0 hx (hb hby d11_27) rfl rfl ?_
      refine own_lconst (n := 29) X0 hx (0 : Int64) (hb hby d11_28) rfl rfl ?_
      refine own_lcmp (n := 30) X0 hx (hb hby d11_29) rfl ?_
      refine own_ifYes (n := 39) X0 hx (hb hby d11_30) (lw_lt_t m0) (by decide) (by decide) ?_
      refine own_lconst (n := 40) X0 hx (0 : Int64) (hb hby d11_39) rfl rfl ?_
      refine own_lload (n := 42) X0 hx (hb hby d11_40) rfl rfl ?_
      refine own_lconst (n := 43) X0 hx (0 : Int64) (hb hby d11_42) rfl rfl ?_
      refine own_lcmp (n := 44) X0 hx (hb hby d11_43) rfl ?_
      refine own_ifYes (n := 54) X0 hx (hb hby d11_44) (lw_lt_t m1) (by decide) (by decide) ?_
      refine own_lconst (n := 55) X0 hx (0 : Int64) (hb hby d11_54) rfl rfl ?_
      refine own_ladd (n := 56) X0 hx (hb hby d11_55) rfl ?_
      refine own_lstore (n := 58) X0 hx (hb hby d11_56) (l' := #[.val (.long p1), .second, .val (.long p2), .second, .val (.long p3), .second, .val (.long p4), .second, .val (.long kq), .second, .val (.long ((0 : Int64) + (0 : Int64))), .second, .unset, .unset, .unset, .unset, .unset, .unset, .unset, .unset, .unset, .unset, .unset, .unset]) rfl rfl ?_
      show Ends p e below (EF s ({ frames := 1, cells := 0, slots := 0, locals := 20 } : Room).cells ({ frames := 1, cells := 0, slots := 0, locals := 20 } : Room).slots) (Q11 Z p1 p2 p3 p4 ca cb ea eb xa xb ka kb h0 n0) (s₁.setTop (mkF m 58 #[.val (.long p1), .second, .val (.long p2), .second, .val (.long p3), .second, .val (.long p4), .second, .val (.long kq), .second, .val (.long ((0 : Int64) + (0 : Int64))), .second, .unset, .unset, .unset, .unset, .unset, .unset, .unset, .unset, .unset, .unset, .unset, .unset] []))
      generalize g_xq : ((0 : Int64) + (0 : Int64)) = xq
      refine own_lloadN (n := 59) X0 hx (hb hby d11_58) rfl rfl ?_
      refine own_lconst (n := 60) X0 hx (0 : Int64) (hb hby d11_59) rfl rfl ?_
      refine own_lcmp (n := 61) X0 hx (hb hby d11_60) rfl ?_
      refine own_ifYes (n := 70) X0 hx (hb hby d11_61) (lw_lt_t m0) (by decide) (by decide) ?_
      refine own_lconst (n := 71) X0 hx (1 : Int64) (hb hby d11_70) rfl rfl ?_
      refine own_lstore (n := 73) X0 hx (hb hby d11_71) (l' := #[.val (.long p1), .second, .val (.long p2), .second, .val (.long p3), .second, .val (.long p4), .second, .val (.long kq), .second, .val (.long xq), .second, .val (.long (1 : Int64)), .second, .unset, .unset, .unset, .unset, .unset, .unset, .unset, .unset, .unset, .unset]) rfl rfl ?_
      show Ends p e below (EF s ({ frames := 1, cells := 0, slots := 0, locals := 20 } : Room).cells ({ frames := 1, cells := 0, slots := 0, locals := 20 } : Room).slots) (Q11 Z p1 p2 p3 p4 ca cb ea eb xa xb ka kb h0 n0) (s₁.setTop (mkF m 73 #[.val (.long p1), .second, .val (.long p2), .second, .val (.long p3), .second, .val (.long p4), .second, .val (.long kq), .second, .val (.long xq), .second, .val (.long (1 : Int64)), .second, .unset, .unset, .unset, .unset, .unset, .unset, .unset, .unset, .unset, .unset] []))
      generalize g_fa : (1 : Int64) = fa
      refine own_lload (n := 75) X0 hx (hb hby d11_73) rfl rfl ?_
      refine own_lconst (n := 76) X0 hx (0 : Int64) (hb hby d11_75) rfl rfl ?_
      refine own_lcmp (n := 77) X0 hx (hb hby d11_76) rfl ?_
      refine own_ifYes (n := 87) X0 hx (hb hby d11_77) (lw_lt_t m1) (by decide) (by decide) ?_
      refine own_lconst (n := 88) X0 hx (1 : Int64) (hb hby d11_87) rfl rfl ?_
      refine own_lstore (n := 90) X0 hx (hb hby d11_88) (l' := #[.val (.long p1), .second, .val (.long p2), .second, .val (.long p3), .second, .val (.long p4), .second, .val (.long kq), .second, .val (.long xq), .second, .val (.long fa), .second, .val (.long (1 : Int64)), .second, .unset, .unset, .unset, .unset, .unset, .unset, .unset, .unset]) rfl rfl ?_
      show Ends p e below (EF s ({ frames := 1, cells := 0, slots := 0, locals := 20 } : Room).cells ({ frames := 1, cells := 0, slots := 0, locals := 20 } : Room).slots) (Q11 Z p1 p2 p3 p4 ca cb ea eb xa xb ka kb h0 n0) (s₁.setTop (mkF m 90 #[.val (.long p1), .second, .val (.long p2), .second, .val (.long p3), .second, .val (.long p4), .second, .val (.long kq), .second, .val (.long xq), .second, .val (.long fa), .second, .val (.long (1 : Int64)), .second, .unset, .unset, .unset, .unset, .unset, .unset, .unset, .unset] []))
      generalize g_fb : (1 : Int64) = fb
      have hfa : fa.toInt = (ea : Int) := by rw [← g_fa, ua]; rfl
      have hea : 0 < ea := by omega
      have hxa : (0 : Int64).toInt = (xa : Int) := by rw [ub]; rfl
      have hfb : fb.toInt = (eb : Int) := by rw [← g_fb, wa]; rfl
      have heb : 0 < eb := by omega
      have hxb : (0 : Int64).toInt = (xb : Int) := by rw [wb]; rfl
      have hxq : xq.toInt = ((xa + xb : Nat) : Int) := by rw [← g_xq]; exact own_addN hxa hxb (by omega)
      have hkq : kq.toInt = ((ka + kb : Nat) : Int) := by rw [← g_kq, uc, wc]; rfl
      refine own_lloadN (n := 91) X0 hx (hb hby d11_90) rfl rfl ?_
      refine own_lload (n := 93) X0 hx (hb hby d11_91) rfl rfl ?_
      refine own_ladd (n := 94) X0 hx (hb hby d11_93) rfl ?_
      refine own_lstore (n := 96) X0 hx (hb hby d11_94) (l' := #[.val (.long p1), .second, .val (.long p2), .second, .val (.long p3), .second, .val (.long p4), .second, .val (.long kq), .second, .val (.long xq), .second, .val (.long fa), .second, .val (.long fb), .second, .val (.long (p2 + p4)), .second, .unset, .unset, .unset, .unset, .unset, .unset]) rfl rfl ?_
      show Ends p e below (EF s ({ frames := 1, cells := 0, slots := 0, locals := 20 } : Room).cells ({ frames := 1, cells := 0, slots := 0, locals := 20 } : Room).slots) (Q11 Z p1 p2 p3 p4 ca cb ea eb xa xb ka kb h0 n0) (s₁.setTop (mkF m 96 #[.val (.long p1), .second, .val (.long p2), .second, .val (.long p3), .second, .val (.long p4), .second, .val (.long kq), .second, .val (.long xq), .second, .val (.long fa), .second, .val (.long fb), .second, .val (.long (p2 + p4)), .second, .unset, .unset, .unset, .unset, .unset, .unset] []))
      generalize g_cq : (p2 + p4) = cq
      have hcq : cq.toInt = ((ca + cb : Nat) : Int) := by rw [← g_cq]; exact own_addN hc0 hc1 (by omega)
      refine own_lload (n := 98) X0 hx (hb hby d11_96) rfl rfl ?_
      refine own_lconst (n := 99) X0 hx (0 : Int64) (hb hby d11_98) rfl rfl ?_
      refine own_lcmp (n := 100) X0 hx (hb hby d11_99) rfl ?_
      by_cases c100 : cq = (0 : Int64)
      · refine own_ifNo (n := 103) X0 hx (hb hby d11_100) (lw_ne_f c100) rfl ?_
        refine own_iconst (n := 104) X0 hx (1 : Int32) (hb hby d11_103) rfl rfl ?_
        refine own_retI X0 hx lk hret (hb hby d11_104) (by decide) (by decide) ?_
        rw [e0]
        exact ⟨_, rfl, fun _ => rfl, fun z => absurd (by have q := congrArg Int64.toInt c100; rw [hcq] at q; have o : (0 : Int64).toInt = 0 := rfl; omega) z, N0, rfl⟩
      · refine own_ifYes (n := 105) X0 hx (hb hby d11_100) (lw_ne_t c100) (by decide) (by decide) ?_
        refine own_lloadN (n := 106) X0 hx (hb hby d11_105) rfl rfl ?_
        refine own_lloadN (n := 107) X0 hx (hb hby d11_106) rfl rfl ?_
        refine own_lmul (n := 108) X0 hx (hb hby d11_107) rfl ?_
        refine own_lload (n := 110) X0 hx (hb hby d11_108) rfl rfl ?_
        refine own_lmul (n := 111) X0 hx (hb hby d11_110) rfl ?_
        refine own_lload (n := 113) X0 hx (hb hby d11_111) rfl rfl ?_
        refine own_lload (n := 115) X0 hx (hb hby d11_113) rfl rfl ?_
        refine own_lmul (n := 116) X0 hx (hb hby d11_115) rfl ?_
        refine own_lload (n := 118) X0 hx (hb hby d11_116) rfl rfl ?_
        refine own_lmul (n := 119) X0 hx (hb hby d11_118) rfl ?_
        refine own_ladd (n := 120) X0 hx (hb hby d11_119) rfl ?_
        refine own_lload (n := 122) X0 hx (hb hby d11_120) rfl rfl ?_
        refine own_lmul (n := 123) X0 hx (hb hby d11_122) rfl ?_
        refine own_lstore (n := 125) X0 hx (hb hby d11_123) (l' := #[.val (.long p1), .second, .val (.long p2), .second, .val (.long p3), .second, .val (.long p4), .second, .val (.long kq), .second, .val (.long xq), .second, .val (.long fa), .second, .val (.long fb), .second, .val (.long cq), .second, .val (.long ((((p2 * p2) * fb) + ((p4 * p4) * fa)) * xq)), .second, .unset, .unset, .unset, .unset]) rfl rfl ?_
        show Ends p e below (EF s ({ frames := 1, cells := 0, slots := 0, locals := 20 } : Room).cells ({ frames := 1, cells := 0, slots := 0, locals := 20 } : Room).slots) (Q11 Z p1 p2 p3 p4 ca cb ea eb xa xb ka kb h0 n0) (s₁.setTop (mkF m 125 #[.val (.long p1), .second, .val (.long p2), .second, .val (.long p3), .second, .val (.long p4), .second, .val (.long kq), .second, .val (.long xq), .second, .val (.long fa), .second, .val (.long fb), .second, .val (.long cq), .second, .val (.long ((((p2 * p2) * fb) + ((p4 * p4) * fa)) * xq)), .second, .unset, .unset, .unset, .unset] []))
        generalize g_nq : ((((p2 * p2) * fb) + ((p4 * p4) * fa)) * xq) = nq
        refine own_lload (n := 127) X0 hx (hb hby d11_125) rfl rfl ?_
        refine own_lload (n := 129) X0 hx (hb hby d11_127) rfl rfl ?_
        refine own_ldc2_w (n := 132) X0 hx hZ hown (hw _ (List.mem_of_getElem? (i := 141) rfl)) (hb hby d11_129) rfl ?_
        refine own_lload (n := 134) X0 hx (hb hby d11_132) rfl rfl ?_
        refine own_lmul (n := 135) X0 hx (hb hby d11_134) rfl ?_
        refine own_ladd (n := 136) X0 hx (hb hby d11_135) rfl ?_
        refine own_ldc2_w (n := 139) X0 hx hZ hown (hw _ (List.mem_of_getElem? (i := 141) rfl)) (hb hby d11_136) rfl ?_
        refine own_lsub (n := 140) X0 hx (hb hby d11_139) rfl ?_
        refine own_lmul (n := 141) X0 hx (hb hby d11_140) rfl ?_
        refine own_lload (n := 143) X0 hx (hb hby d11_141) rfl rfl ?_
        refine own_lmul (n := 144) X0 hx (hb hby d11_143) rfl ?_
        refine own_lload (n := 146) X0 hx (hb hby d11_144) rfl rfl ?_
        refine own_lmul (n := 147) X0 hx (hb hby d11_146) rfl ?_
        refine own_lstore (n := 149) X0 hx (hb hby d11_147) (l' := #[.val (.long p1), .second, .val (.long p2), .second, .val (.long p3), .second, .val (.long p4), .second, .val (.long kq), .second, .val (.long xq), .second, .val (.long fa), .second, .val (.long fb), .second, .val (.long cq), .second, .val (.long nq), .second, .val (.long (((cq * ((cq + ((2 : Int64) * kq)) - (2 : Int64))) * fa) * fb)), .second, .unset, .unset]) rfl rfl ?_
        show Ends p e below (EF s ({ frames := 1, cells := 0, slots := 0, locals := 20 } : Room).cells ({ frames := 1, cells := 0, slots := 0, locals := 20 } : Room).slots) (Q11 Z p1 p2 p3 p4 ca cb ea eb xa xb ka kb h0 n0) (s₁.setTop (mkF m 149 #[.val (.long p1), .second, .val (.long p2), .second, .val (.long p3), .second, .val (.long p4), .second, .val (.long kq), .second, .val (.long xq), .second, .val (.long fa), .second, .val (.long fb), .second, .val (.long cq), .second, .val (.long nq), .second, .val (.long (((cq * ((cq + ((2 : Int64) * kq)) - (2 : Int64))) * fa) * fb)), .second, .unset, .unset] []))
        generalize g_dq : (((cq * ((cq + ((2 : Int64) * kq)) - (2 : Int64))) * fa) * fb) = dq
        have hC0 : ¬ ca + cb = 0 := fun z => c100 (Int64.toInt_inj.mp (hcq.trans (by rw [z]; rfl)))
        have hnq : nq.toInt = ((((ca * ca * eb + cb * cb * ea) * (xa + xb)) : Nat) : Int) := by rw [← g_nq]; exact own_nqv hc0 hc1 hfa hfb hxq b0 b1 q0 q1 (by omega)
        have hdq : dq.toInt = ((((ca + cb + (2 * (ka + kb) - 2)) * ((ca + cb) * (ea * eb))) : Nat) : Int) := by rw [← g_dq]; exact own_dqv hcq hkq hfa hfb (by omega) (by omega) (by omega) q0 q1
        refine own_lload (n := 151) X0 hx (hb hby d11_149) rfl rfl ?_
        refine own_lload (n := 153) X0 hx (hb hby d11_151) rfl rfl ?_
        refine own_lcmp (n := 154) X0 hx (hb hby d11_153) rfl ?_
        by_cases c154 : nq = dq
        · refine own_ifNo (n := 157) X0 hx (hb hby d11_154) (lw_ne_f c154) rfl ?_
          refine own_lload (n := 159) X0 hx (hb hby d11_157) rfl rfl ?_
          refine own_callS (n := 162) X0 hx hZ hown (hw _ (List.mem_of_getElem? (i := 145) rfl)) (hw _ (List.mem_of_getElem? (i := 146) rfl)) (hw _ (List.mem_of_getElem? (i := 2) rfl)) (hw _ (List.mem_of_getElem? (i := 147) rfl)) (by decide) e0 (rm25 l Z a0 hw [] fa h0 n0 Z0 ) (W := 0) (by decide) (by decide) (by decide) (by decide) (by rw [hml]; rfl) (argsL := [(.long fa)]) (rest := []) pd_25 rfl (by rfl) (Nat.le_of_eq rfl) (hb hby d11_159) rfl rfl ?_
          intro v1 T1 h1 L1 X1 e1 q1
          obtain ⟨r1, rfl, D1, M1, rfl⟩ := q1
          have N1 := Fr.app N0 M1
          by_cases c162 : r1 = 0
          · refine own_ifYes (n := 175) X1 hx (hb hby d11_162) (Jvm.Free.XT.i0_eq_t c162) (by decide) (by decide) ?_
            refine own_iconst (n := 176) X1 hx (2 : Int32) (hb hby d11_175) rfl rfl ?_
            refine own_retI X1 hx lk hret (hb hby d11_176) (by decide) (by decide) ?_
            rw [e1]
            exact ⟨_, rfl, fun z => absurd z hC0, fun _ => Or.inl rfl, N1, rfl⟩
          · refine own_ifNo (n := 165) X1 hx (hb hby d11_162) (Jvm.Free.XT.i0_eq_f c162) rfl ?_
            refine own_lload (n := 167) X1 hx (hb hby d11_165) rfl rfl ?_
            refine own_callS (n := 170) X1 hx hZ hown (hw _ (List.mem_of_getElem? (i := 145) rfl)) (hw _ (List.mem_of_getElem? (i := 146) rfl)) (hw _ (List.mem_of_getElem? (i := 2) rfl)) (hw _ (List.mem_of_getElem? (i := 147) rfl)) (by decide) e1 (rm25 l Z a0 hw [] fb h0 n0 Z0 ) (W := 0) (by decide) (by decide) (by decide) (by decide) (by rw [hml]; rfl) (argsL := [(.long fb)]) (rest := []) pd_25 rfl (by rfl) (Nat.le_of_eq rfl) (hb hby d11_167) rfl rfl ?_
            intro v2 T2 h2 L2 X2 e2 q2
            obtain ⟨r2, rfl, D2, M2, rfl⟩ := q2
            have N2 := Fr.app N1 M2
            by_cases c170 : r2 = 0
            · refine own_ifYes (n := 175) X2 hx (hb hby d11_170) (Jvm.Free.XT.i0_eq_t c170) (by decide) (by decide) ?_
              refine own_iconst (n := 176) X2 hx (2 : Int32) (hb hby d11_175) rfl rfl ?_
              refine own_retI X2 hx lk hret (hb hby d11_176) (by decide) (by decide) ?_
              rw [e2]
              exact ⟨_, rfl, fun z => absurd z hC0, fun _ => Or.inl rfl, N2, rfl⟩
            · refine own_ifNo (n := 173) X2 hx (hb hby d11_170) (Jvm.Free.XT.i0_eq_f c170) rfl ?_
              refine own_iconst (n := 174) X2 hx (1 : Int32) (hb hby d11_173) rfl rfl ?_
              refine own_retI X2 hx lk hret (hb hby d11_174) (by decide) (by decide) ?_
              rw [e2]
              exact ⟨_, rfl, fun z => absurd z hC0, fun _ => Or.inr (Or.inr (Or.inr ⟨rfl, Int.ofNat.inj (hnq.symm.trans ((congrArg Int64.toInt c154).trans hdq)), own_pow2 hfa hea q0 (D1.resolve_right (fun z => c162 z.1)).2, own_pow2 hfb heb q1 (D2.resolve_right (fun z => c170 z.1)).2⟩)), N2, rfl⟩
        · refine own_ifYes (n := 177) X0 hx (hb hby d11_154) (lw_ne_t c154) (by decide) (by decide) ?_
          refine own_lload (n := 179) X0 hx (hb hby d11_177) rfl rfl ?_
          refine own_lload (n := 181) X0 hx (hb hby d11_179) rfl rfl ?_
          refine own_lsub (n := 182) X0 hx (hb hby d11_181) rfl ?_
          refine own_callS (n := 185) X0 hx hZ hown (hw _ (List.mem_of_getElem? (i := 142) rfl)) (hw _ (List.mem_of_getElem? (i := 143) rfl)) (hw _ (List.mem_of_getElem? (i := 130) rfl)) (hw _ (List.mem_of_getElem? (i := 144) rfl)) (by decide) e0 (rm24 l Z a0 hw [] (nq - dq) h0 n0 Z0 ) (W := 0) (by decide) (by decide) (by decide) (by decide) (by rw [hml]; rfl) (argsL := [(.long (nq - dq))]) (rest := []) pd_24 rfl (by rfl) (Nat.le_of_eq rfl) (hb hby d11_182) rfl rfl ?_
          intro v3 T3 h3 L3 X3 e3 q3
          obtain ⟨rfl, M3, rfl⟩ := q3
          have N3 := Fr.app N0 M3
          refine own_lstore (n := 187) X3 hx (hb hby d11_185) (l' := #[.val (.long p1), .second, .val (.long p2), .second, .val (.long p3), .second, .val (.long p4), .second, .val (.long kq), .second, .val (.long xq), .second, .val (.long fa), .second, .val (.long fb), .second, .val (.long cq), .second, .val (.long nq), .second, .val (.long dq), .second, .val (.long (if (nq - dq) < 0 then -(nq - dq) else (nq - dq))), .second]) rfl rfl ?_
          show Ends p e below (EF s ({ frames := 1, cells := 0, slots := 0, locals := 20 } : Room).cells ({ frames := 1, cells := 0, slots := 0, locals := 20 } : Room).slots) (Q11 Z p1 p2 p3 p4 ca cb ea eb xa xb ka kb h0 n0) (T3.setTop (mkF m 187 #[.val (.long p1), .second, .val (.long p2), .second, .val (.long p3), .second, .val (.long p4), .second, .val (.long kq), .second, .val (.long xq), .second, .val (.long fa), .second, .val (.long fb), .second, .val (.long cq), .second, .val (.long nq), .second, .val (.long dq), .second, .val (.long (if (nq - dq) < 0 then -(nq - dq) else (nq - dq))), .second] []))
          generalize g_gq : (if (nq - dq) < 0 then -(nq - dq) else (nq - dq)) = gq
          refine own_lload (n := 189) X3 hx (hb hby d11_187) rfl rfl ?_
          refine own_lload (n := 191) X3 hx (hb hby d11_189) rfl rfl ?_
          refine own_bipush (n := 193) X3 hx (40 : Int32) (hb hby d11_191) rfl rfl ?_
          refine own_lshr (n := 194) X3 hx (hb hby d11_193) rfl ?_
          refine own_lcmp (n := 195) X3 hx (hb hby d11_194) rfl ?_
          by_cases c195 : (nq >>> ((40 : Int32) &&& 0x3f).toInt64) < gq
          · refine own_ifYes (n := 200) X3 hx (hb hby d11_195) (lw_gt_t c195) (by decide) (by decide) ?_
            refine own_lload (n := 202) X3 hx (hb hby d11_200) rfl rfl ?_
            refine own_lload (n := 204) X3 hx (hb hby d11_202) rfl rfl ?_
            refine own_lcmp (n := 205) X3 hx (hb hby d11_204) rfl ?_
            by_cases c205 : nq < dq
            · refine own_ifNo (n := 208) X3 hx (hb hby d11_205) (lw_ge_f c205) rfl ?_
              refine own_iconst (n := 209) X3 hx (1 : Int32) (hb hby d11_208) rfl rfl ?_
              refine own_goto (n := 213) X3 hx (hb hby d11_209) (by decide) (by decide) ?_
              refine own_retI X3 hx lk hret (hb hby d11_213) (by decide) (by decide) ?_
              rw [e3]
              exact ⟨_, rfl, fun z => absurd z hC0, fun _ => Or.inr (Or.inl ⟨rfl, (own_gap hnq hdq g_gq c195).1 c205⟩), N3, rfl⟩
            · refine own_ifYes (n := 212) X3 hx (hb hby d11_205) (lw_ge_t c205) (by decide) (by decide) ?_
              refine own_iconst (n := 213) X3 hx (0 : Int32) (hb hby d11_212) rfl rfl ?_
              refine own_retI X3 hx lk hret (hb hby d11_213) (by decide) (by decide) ?_
              rw [e3]
              exact ⟨_, rfl, fun z => absurd z hC0, fun _ => Or.inr (Or.inr (Or.inl ⟨rfl, (own_gap hnq hdq g_gq c195).2 c205 c154⟩)), N3, rfl⟩
          · refine own_ifNo (n := 198) X3 hx (hb hby d11_195) (lw_gt_f c195) rfl ?_
            refine own_iconst (n := 199) X3 hx (2 : Int32) (hb hby d11_198) rfl rfl ?_
            refine own_retI X3 hx lk hret (hb hby d11_199) (by decide) (by decide) ?_
            rw [e3]
            exact ⟨_, rfl, fun z => absurd z hC0, fun _ => Or.inl rfl, N3, rfl⟩
    · skip
      refine own_lloadN (n := 1) X0 hx (hb hby d11_0) rfl rfl ?_
      refine own_lconst (n := 2) X0 hx (0 : Int64) (hb hby d11_1) rfl rfl ?_
      refine own_lcmp (n := 3) X0 hx (hb hby d11_2) rfl ?_
      refine own_ifYes (n := 10) X0 hx (hb hby d11_3) (lw_lt_t m0) (by decide) (by decide) ?_
      refine own_iconst (n := 11) X0 hx (0 : Int32) (hb hby d11_10) rfl rfl ?_
      refine own_lload (n := 13) X0 hx (hb hby d11_11) rfl rfl ?_
      refine own_lconst (n := 14) X0 hx (0 : Int64) (hb hby d11_13) rfl rfl ?_
      refine own_lcmp (n := 15) X0 hx (hb hby d11_14) rfl ?_
      refine own_ifNo (n := 18) X0 hx (hb hby d11_15) (lw_lt_f m1) rfl ?_
      refine own_iconst (n := 19) X0 hx (1 : Int32) (hb hby d11_18) rfl rfl ?_
      refine own_goto (n := 23) X0 hx (hb hby d11_19) (by decide) (by decide) ?_
      refine own_iadd (n := 24) X0 hx (hb hby d11_23) rfl ?_
      refine own_i2l (n := 25) X0 hx (hb hby d11_24) rfl ?_
      refine own_lstore (n := 27) X0 hx (hb hby d11_25) (l' := #[.val (.long p1), .second, .val (.long p2), .second, .val (.long p3), .second, .val (.long p4), .second, .val (.long (((0 : Int32) + (1 : Int32)).toInt64)), .second, .unset, .unset, .unset, .unset, .unset, .unset, .unset, .unset, .unset, .unset, .unset, .unset, .unset, .unset]) rfl rfl ?_
      show Ends p e below (EF s ({ frames := 1, cells := 0, slots := 0, locals := 20 } : Room).cells ({ frames := 1, cells := 0, slots := 0, locals := 20 } : Room).slots) (Q11 Z p1 p2 p3 p4 ca cb ea eb xa xb ka kb h0 n0) (s₁.setTop (mkF m 27 #[.val (.long p1), .second, .val (.long p2), .second, .val (.long p3), .second, .val (.long p4), .second, .val (.long (((0 : Int32) + (1 : Int32)).toInt64)), .second, .unset, .unset, .unset, .unset, .unset, .unset, .unset, .unset, .unset, .unset, .unset, .unset, .unset, .unset] []))
      generalize g_kq : (((0 : Int32) + (1 : Int32)).toInt64) = kq
      refine own_lloadN (n := 28) X0 hx (hb hby d11_27) rfl rfl ?_
      refine own_lconst (n := 29) X0 hx (0 : Int64) (hb hby d11_28) rfl rfl ?_
      refine own_lcmp (n := 30) X0 hx (hb hby d11_29) rfl ?_
      refine own_ifYes (n := 39) X0 hx (hb hby d11_30) (lw_lt_t m0) (by decide) (by decide) ?_
      refine own_lconst (n := 40) X0 hx (0 : Int64) (hb hby d11_39) rfl rfl ?_
      refine own_lload (n := 42) X0 hx (hb hby d11_40) rfl rfl ?_
      refine own_lconst (n := 43) X0 hx (0 : Int64) (hb hby d11_42) rfl rfl ?_
      refine own_lcmp (n := 44) X0 hx (hb hby d11_43) rfl ?_
      refine own_ifNo (n := 47) X0 hx (hb hby d11_44) (lw_lt_f m1) rfl ?_
      refine own_lload (n := 49) X0 hx (hb hby d11_47) rfl rfl ?_
      refine own_lconst (n := 50) X0 hx (1 : Int64) (hb hby d11_49) rfl rfl ?_
      refine own_ladd (n := 51) X0 hx (hb hby d11_50) rfl ?_
      refine own_goto (n := 55) X0 hx (hb hby d11_51) (by decide) (by decide) ?_
      refine own_ladd (n := 56) X0 hx (hb hby d11_55) rfl ?_
      refine own_lstore (n := 58) X0 hx (hb hby d11_56) (l' := #[.val (.long p1), .second, .val (.long p2), .second, .val (.long p3), .second, .val (.long p4), .second, .val (.long kq), .second, .val (.long ((0 : Int64) + (p3 + (1 : Int64)))), .second, .unset, .unset, .unset, .unset, .unset, .unset, .unset, .unset, .unset, .unset, .unset, .unset]) rfl rfl ?_
      show Ends p e below (EF s ({ frames := 1, cells := 0, slots := 0, locals := 20 } : Room).cells ({ frames := 1, cells := 0, slots := 0, locals := 20 } : Room).slots) (Q11 Z p1 p2 p3 p4 ca cb ea eb xa xb ka kb h0 n0) (s₁.setTop (mkF m 58 #[.val (.long p1), .second, .val (.long p2), .second, .val (.long p3), .second, .val (.long p4), .second, .val (.long kq), .second, .val (.long ((0 : Int64) + (p3 + (1 : Int64)))), .second, .unset, .unset, .unset, .unset, .unset, .unset, .unset, .unset, .unset, .unset, .unset, .unset] []))
      generalize g_xq : ((0 : Int64) + (p3 + (1 : Int64))) = xq
      refine own_lloadN (n := 59) X0 hx (hb hby d11_58) rfl rfl ?_
      refine own_lconst (n := 60) X0 hx (0 : Int64) (hb hby d11_59) rfl rfl ?_
      refine own_lcmp (n := 61) X0 hx (hb hby d11_60) rfl ?_
      refine own_ifYes (n := 70) X0 hx (hb hby d11_61) (lw_lt_t m0) (by decide) (by decide) ?_
      refine own_lconst (n := 71) X0 hx (1 : Int64) (hb hby d11_70) rfl rfl ?_
      refine own_lstore (n := 73) X0 hx (hb hby d11_71) (l' := #[.val (.long p1), .second, .val (.long p2), .second, .val (.long p3), .second, .val (.long p4), .second, .val (.long kq), .second, .val (.long xq), .second, .val (.long (1 : Int64)), .second, .unset, .unset, .unset, .unset, .unset, .unset, .unset, .unset, .unset, .unset]) rfl rfl ?_
      show Ends p e below (EF s ({ frames := 1, cells := 0, slots := 0, locals := 20 } : Room).cells ({ frames := 1, cells := 0, slots := 0, locals := 20 } : Room).slots) (Q11 Z p1 p2 p3 p4 ca cb ea eb xa xb ka kb h0 n0) (s₁.setTop (mkF m 73 #[.val (.long p1), .second, .val (.long p2), .second, .val (.long p3), .second, .val (.long p4), .second, .val (.long kq), .second, .val (.long xq), .second, .val (.long (1 : Int64)), .second, .unset, .unset, .unset, .unset, .unset, .unset, .unset, .unset, .unset, .unset] []))
      generalize g_fa : (1 : Int64) = fa
      refine own_lload (n := 75) X0 hx (hb hby d11_73) rfl rfl ?_
      refine own_lconst (n := 76) X0 hx (0 : Int64) (hb hby d11_75) rfl rfl ?_
      refine own_lcmp (n := 77) X0 hx (hb hby d11_76) rfl ?_
      refine own_ifNo (n := 80) X0 hx (hb hby d11_77) (lw_lt_f m1) rfl ?_
      refine own_lload (n := 82) X0 hx (hb hby d11_80) rfl rfl ?_
      refine own_lconst (n := 83) X0 hx (1 : Int64) (hb hby d11_82) rfl rfl ?_
      refine own_ladd (n := 84) X0 hx (hb hby d11_83) rfl ?_
      refine own_goto (n := 88) X0 hx (hb hby d11_84) (by decide) (by decide) ?_
      refine own_lstore (n := 90) X0 hx (hb hby d11_88) (l' := #[.val (.long p1), .second, .val (.long p2), .second, .val (.long p3), .second, .val (.long p4), .second, .val (.long kq), .second, .val (.long xq), .second, .val (.long fa), .second, .val (.long (p3 + (1 : Int64))), .second, .unset, .unset, .unset, .unset, .unset, .unset, .unset, .unset]) rfl rfl ?_
      show Ends p e below (EF s ({ frames := 1, cells := 0, slots := 0, locals := 20 } : Room).cells ({ frames := 1, cells := 0, slots := 0, locals := 20 } : Room).slots) (Q11 Z p1 p2 p3 p4 ca cb ea eb xa xb ka kb h0 n0) (s₁.setTop (mkF m 90 #[.val (.long p1), .second, .val (.long p2), .second, .val (.long p3), .second, .val (.long p4), .second, .val (.long kq), .second, .val (.long xq), .second, .val (.long fa), .second, .val (.long (p3 + (1 : Int64))), .second, .unset, .unset, .unset, .unset, .unset, .unset, .unset, .unset] []))
      generalize g_fb : (p3 + (1 : Int64)) = fb
      have hfa : fa.toInt = (ea : Int) := by rw [← g_fa, ua]; rfl
      have hea : 0 < ea := by omega
      have hxa : (0 : Int64).toInt = (xa : Int) := by rw [ub]; rfl
      have hfb : fb.toInt = (eb : Int) := by rw [← g_fb]; exact (own_p1 wa (by omega) m1).1
      have heb : 0 < eb := (own_p1 wa (by omega) m1).2
      have hxb : (p3 + (1 : Int64)).toInt = (xb : Int) := by rw [wb]; exact (own_p1 wa (by omega) m1).1
      have hxq : xq.toInt = ((xa + xb : Nat) : Int) := by rw [← g_xq]; exact own_addN hxa hxb (by omega)
      have hkq : kq.toInt = ((ka + kb : Nat) : Int) := by rw [← g_kq, uc, wc]; rfl
      refine own_lloadN (n := 91) X0 hx (hb hby d11_90) rfl rfl ?_
      refine own_lload (n := 93) X0 hx (hb hby d11_91) rfl rfl ?_
      refine own_ladd (n := 94) X0 hx (hb hby d11_93) rfl ?_
      refine own_lstore (n := 96) X0 hx (hb hby d11_94) (l' := #[.val (.long p1), .second, .val (.long p2), .second, .val (.long p3), .second, .val (.long p4), .second, .val (.long kq), .second, .val (.long xq), .second, .val (.long fa), .second, .val (.long fb), .second, .val (.long (p2 + p4)), .second, .unset, .unset, .unset, .unset, .unset, .unset]) rfl rfl ?_
      show Ends p e below (EF s ({ frames := 1, cells := 0, slots := 0, locals := 20 } : Room).cells ({ frames := 1, cells := 0, slots := 0, locals := 20 } : Room).slots) (Q11 Z p1 p2 p3 p4 ca cb ea eb xa xb ka kb h0 n0) (s₁.setTop (mkF m 96 #[.val (.long p1), .second, .val (.long p2), .second, .val (.long p3), .second, .val (.long p4), .second, .val (.long kq), .second, .val (.long xq), .second, .val (.long fa), .second, .val (.long fb), .second, .val (.long (p2 + p4)), .second, .unset, .unset, .unset, .unset, .unset, .unset] []))
      generalize g_cq : (p2 + p4) = cq
      have hcq : cq.toInt = ((ca + cb : Nat) : Int) := by rw [← g_cq]; exact own_addN hc0 hc1 (by omega)
      refine own_lload (n := 98) X0 hx (hb hby d11_96) rfl rfl ?_
      refine own_lconst (n := 99) X0 hx (0 : Int64) (hb hby d11_98) rfl rfl ?_
      refine own_lcmp (n := 100) X0 hx (hb hby d11_99) rfl ?_
      by_cases c100 : cq = (0 : Int64)
      · refine own_ifNo (n := 103) X0 hx (hb hby d11_100) (lw_ne_f c100) rfl ?_
        refine own_iconst (n := 104) X0 hx (1 : Int32) (hb hby d11_103) rfl rfl ?_
        refine own_retI X0 hx lk hret (hb hby d11_104) (by decide) (by decide) ?_
        rw [e0]
        exact ⟨_, rfl, fun _ => rfl, fun z => absurd (by have q := congrArg Int64.toInt c100; rw [hcq] at q; have o : (0 : Int64).toInt = 0 := rfl; omega) z, N0, rfl⟩
      · refine own_ifYes (n := 105) X0 hx (hb hby d11_100) (lw_ne_t c100) (by decide) (by decide) ?_
        refine own_lloadN (n := 106) X0 hx (hb hby d11_105) rfl rfl ?_
        refine own_lloadN (n := 107) X0 hx (hb hby d11_106) rfl rfl ?_
        refine own_lmul (n := 108) X0 hx (hb hby d11_107) rfl ?_
        refine own_lload (n := 110) X0 hx (hb hby d11_108) rfl rfl ?_
        refine own_lmul (n := 111) X0 hx (hb hby d11_110) rfl ?_
        refine own_lload (n := 113) X0 hx (hb hby d11_111) rfl rfl ?_
        refine own_lload (n := 115) X0 hx (hb hby d11_113) rfl rfl ?_
        refine own_lmul (n := 116) X0 hx (hb hby d11_115) rfl ?_
        refine own_lload (n := 118) X0 hx (hb hby d11_116) rfl rfl ?_
        refine own_lmul (n := 119) X0 hx (hb hby d11_118) rfl ?_
        refine own_ladd (n := 120) X0 hx (hb hby d11_119) rfl ?_
        refine own_lload (n := 122) X0 hx (hb hby d11_120) rfl rfl ?_
        refine own_lmul (n := 123) X0 hx (hb hby d11_122) rfl ?_
        refine own_lstore (n := 125) X0 hx (hb hby d11_123) (l' := #[.val (.long p1), .second, .val (.long p2), .second, .val (.long p3), .second, .val (.long p4), .second, .val (.long kq), .second, .val (.long xq), .second, .val (.long fa), .second, .val (.long fb), .second, .val (.long cq), .second, .val (.long ((((p2 * p2) * fb) + ((p4 * p4) * fa)) * xq)), .second, .unset, .unset, .unset, .unset]) rfl rfl ?_
        show Ends p e below (EF s ({ frames := 1, cells := 0, slots := 0, locals := 20 } : Room).cells ({ frames := 1, cells := 0, slots := 0, locals := 20 } : Room).slots) (Q11 Z p1 p2 p3 p4 ca cb ea eb xa xb ka kb h0 n0) (s₁.setTop (mkF m 125 #[.val (.long p1), .second, .val (.long p2), .second, .val (.long p3), .second, .val (.long p4), .second, .val (.long kq), .second, .val (.long xq), .second, .val (.long fa), .second, .val (.long fb), .second, .val (.long cq), .second, .val (.long ((((p2 * p2) * fb) + ((p4 * p4) * fa)) * xq)), .second, .unset, .unset, .unset, .unset] []))
        generalize g_nq : ((((p2 * p2) * fb) + ((p4 * p4) * fa)) * xq) = nq
        refine own_lload (n := 127) X0 hx (hb hby d11_125) rfl rfl ?_
        refine own_lload (n := 129) X0 hx (hb hby d11_127) rfl rfl ?_
        refine own_ldc2_w (n := 132) X0 hx hZ hown (hw _ (List.mem_of_getElem? (i := 141) rfl)) (hb hby d11_129) rfl ?_
        refine own_lload (n := 134) X0 hx (hb hby d11_132) rfl rfl ?_
        refine own_lmul (n := 135) X0 hx (hb hby d11_134) rfl ?_
        refine own_ladd (n := 136) X0 hx (hb hby d11_135) rfl ?_
        refine own_ldc2_w (n := 139) X0 hx hZ hown (hw _ (List.mem_of_getElem? (i := 141) rfl)) (hb hby d11_136) rfl ?_
        refine own_lsub (n := 140) X0 hx (hb hby d11_139) rfl ?_
        refine own_lmul (n := 141) X0 hx (hb hby d11_140) rfl ?_
        refine own_lload (n := 143) X0 hx (hb hby d11_141) rfl rfl ?_
        refine own_lmul (n := 144) X0 hx (hb hby d11_143) rfl ?_
        refine own_lload (n := 146) X0 hx (hb hby d11_144) rfl rfl ?_
        refine own_lmul (n := 147) X0 hx (hb hby d11_146) rfl ?_
        refine own_lstore (n := 149) X0 hx (hb hby d11_147) (l' := #[.val (.long p1), .second, .val (.long p2), .second, .val (.long p3), .second, .val (.long p4), .second, .val (.long kq), .second, .val (.long xq), .second, .val (.long fa), .second, .val (.long fb), .second, .val (.long cq), .second, .val (.long nq), .second, .val (.long (((cq * ((cq + ((2 : Int64) * kq)) - (2 : Int64))) * fa) * fb)), .second, .unset, .unset]) rfl rfl ?_
        show Ends p e below (EF s ({ frames := 1, cells := 0, slots := 0, locals := 20 } : Room).cells ({ frames := 1, cells := 0, slots := 0, locals := 20 } : Room).slots) (Q11 Z p1 p2 p3 p4 ca cb ea eb xa xb ka kb h0 n0) (s₁.setTop (mkF m 149 #[.val (.long p1), .second, .val (.long p2), .second, .val (.long p3), .second, .val (.long p4), .second, .val (.long kq), .second, .val (.long xq), .second, .val (.long fa), .second, .val (.long fb), .second, .val (.long cq), .second, .val (.long nq), .second, .val (.long (((cq * ((cq + ((2 : Int64) * kq)) - (2 : Int64))) * fa) * fb)), .second, .unset, .unset] []))
        generalize g_dq : (((cq * ((cq + ((2 : Int64) * kq)) - (2 : Int64))) * fa) * fb) = dq
        have hC0 : ¬ ca + cb = 0 := fun z => c100 (Int64.toInt_inj.mp (hcq.trans (by rw [z]; rfl)))
        have hnq : nq.toInt = ((((ca * ca * eb + cb * cb * ea) * (xa + xb)) : Nat) : Int) := by rw [← g_nq]; exact own_nqv hc0 hc1 hfa hfb hxq b0 b1 q0 q1 (by omega)
        have hdq : dq.toInt = ((((ca + cb + (2 * (ka + kb) - 2)) * ((ca + cb) * (ea * eb))) : Nat) : Int) := by rw [← g_dq]; exact own_dqv hcq hkq hfa hfb (by omega) (by omega) (by omega) q0 q1
        refine own_lload (n := 151) X0 hx (hb hby d11_149) rfl rfl ?_
        refine own_lload (n := 153) X0 hx (hb hby d11_151) rfl rfl ?_
        refine own_lcmp (n := 154) X0 hx (hb hby d11_153) rfl ?_
        by_cases c154 : nq = dq
        · refine own_ifNo (n := 157) X0 hx (hb hby d11_154) (lw_ne_f c154) rfl ?_
          refine own_lload (n := 159) X0 hx (hb hby d11_157) rfl rfl ?_
          refine own_callS (n := 162) X0 hx hZ hown (hw _ (List.mem_of_getElem? (i := 145) rfl)) (hw _ (List.mem_of_getElem? (i := 146) rfl)) (hw _ (List.mem_of_getElem? (i := 2) rfl)) (hw _ (List.mem_of_getElem? (i := 147) rfl)) (by decide) e0 (rm25 l Z a0 hw [] fa h0 n0 Z0 ) (W := 0) (by decide) (by decide) (by decide) (by decide) (by rw [hml]; rfl) (argsL := [(.long fa)]) (rest := []) pd_25 rfl (by rfl) (Nat.le_of_eq rfl) (hb hby d11_159) rfl rfl ?_
          intro v4 T4 h4 L4 X4 e4 q4
          obtain ⟨r4, rfl, D4, M4, rfl⟩ := q4
          have N4 := Fr.app N0 M4
          by_cases c162 : r4 = 0
          · refine own_ifYes (n := 175) X4 hx (hb hby d11_162) (Jvm.Free.XT.i0_eq_t c162) (by decide) (by decide) ?_
            refine own_iconst (n := 176) X4 hx (2 : Int32) (hb hby d11_175) rfl rfl ?_
            refine own_retI X4 hx lk hret (hb hby d11_176) (by decide) (by decide) ?_
            rw [e4]
            exact ⟨_, rfl, fun z => absurd z hC0, fun _ => Or.inl rfl, N4, rfl⟩
          · refine own_ifNo (n := 165) X4 hx (hb hby d11_162) (Jvm.Free.XT.i0_eq_f c162) rfl ?_
            refine own_lload (n := 167) X4 hx (hb hby d11_165) rfl rfl ?_
            refine own_callS (n := 170) X4 hx hZ hown (hw _ (List.mem_of_getElem? (i := 145) rfl)) (hw _ (List.mem_of_getElem? (i := 146) rfl)) (hw _ (List.mem_of_getElem? (i := 2) rfl)) (hw _ (List.mem_of_getElem? (i := 147) rfl)) (by decide) e4 (rm25 l Z a0 hw [] fb h0 n0 Z0 ) (W := 0) (by decide) (by decide) (by decide) (by decide) (by rw [hml]; rfl) (argsL := [(.long fb)]) (rest := []) pd_25 rfl (by rfl) (Nat.le_of_eq rfl) (hb hby d11_167) rfl rfl ?_
            intro v5 T5 h5 L5 X5 e5 q5
            obtain ⟨r5, rfl, D5, M5, rfl⟩ := q5
            have N5 := Fr.app N4 M5
            by_cases c170 : r5 = 0
            · refine own_ifYes (n := 175) X5 hx (hb hby d11_170) (Jvm.Free.XT.i0_eq_t c170) (by decide) (by decide) ?_
              refine own_iconst (n := 176) X5 hx (2 : Int32) (hb hby d11_175) rfl rfl ?_
              refine own_retI X5 hx lk hret (hb hby d11_176) (by decide) (by decide) ?_
              rw [e5]
              exact ⟨_, rfl, fun z => absurd z hC0, fun _ => Or.inl rfl, N5, rfl⟩
            · refine own_ifNo (n := 173) X5 hx (hb hby d11_170) (Jvm.Free.XT.i0_eq_f c170) rfl ?_
              refine own_iconst (n := 174) X5 hx (1 : Int32) (hb hby d11_173) rfl rfl ?_
              refine own_retI X5 hx lk hret (hb hby d11_174) (by decide) (by decide) ?_
              rw [e5]
              exact ⟨_, rfl, fun z => absurd z hC0, fun _ => Or.inr (Or.inr (Or.inr ⟨rfl, Int.ofNat.inj (hnq.symm.trans ((congrArg Int64.toInt c154).trans hdq)), own_pow2 hfa hea q0 (D4.resolve_right (fun z => c162 z.1)).2, own_pow2 hfb heb q1 (D5.resolve_right (fun z => c170 z.1)).2⟩)), N5, rfl⟩
        · refine own_ifYes (n := 177) X0 hx (hb hby d11_154) (lw_ne_t c154) (by decide) (by decide) ?_
          refine own_lload (n := 179) X0 hx (hb hby d11_177) rfl rfl ?_
          refine own_lload (n := 181) X0 hx (hb hby d11_179) rfl rfl ?_
          refine own_lsub (n := 182) X0 hx (hb hby d11_181) rfl ?_
          refine own_callS (n := 185) X0 hx hZ hown (hw _ (List.mem_of_getElem? (i := 142) rfl)) (hw _ (List.mem_of_getElem? (i := 143) rfl)) (hw _ (List.mem_of_getElem? (i := 130) rfl)) (hw _ (List.mem_of_getElem? (i := 144) rfl)) (by decide) e0 (rm24 l Z a0 hw [] (nq - dq) h0 n0 Z0 ) (W := 0) (by decide) (by decide) (by decide) (by decide) (by rw [hml]; rfl) (argsL := [(.long (nq - dq))]) (rest := []) pd_24 rfl (by rfl) (Nat.le_of_eq rfl) (hb hby d11_182) rfl rfl ?_
          intro v6 T6 h6 L6 X6 e6 q6
          obtain ⟨rfl, M6, rfl⟩ := q6
          have N6 := Fr.app N0 M6
          refine own_lstore (n := 187) X6 hx (hb hby d11_185) (l' := #[.val (.long p1), .second, .val (.long p2), .second, .val (.long p3), .second, .val (.long p4), .second, .val (.long kq), .second, .val (.long xq), .second, .val (.long fa), .second, .val (.long fb), .second, .val (.long cq), .second, .val (.long nq), .second, .val (.long dq), .second, .val (.long (if (nq - dq) < 0 then -(nq - dq) else (nq - dq))), .second]) rfl rfl ?_
          show Ends p e below (EF s ({ frames := 1, cells := 0, slots := 0, locals := 20 } : Room).cells ({ frames := 1, cells := 0, slots := 0, locals := 20 } : Room).slots) (Q11 Z p1 p2 p3 p4 ca cb ea eb xa xb ka kb h0 n0) (T6.setTop (mkF m 187 #[.val (.long p1), .second, .val (.long p2), .second, .val (.long p3), .second, .val (.long p4), .second, .val (.long kq), .second, .val (.long xq), .second, .val (.long fa), .second, .val (.long fb), .second, .val (.long cq), .second, .val (.long nq), .second, .val (.long dq), .second, .val (.long (if (nq - dq) < 0 then -(nq - dq) else (nq - dq))), .second] []))
          generalize g_gq : (if (nq - dq) < 0 then -(nq - dq) else (nq - dq)) = gq
          refine own_lload (n := 189) X6 hx (hb hby d11_187) rfl rfl ?_
          refine own_lload (n := 191) X6 hx (hb hby d11_189) rfl rfl ?_
          refine own_bipush (n := 193) X6 hx (40 : Int32) (hb hby d11_191) rfl rfl ?_
          refine own_lshr (n := 194) X6 hx (hb hby d11_193) rfl ?_
          refine own_lcmp (n := 195) X6 hx (hb hby d11_194) rfl ?_
          by_cases c195 : (nq >>> ((40 : Int32) &&& 0x3f).toInt64) < gq
          · refine own_ifYes (n := 200) X6 hx (hb hby d11_195) (lw_gt_t c195) (by decide) (by decide) ?_
            refine own_lload (n := 202) X6 hx (hb hby d11_200) rfl rfl ?_
            refine own_lload (n := 204) X6 hx (hb hby d11_202) rfl rfl ?_
            refine own_lcmp (n := 205) X6 hx (hb hby d11_204) rfl ?_
            by_cases c205 : nq < dq
            · refine own_ifNo (n := 208) X6 hx (hb hby d11_205) (lw_ge_f c205) rfl ?_
              refine own_iconst (n := 209) X6 hx (1 : Int32) (hb hby d11_208) rfl rfl ?_
              refine own_goto (n := 213) X6 hx (hb hby d11_209) (by decide) (by decide) ?_
              refine own_retI X6 hx lk hret (hb hby d11_213) (by decide) (by decide) ?_
              rw [e6]
              exact ⟨_, rfl, fun z => absurd z hC0, fun _ => Or.inr (Or.inl ⟨rfl, (own_gap hnq hdq g_gq c195).1 c205⟩), N6, rfl⟩
            · refine own_ifYes (n := 212) X6 hx (hb hby d11_205) (lw_ge_t c205) (by decide) (by decide) ?_
              refine own_iconst (n := 213) X6 hx (0 : Int32) (hb hby d11_212) rfl rfl ?_
              refine own_retI X6 hx lk hret (hb hby d11_213) (by decide) (by decide) ?_
              rw [e6]
              exact ⟨_, rfl, fun z => absurd z hC0, fun _ => Or.inr (Or.inr (Or.inl ⟨rfl, (own_gap hnq hdq g_gq c195).2 c205 c154⟩)), N6, rfl⟩
          · refine own_ifNo (n := 198) X6 hx (hb hby d11_195) (lw_gt_f c195) rfl ?_
            refine own_iconst (n := 199) X6 hx (2 : Int32) (hb hby d11_198) rfl rfl ?_
            refine own_retI X6 hx lk hret (hb hby d11_199) (by decide) (by decide) ?_
            rw [e6]
            exact ⟨_, rfl, fun z => absurd z hC0, fun _ => Or.inl rfl, N6, rfl⟩
  · rcases sb with ⟨m1, wa, wb, wc⟩ | ⟨m1, wa, wb, wc⟩
    · skip
      refine own_lloadN (n := 1) X0 hx (hb hby d11_0) rfl rfl ?_
      refine own_lconst (n := 2) X0 hx (0 : Int64) (hb hby d11_1) rfl rfl ?_
      refine own_lcmp (n := 3) X0 hx (hb hby d11_2) rfl ?_
      refine own_ifNo (n := 6) X0 hx (hb hby d11_3) (lw_lt_f m0) rfl ?_
      refine own_iconst (n := 7) X0 hx (1 : Int32) (hb hby d11_6) rfl rfl ?_
      refine own_goto (n := 11) X0 hx (hb hby d11_7) (by decide) (by decide) ?_
      refine own_lload (n := 13) X0 hx (hb hby d11_11) rfl rfl ?_
      refine own_lconst (n := 14) X0 hx (0 : Int64) (hb hby d11_13) rfl rfl ?_
      refine own_lcmp (n := 15) X0 hx (hb hby d11_14) rfl ?_
      refine own_ifYes (n := 22) X0 hx (hb hby d11_15) (lw_lt_t m1) (by decide) (by decide) ?_
      refine own_iconst (n := 23) X0 hx (0 : Int32) (hb hby d11_22) rfl rfl ?_
      refine own_iadd (n := 24) X0 hx (hb hby d11_23) rfl ?_
      refine own_i2l (n := 25) X0 hx (hb hby d11_24) rfl ?_
      refine own_lstore (n := 27) X0 hx (hb hby d11_25) (l' := #[.val (.long p1), .second, .val (.long p2), .second, .val (.long p3), .second, .val (.long p4), .second, .val (.long (((1 : Int32) + (0 : Int32)).toInt64)), .second, .unset, .unset, .unset, .unset, .unset, .unset, .unset, .unset, .unset, .unset, .unset, .unset, .unset, .unset]) rfl rfl ?_
      show Ends p e below (EF s ({ frames := 1, cells := 0, slots := 0, locals := 20 } : Room).cells ({ frames := 1, cells := 0, slots := 0, locals := 20 } : Room).slots) (Q11 Z p1 p2 p3 p4 ca cb ea eb xa xb ka kb h0 n0) (s₁.setTop (mkF m 27 #[.val (.long p1), .second, .val (.long p2), .second, .val (.long p3), .second, .val (.long p4), .second, .val (.long (((1 : Int32) + (0 : Int32)).toInt64)), .second, .unset, .unset, .unset, .unset, .unset, .unset, .unset, .unset, .unset, .unset, .unset, .unset, .unset, .unset] []))
      generalize g_kq : (((1 : Int32) + (0 : Int32)).toInt64) = kq
      refine own_lloadN (n := 28) X0 hx (hb hby d11_27) rfl rfl ?_
      refine own_lconst (n := 29) X0 hx (0 : Int64) (hb hby d11_28) rfl rfl ?_
      refine own_lcmp (n := 30) X0 hx (hb hby d11_29) rfl ?_
      refine own_ifNo (n := 33) X0 hx (hb hby d11_30) (lw_lt_f m0) rfl ?_
      refine own_lloadN (n := 34) X0 hx (hb hby d11_33) rfl rfl ?_
      refine own_lconst (n := 35) X0 hx (1 : Int64) (hb hby d11_34) rfl rfl ?_
      refine own_ladd (n := 36) X0 hx (hb hby d11_35) rfl ?_
      refine own_goto (n := 40) X0 hx (hb hby d11_36) (by decide) (by decide) ?_
      refine own_lload (n := 42) X0 hx (hb hby d11_40) rfl rfl ?_
      refine own_lconst (n := 43) X0 hx (0 : Int64) (hb hby d11_42) rfl rfl ?_
      refine own_lcmp (n := 44) X0 hx (hb hby d11_43) rfl ?_
      refine own_ifYes (n := 54) X0 hx (hb hby d11_44) (lw_lt_t m1) (by decide) (by decide) ?_
      refine own_lconst (n := 55) X0 hx (0 : Int64) (hb hby d11_54) rfl rfl ?_
      refine own_ladd (n := 56) X0 hx (hb hby d11_55) rfl ?_
      refine own_lstore (n := 58) X0 hx (hb hby d11_56) (l' := #[.val (.long p1), .second, .val (.long p2), .second, .val (.long p3), .second, .val (.long p4), .second, .val (.long kq), .second, .val (.long ((p1 + (1 : Int64)) + (0 : Int64))), .second, .unset, .unset, .unset, .unset, .unset, .unset, .unset, .unset, .unset, .unset, .unset, .unset]) rfl rfl ?_
      show Ends p e below (EF s ({ frames := 1, cells := 0, slots := 0, locals := 20 } : Room).cells ({ frames := 1, cells := 0, slots := 0, locals := 20 } : Room).slots) (Q11 Z p1 p2 p3 p4 ca cb ea eb xa xb ka kb h0 n0) (s₁.setTop (mkF m 58 #[.val (.long p1), .second, .val (.long p2), .second, .val (.long p3), .second, .val (.long p4), .second, .val (.long kq), .second, .val (.long ((p1 + (1 : Int64)) + (0 : Int64))), .second, .unset, .unset, .unset, .unset, .unset, .unset, .unset, .unset, .unset, .unset, .unset, .unset] []))
      generalize g_xq : ((p1 + (1 : Int64)) + (0 : Int64)) = xq
      refine own_lloadN (n := 59) X0 hx (hb hby d11_58) rfl rfl ?_
      refine own_lconst (n := 60) X0 hx (0 : Int64) (hb hby d11_59) rfl rfl ?_
      refine own_lcmp (n := 61) X0 hx (hb hby d11_60) rfl ?_
      refine own_ifNo (n := 64) X0 hx (hb hby d11_61) (lw_lt_f m0) rfl ?_
      refine own_lloadN (n := 65) X0 hx (hb hby d11_64) rfl rfl ?_
      refine own_lconst (n := 66) X0 hx (1 : Int64) (hb hby d11_65) rfl rfl ?_
      refine own_ladd (n := 67) X0 hx (hb hby d11_66) rfl ?_
      refine own_goto (n := 71) X0 hx (hb hby d11_67) (by decide) (by decide) ?_
      refine own_lstore (n := 73) X0 hx (hb hby d11_71) (l' := #[.val (.long p1), .second, .val (.long p2), .second, .val (.long p3), .second, .val (.long p4), .second, .val (.long kq), .second, .val (.long xq), .second, .val (.long (p1 + (1 : Int64))), .second, .unset, .unset, .unset, .unset, .unset, .unset, .unset, .unset, .unset, .unset]) rfl rfl ?_
      show Ends p e below (EF s ({ frames := 1, cells := 0, slots := 0, locals := 20 } : Room).cells ({ frames := 1, cells := 0, slots := 0, locals := 20 } : Room).slots) (Q11 Z p1 p2 p3 p4 ca cb ea eb xa xb ka kb h0 n0) (s₁.setTop (mkF m 73 #[.val (.long p1), .second, .val (.long p2), .second, .val (.long p3), .second, .val (.long p4), .second, .val (.long kq), .second, .val (.long xq), .second, .val (.long (p1 + (1 : Int64))), .second, .unset, .unset, .unset, .unset, .unset, .unset, .unset, .unset, .unset, .unset] []))
      generalize g_fa : (p1 + (1 : Int64)) = fa
      refine own_lload (n := 75) X0 hx (hb hby d11_73) rfl rfl ?_
      refine own_lconst (n := 76) X0 hx (0 : Int64) (hb hby d11_75) rfl rfl ?_
      refine own_lcmp (n := 77) X0 hx (hb hby d11_76) rfl ?_
      refine own_ifYes (n := 87) X0 hx (hb hby d11_77) (lw_lt_t m1) (by decide) (by decide) ?_
      refine own_lconst (n := 88) X0 hx (1 : Int64) (hb hby d11_87) rfl rfl ?_
      refine own_lstore (n := 90) X0 hx (hb hby d11_88) (l' := #[.val (.long p1), .second, .val (.long p2), .second, .val (.long p3), .second, .val (.long p4), .second, .val (.long kq), .second, .val (.long xq), .second, .val (.long fa), .second, .val (.long (1 : Int64)), .second, .unset, .unset, .unset, .unset, .unset, .unset, .unset, .unset]) rfl rfl ?_
      show Ends p e below (EF s ({ frames := 1, cells := 0, slots := 0, locals := 20 } : Room).cells ({ frames := 1, cells := 0, slots := 0, locals := 20 } : Room).slots) (Q11 Z p1 p2 p3 p4 ca cb ea eb xa xb ka kb h0 n0) (s₁.setTop (mkF m 90 #[.val (.long p1), .second, .val (.long p2), .second, .val (.long p3), .second, .val (.long p4), .second, .val (.long kq), .second, .val (.long xq), .second, .val (.long fa), .second, .val (.long (1 : Int64)), .second, .unset, .unset, .unset, .unset, .unset, .unset, .unset, .unset] []))
      generalize g_fb : (1 : Int64) = fb
      have hfa : fa.toInt = (ea : Int) := by rw [← g_fa]; exact (own_p1 ua (by omega) m0).1
      have hea : 0 < ea := (own_p1 ua (by omega) m0).2
      have hxa : (p1 + (1 : Int64)).toInt = (xa : Int) := by rw [ub]; exact (own_p1 ua (by omega) m0).1
      have hfb : fb.toInt = (eb : Int) := by rw [← g_fb, wa]; rfl
      have heb : 0 < eb := by omega
      have hxb : (0 : Int64).toInt = (xb : Int) := by rw [wb]; rfl
      have hxq : xq.toInt = ((xa + xb : Nat) : Int) := by rw [← g_xq]; exact own_addN hxa hxb (by omega)
      have hkq : kq.toInt = ((ka + kb : Nat) : Int) := by rw [← g_kq, uc, wc]; rfl
      refine own_lloadN (n := 91) X0 hx (hb hby d11_90) rfl rfl ?_
      refine own_lload (n := 93) X0 hx (hb hby d11_91) rfl rfl ?_
      refine own_ladd (n := 94) X0 hx (hb hby d11_93) rfl ?_
      refine own_lstore (n := 96) X0 hx (hb hby d11_94) (l' := #[.val (.long p1), .second, .val (.long p2), .second, .val (.long p3), .second, .val (.long p4), .second, .val (.long kq), .second, .val (.long xq), .second, .val (.long fa), .second, .val (.long fb), .second, .val (.long (p2 + p4)), .second, .unset, .unset, .unset, .unset, .unset, .unset]) rfl rfl ?_
      show Ends p e below (EF s ({ frames := 1, cells := 0, slots := 0, locals := 20 } : Room).cells ({ frames := 1, cells := 0, slots := 0, locals := 20 } : Room).slots) (Q11 Z p1 p2 p3 p4 ca cb ea eb xa xb ka kb h0 n0) (s₁.setTop (mkF m 96 #[.val (.long p1), .second, .val (.long p2), .second, .val (.long p3), .second, .val (.long p4), .second, .val (.long kq), .second, .val (.long xq), .second, .val (.long fa), .second, .val (.long fb), .second, .val (.long (p2 + p4)), .second, .unset, .unset, .unset, .unset, .unset, .unset] []))
      generalize g_cq : (p2 + p4) = cq
      have hcq : cq.toInt = ((ca + cb : Nat) : Int) := by rw [← g_cq]; exact own_addN hc0 hc1 (by omega)
      refine own_lload (n := 98) X0 hx (hb hby d11_96) rfl rfl ?_
      refine own_lconst (n := 99) X0 hx (0 : Int64) (hb hby d11_98) rfl rfl ?_
      refine own_lcmp (n := 100) X0 hx (hb hby d11_99) rfl ?_
      by_cases c100 : cq = (0 : Int64)
      · refine own_ifNo (n := 103) X0 hx (hb hby d11_100) (lw_ne_f c100) rfl ?_
        refine own_iconst (n := 104) X0 hx (1 : Int32) (hb hby d11_103) rfl rfl ?_
        refine own_retI X0 hx lk hret (hb hby d11_104) (by decide) (by decide) ?_
        rw [e0]
        exact ⟨_, rfl, fun _ => rfl, fun z => absurd (by have q := congrArg Int64.toInt c100; rw [hcq] at q; have o : (0 : Int64).toInt = 0 := rfl; omega) z, N0, rfl⟩
      · refine own_ifYes (n := 105) X0 hx (hb hby d11_100) (lw_ne_t c100) (by decide) (by decide) ?_
        refine own_lloadN (n := 106) X0 hx (hb hby d11_105) rfl rfl ?_
        refine own_lloadN (n := 107) X0 hx (hb hby d11_106) rfl rfl ?_
        refine own_lmul (n := 108) X0 hx (hb hby d11_107) rfl ?_
        refine own_lload (n := 110) X0 hx (hb hby d11_108) rfl rfl ?_
        refine own_lmul (n := 111) X0 hx (hb hby d11_110) rfl ?_
        refine own_lload (n := 113) X0 hx (hb hby d11_111) rfl rfl ?_
        refine own_lload (n := 115) X0 hx (hb hby d11_113) rfl rfl ?_
        refine own_lmul (n := 116) X0 hx (hb hby d11_115) rfl ?_
        refine own_lload (n := 118) X0 hx (hb hby d11_116) rfl rfl ?_
        refine own_lmul (n := 119) X0 hx (hb hby d11_118) rfl ?_
        refine own_ladd (n := 120) X0 hx (hb hby d11_119) rfl ?_
        refine own_lload (n := 122) X0 hx (hb hby d11_120) rfl rfl ?_
        refine own_lmul (n := 123) X0 hx (hb hby d11_122) rfl ?_
        refine own_lstore (n := 125) X0 hx (hb hby d11_123) (l' := #[.val (.long p1), .second, .val (.long p2), .second, .val (.long p3), .second, .val (.long p4), .second, .val (.long kq), .second, .val (.long xq), .second, .val (.long fa), .second, .val (.long fb), .second, .val (.long cq), .second, .val (.long ((((p2 * p2) * fb) + ((p4 * p4) * fa)) * xq)), .second, .unset, .unset, .unset, .unset]) rfl rfl ?_
        show Ends p e below (EF s ({ frames := 1, cells := 0, slots := 0, locals := 20 } : Room).cells ({ frames := 1, cells := 0, slots := 0, locals := 20 } : Room).slots) (Q11 Z p1 p2 p3 p4 ca cb ea eb xa xb ka kb h0 n0) (s₁.setTop (mkF m 125 #[.val (.long p1), .second, .val (.long p2), .second, .val (.long p3), .second, .val (.long p4), .second, .val (.long kq), .second, .val (.long xq), .second, .val (.long fa), .second, .val (.long fb), .second, .val (.long cq), .second, .val (.long ((((p2 * p2) * fb) + ((p4 * p4) * fa)) * xq)), .second, .unset, .unset, .unset, .unset] []))
        generalize g_nq : ((((p2 * p2) * fb) + ((p4 * p4) * fa)) * xq) = nq
        refine own_lload (n := 127) X0 hx (hb hby d11_125) rfl rfl ?_
        refine own_lload (n := 129) X0 hx (hb hby d11_127) rfl rfl ?_
        refine own_ldc2_w (n := 132) X0 hx hZ hown (hw _ (List.mem_of_getElem? (i := 141) rfl)) (hb hby d11_129) rfl ?_
        refine own_lload (n := 134) X0 hx (hb hby d11_132) rfl rfl ?_
        refine own_lmul (n := 135) X0 hx (hb hby d11_134) rfl ?_
        refine own_ladd (n := 136) X0 hx (hb hby d11_135) rfl ?_
        refine own_ldc2_w (n := 139) X0 hx hZ hown (hw _ (List.mem_of_getElem? (i := 141) rfl)) (hb hby d11_136) rfl ?_
        refine own_lsub (n := 140) X0 hx (hb hby d11_139) rfl ?_
        refine own_lmul (n := 141) X0 hx (hb hby d11_140) rfl ?_
        refine own_lload (n := 143) X0 hx (hb hby d11_141) rfl rfl ?_
        refine own_lmul (n := 144) X0 hx (hb hby d11_143) rfl ?_
        refine own_lload (n := 146) X0 hx (hb hby d11_144) rfl rfl ?_
        refine own_lmul (n := 147) X0 hx (hb hby d11_146) rfl ?_
        refine own_lstore (n := 149) X0 hx (hb hby d11_147) (l' := #[.val (.long p1), .second, .val (.long p2), .second, .val (.long p3), .second, .val (.long p4), .second, .val (.long kq), .second, .val (.long xq), .second, .val (.long fa), .second, .val (.long fb), .second, .val (.long cq), .second, .val (.long nq), .second, .val (.long (((cq * ((cq + ((2 : Int64) * kq)) - (2 : Int64))) * fa) * fb)), .second, .unset, .unset]) rfl rfl ?_
        show Ends p e below (EF s ({ frames := 1, cells := 0, slots := 0, locals := 20 } : Room).cells ({ frames := 1, cells := 0, slots := 0, locals := 20 } : Room).slots) (Q11 Z p1 p2 p3 p4 ca cb ea eb xa xb ka kb h0 n0) (s₁.setTop (mkF m 149 #[.val (.long p1), .second, .val (.long p2), .second, .val (.long p3), .second, .val (.long p4), .second, .val (.long kq), .second, .val (.long xq), .second, .val (.long fa), .second, .val (.long fb), .second, .val (.long cq), .second, .val (.long nq), .second, .val (.long (((cq * ((cq + ((2 : Int64) * kq)) - (2 : Int64))) * fa) * fb)), .second, .unset, .unset] []))
        generalize g_dq : (((cq * ((cq + ((2 : Int64) * kq)) - (2 : Int64))) * fa) * fb) = dq
        have hC0 : ¬ ca + cb = 0 := fun z => c100 (Int64.toInt_inj.mp (hcq.trans (by rw [z]; rfl)))
        have hnq : nq.toInt = ((((ca * ca * eb + cb * cb * ea) * (xa + xb)) : Nat) : Int) := by rw [← g_nq]; exact own_nqv hc0 hc1 hfa hfb hxq b0 b1 q0 q1 (by omega)
        have hdq : dq.toInt = ((((ca + cb + (2 * (ka + kb) - 2)) * ((ca + cb) * (ea * eb))) : Nat) : Int) := by rw [← g_dq]; exact own_dqv hcq hkq hfa hfb (by omega) (by omega) (by omega) q0 q1
        refine own_lload (n := 151) X0 hx (hb hby d11_149) rfl rfl ?_
        refine own_lload (n := 153) X0 hx (hb hby d11_151) rfl rfl ?_
        refine own_lcmp (n := 154) X0 hx (hb hby d11_153) rfl ?_
        by_cases c154 : nq = dq
        · refine own_ifNo (n := 157) X0 hx (hb hby d11_154) (lw_ne_f c154) rfl ?_
          refine own_lload (n := 159) X0 hx (hb hby d11_157) rfl rfl ?_
          refine own_callS (n := 162) X0 hx hZ hown (hw _ (List.mem_of_getElem? (i := 145) rfl)) (hw _ (List.mem_of_getElem? (i := 146) rfl)) (hw _ (List.mem_of_getElem? (i := 2) rfl)) (hw _ (List.mem_of_getElem? (i := 147) rfl)) (by decide) e0 (rm25 l Z a0 hw [] fa h0 n0 Z0 ) (W := 0) (by decide) (by decide) (by decide) (by decide) (by rw [hml]; rfl) (argsL := [(.long fa)]) (rest := []) pd_25 rfl (by rfl) (Nat.le_of_eq rfl) (hb hby d11_159) rfl rfl ?_
          intro v7 T7 h7 L7 X7 e7 q7
          obtain ⟨r7, rfl, D7, M7, rfl⟩ := q7
          have N7 := Fr.app N0 M7
          by_cases c162 : r7 = 0
          · refine own_ifYes (n := 175) X7 hx (hb hby d11_162) (Jvm.Free.XT.i0_eq_t c162) (by decide) (by decide) ?_
            refine own_iconst (n := 176) X7 hx (2 : Int32) (hb hby d11_175) rfl rfl ?_
            refine own_retI X7 hx lk hret (hb hby d11_176) (by decide) (by decide) ?_
            rw [e7]
            exact ⟨_, rfl, fun z => absurd z hC0, fun _ => Or.inl rfl, N7, rfl⟩
          · refine own_ifNo (n := 165) X7 hx (hb hby d11_162) (Jvm.Free.XT.i0_eq_f c162) rfl ?_
            refine own_lload (n := 167) X7 hx (hb hby d11_165) rfl rfl ?_
            refine own_callS (n := 170) X7 hx hZ hown (hw _ (List.mem_of_getElem? (i := 145) rfl)) (hw _ (List.mem_of_getElem? (i := 146) rfl)) (hw _ (List.mem_of_getElem? (i := 2) rfl)) (hw _ (List.mem_of_getElem? (i := 147) rfl)) (by decide) e7 (rm25 l Z a0 hw [] fb h0 n0 Z0 ) (W := 0) (by decide) (by decide) (by decide) (by decide) (by rw [hml]; rfl) (argsL := [(.long fb)]) (rest := []) pd_25 rfl (by rfl) (Nat.le_of_eq rfl) (hb hby d11_167) rfl rfl ?_
            intro v8 T8 h8 L8 X8 e8 q8
            obtain ⟨r8, rfl, D8, M8, rfl⟩ := q8
            have N8 := Fr.app N7 M8
            by_cases c170 : r8 = 0
            · refine own_ifYes (n := 175) X8 hx (hb hby d11_170) (Jvm.Free.XT.i0_eq_t c170) (by decide) (by decide) ?_
              refine own_iconst (n := 176) X8 hx (2 : Int32) (hb hby d11_175) rfl rfl ?_
              refine own_retI X8 hx lk hret (hb hby d11_176) (by decide) (by decide) ?_
              rw [e8]
              exact ⟨_, rfl, fun z => absurd z hC0, fun _ => Or.inl rfl, N8, rfl⟩
            · refine own_ifNo (n := 173) X8 hx (hb hby d11_170) (Jvm.Free.XT.i0_eq_f c170) rfl ?_
              refine own_iconst (n := 174) X8 hx (1 : Int32) (hb hby d11_173) rfl rfl ?_
              refine own_retI X8 hx lk hret (hb hby d11_174) (by decide) (by decide) ?_
              rw [e8]
              exact ⟨_, rfl, fun z => absurd z hC0, fun _ => Or.inr (Or.inr (Or.inr ⟨rfl, Int.ofNat.inj (hnq.symm.trans ((congrArg Int64.toInt c154).trans hdq)), own_pow2 hfa hea q0 (D7.resolve_right (fun z => c162 z.1)).2, own_pow2 hfb heb q1 (D8.resolve_right (fun z => c170 z.1)).2⟩)), N8, rfl⟩
        · refine own_ifYes (n := 177) X0 hx (hb hby d11_154) (lw_ne_t c154) (by decide) (by decide) ?_
          refine own_lload (n := 179) X0 hx (hb hby d11_177) rfl rfl ?_
          refine own_lload (n := 181) X0 hx (hb hby d11_179) rfl rfl ?_
          refine own_lsub (n := 182) X0 hx (hb hby d11_181) rfl ?_
          refine own_callS (n := 185) X0 hx hZ hown (hw _ (List.mem_of_getElem? (i := 142) rfl)) (hw _ (List.mem_of_getElem? (i := 143) rfl)) (hw _ (List.mem_of_getElem? (i := 130) rfl)) (hw _ (List.mem_of_getElem? (i := 144) rfl)) (by decide) e0 (rm24 l Z a0 hw [] (nq - dq) h0 n0 Z0 ) (W := 0) (by decide) (by decide) (by decide) (by decide) (by rw [hml]; rfl) (argsL := [(.long (nq - dq))]) (rest := []) pd_24 rfl (by rfl) (Nat.le_of_eq rfl) (hb hby d11_182) rfl rfl ?_
          intro v9 T9 h9 L9 X9 e9 q9
          obtain ⟨rfl, M9, rfl⟩ := q9
          have N9 := Fr.app N0 M9
          refine own_lstore (n := 187) X9 hx (hb hby d11_185) (l' := #[.val (.long p1), .second, .val (.long p2), .second, .val (.long p3), .second, .val (.long p4), .second, .val (.long kq), .second, .val (.long xq), .second, .val (.long fa), .second, .val (.long fb), .second, .val (.long cq), .second, .val (.long nq), .second, .val (.long dq), .second, .val (.long (if (nq - dq) < 0 then -(nq - dq) else (nq - dq))), .second]) rfl rfl ?_
          show Ends p e below (EF s ({ frames := 1, cells := 0, slots := 0, locals := 20 } : Room).cells ({ frames := 1, cells := 0, slots := 0, locals := 20 } : Room).slots) (Q11 Z p1 p2 p3 p4 ca cb ea eb xa xb ka kb h0 n0) (T9.setTop (mkF m 187 #[.val (.long p1), .second, .val (.long p2), .second, .val (.long p3), .second, .val (.long p4), .second, .val (.long kq), .second, .val (.long xq), .second, .val (.long fa), .second, .val (.long fb), .second, .val (.long cq), .second, .val (.long nq), .second, .val (.long dq), .second, .val (.long (if (nq - dq) < 0 then -(nq - dq) else (nq - dq))), .second] []))
          generalize g_gq : (if (nq - dq) < 0 then -(nq - dq) else (nq - dq)) = gq
          refine own_lload (n := 189) X9 hx (hb hby d11_187) rfl rfl ?_
          refine own_lload (n := 191) X9 hx (hb hby d11_189) rfl rfl ?_
          refine own_bipush (n := 193) X9 hx (40 : Int32) (hb hby d11_191) rfl rfl ?_
          refine own_lshr (n := 194) X9 hx (hb hby d11_193) rfl ?_
          refine own_lcmp (n := 195) X9 hx (hb hby d11_194) rfl ?_
          by_cases c195 : (nq >>> ((40 : Int32) &&& 0x3f).toInt64) < gq
          · refine own_ifYes (n := 200) X9 hx (hb hby d11_195) (lw_gt_t c195) (by decide) (by decide) ?_
            refine own_lload (n := 202) X9 hx (hb hby d11_200) rfl rfl ?_
            refine own_lload (n := 204) X9 hx (hb hby d11_202) rfl rfl ?_
            refine own_lcmp (n := 205) X9 hx (hb hby d11_204) rfl ?_
            by_cases c205 : nq < dq
            · refine own_ifNo (n := 208) X9 hx (hb hby d11_205) (lw_ge_f c205) rfl ?_
              refine own_iconst (n := 209) X9 hx (1 : Int32) (hb hby d11_208) rfl rfl ?_
              refine own_goto (n := 213) X9 hx (hb hby d11_209) (by decide) (by decide) ?_
              refine own_retI X9 hx lk hret (hb hby d11_213) (by decide) (by decide) ?_
              rw [e9]
              exact ⟨_, rfl, fun z => absurd z hC0, fun _ => Or.inr (Or.inl ⟨rfl, (own_gap hnq hdq g_gq c195).1 c205⟩), N9, rfl⟩
            · refine own_ifYes (n := 212) X9 hx (hb hby d11_205) (lw_ge_t c205) (by decide) (by decide) ?_
              refine own_iconst (n := 213) X9 hx (0 : Int32) (hb hby d11_212) rfl rfl ?_
              refine own_retI X9 hx lk hret (hb hby d11_213) (by decide) (by decide) ?_
              rw [e9]
              exact ⟨_, rfl, fun z => absurd z hC0, fun _ => Or.inr (Or.inr (Or.inl ⟨rfl, (own_gap hnq hdq g_gq c195).2 c205 c154⟩)), N9, rfl⟩
          · refine own_ifNo (n := 198) X9 hx (hb hby d11_195) (lw_gt_f c195) rfl ?_
            refine own_iconst (n := 199) X9 hx (2 : Int32) (hb hby d11_198) rfl rfl ?_
            refine own_retI X9 hx lk hret (hb hby d11_199) (by decide) (by decide) ?_
            rw [e9]
            exact ⟨_, rfl, fun z => absurd z hC0, fun _ => Or.inl rfl, N9, rfl⟩
    · skip
      refine own_lloadN (n := 1) X0 hx (hb hby d11_0) rfl rfl ?_
      refine own_lconst (n := 2) X0 hx (0 : Int64) (hb hby d11_1) rfl rfl ?_
      refine own_lcmp (n := 3) X0 hx (hb hby d11_2) rfl ?_
      refine own_ifNo (n := 6) X0 hx (hb hby d11_3) (lw_lt_f m0) rfl ?_
      refine own_iconst (n := 7) X0 hx (1 : Int32) (hb hby d11_6) rfl rfl ?_
      refine own_goto (n := 11) X0 hx (hb hby d11_7) (by decide) (by decide) ?_
      refine own_lload (n := 13) X0 hx (hb hby d11_11) rfl rfl ?_
      refine own_lconst (n := 14) X0 hx (0 : Int64) (hb hby d11_13) rfl rfl ?_
      refine own_lcmp (n := 15) X0 hx (hb hby d11_14) rfl ?_
      refine own_ifNo (n := 18) X0 hx (hb hby d11_15) (lw_lt_f m1) rfl ?_
      refine own_iconst (n := 19) X0 hx (1 : Int32) (hb hby d11_18) rfl rfl ?_
      refine own_goto (n := 23) X0 hx (hb hby d11_19) (by decide) (by decide) ?_
      refine own_iadd (n := 24) X0 hx (hb hby d11_23) rfl ?_
      refine own_i2l (n := 25) X0 hx (hb hby d11_24) rfl ?_
      refine own_lstore (n := 27) X0 hx (hb hby d11_25) (l' := #[.val (.long p1), .second, .val (.long p2), .second, .val (.long p3), .second, .val (.long p4), .second, .val (.long (((1 : Int32) + (1 : Int32)).toInt64)), .second, .unset, .unset, .unset, .unset, .unset, .unset, .unset, .unset, .unset, .unset, .unset, .unset, .unset, .unset]) rfl rfl ?_
      show Ends p e below (EF s ({ frames := 1, cells := 0, slots := 0, locals := 20 } : Room).cells ({ frames := 1, cells := 0, slots := 0, locals := 20 } : Room).slots) (Q11 Z p1 p2 p3 p4 ca cb ea eb xa xb ka kb h0 n0) (s₁.setTop (mkF m 27 #[.val (.long p1), .second, .val (.long p2), .second, .val (.long p3), .second, .val (.long p4), .second, .val (.long (((1 : Int32) + (1 : Int32)).toInt64)), .second, .unset, .unset, .unset, .unset, .unset, .unset, .unset, .unset, .unset, .unset, .unset, .unset, .unset, .unset] []))
      generalize g_kq : (((1 : Int32) + (1 : Int32)).toInt64) = kq
      refine own_lloadN (n := 28) X0 hx (hb hby d11_27) rfl rfl ?_
      refine own_lconst (n := 29) X0 hx (0 : Int64) (hb hby d11_28) rfl rfl ?_
      refine own_lcmp (n := 30) X0 hx (hb hby d11_29) rfl ?_
      refine own_ifNo (n := 33) X0 hx (hb hby d11_30) (lw_lt_f m0) rfl ?_
      refine own_lloadN (n := 34) X0 hx (hb hby d11_33) rfl rfl ?_
      refine own_lconst (n := 35) X0 hx (1 : Int64) (hb hby d11_34) rfl rfl ?_
      refine own_ladd (n := 36) X0 hx (hb hby d11_35) rfl ?_
      refine own_goto (n := 40) X0 hx (hb hby d11_36) (by decide) (by decide) ?_
      refine own_lload (n := 42) X0 hx (hb hby d11_40) rfl rfl ?_
      refine own_lconst (n := 43) X0 hx (0 : Int64) (hb hby d11_42) rfl rfl ?_
      refine own_lcmp (n := 44) X0 hx (hb hby d11_43) rfl ?_
      refine own_ifNo (n := 47) X0 hx (hb hby d11_44) (lw_lt_f m1) rfl ?_
      refine own_lload (n := 49) X0 hx (hb hby d11_47) rfl rfl ?_
      refine own_lconst (n := 50) X0 hx (1 : Int64) (hb hby d11_49) rfl rfl ?_
      refine own_ladd (n := 51) X0 hx (hb hby d11_50) rfl ?_
      refine own_goto (n := 55) X0 hx (hb hby d11_51) (by decide) (by decide) ?_
      refine own_ladd (n := 56) X0 hx (hb hby d11_55) rfl ?_
      refine own_lstore (n := 58) X0 hx (hb hby d11_56) (l' := #[.val (.long p1), .second, .val (.long p2), .second, .val (.long p3), .second, .val (.long p4), .second, .val (.long kq), .second, .val (.long ((p1 + (1 : Int64)) + (p3 + (1 : Int64)))), .second, .unset, .unset, .unset, .unset, .unset, .unset, .unset, .unset, .unset, .unset, .unset, .unset]) rfl rfl ?_
      show Ends p e below (EF s ({ frames := 1, cells := 0, slots := 0, locals := 20 } : Room).cells ({ frames := 1, cells := 0, slots := 0, locals := 20 } : Room).slots) (Q11 Z p1 p2 p3 p4 ca cb ea eb xa xb ka kb h0 n0) (s₁.setTop (mkF m 58 #[.val (.long p1), .second, .val (.long p2), .second, .val (.long p3), .second, .val (.long p4), .second, .val (.long kq), .second, .val (.long ((p1 + (1 : Int64)) + (p3 + (1 : Int64)))), .second, .unset, .unset, .unset, .unset, .unset, .unset, .unset, .unset, .unset, .unset, .unset, .unset] []))
      generalize g_xq : ((p1 + (1 : Int64)) + (p3 + (1 : Int64))) = xq
      refine own_lloadN (n := 59) X0 hx (hb hby d11_58) rfl rfl ?_
      refine own_lconst (n := 60) X0 hx (0 : Int64) (hb hby d11_59) rfl rfl ?_
      refine own_lcmp (n := 61) X0 hx (hb hby d11_60) rfl ?_
      refine own_ifNo (n := 64) X0 hx (hb hby d11_61) (lw_lt_f m0) rfl ?_
      refine own_lloadN (n := 65) X0 hx (hb hby d11_64) rfl rfl ?_
      refine own_lconst (n := 66) X0 hx (1 : Int64) (hb hby d11_65) rfl rfl ?_
      refine own_ladd (n := 67) X0 hx (hb hby d11_66) rfl ?_
      refine own_goto (n := 71) X0 hx (hb hby d11_67) (by decide) (by decide) ?_
      refine own_lstore (n := 73) X0 hx (hb hby d11_71) (l' := #[.val (.long p1), .second, .val (.long p2), .second, .val (.long p3), .second, .val (.long p4), .second, .val (.long kq), .second, .val (.long xq), .second, .val (.long (p1 + (1 : Int64))), .second, .unset, .unset, .unset, .unset, .unset, .unset, .unset, .unset, .unset, .unset]) rfl rfl ?_
      show Ends p e below (EF s ({ frames := 1, cells := 0, slots := 0, locals := 20 } : Room).cells ({ frames := 1, cells := 0, slots := 0, locals := 20 } : Room).slots) (Q11 Z p1 p2 p3 p4 ca cb ea eb xa xb ka kb h0 n0) (s₁.setTop (mkF m 73 #[.val (.long p1), .second, .val (.long p2), .second, .val (.long p3), .second, .val (.long p4), .second, .val (.long kq), .second, .val (.long xq), .second, .val (.long (p1 + (1 : Int64))), .second, .unset, .unset, .unset, .unset, .unset, .unset, .unset, .unset, .unset, .unset] []))
      generalize g_fa : (p1 + (1 : Int64)) = fa
      refine own_lload (n := 75) X0 hx (hb hby d11_73) rfl rfl ?_
      refine own_lconst (n := 76) X0 hx (0 : Int64) (hb hby d11_75) rfl rfl ?_
      refine own_lcmp (n := 77) X0 hx (hb hby d11_76) rfl ?_
      refine own_ifNo (n := 80) X0 hx (hb hby d11_77) (lw_lt_f m1) rfl ?_
      refine own_lload (n := 82) X0 hx (hb hby d11_80) rfl rfl ?_
      refine own_lconst (n := 83) X0 hx (1 : Int64) (hb hby d11_82) rfl rfl ?_
      refine own_ladd (n := 84) X0 hx (hb hby d11_83) rfl ?_
      refine own_goto (n := 88) X0 hx (hb hby d11_84) (by decide) (by decide) ?_
      refine own_lstore (n := 90) X0 hx (hb hby d11_88) (l' := #[.val (.long p1), .second, .val (.long p2), .second, .val (.long p3), .second, .val (.long p4), .second, .val (.long kq), .second, .val (.long xq), .second, .val (.long fa), .second, .val (.long (p3 + (1 : Int64))), .second, .unset, .unset, .unset, .unset, .unset, .unset, .unset, .unset]) rfl rfl ?_
      show Ends p e below (EF s ({ frames := 1, cells := 0, slots := 0, locals := 20 } : Room).cells ({ frames := 1, cells := 0, slots := 0, locals := 20 } : Room).slots) (Q11 Z p1 p2 p3 p4 ca cb ea eb xa xb ka kb h0 n0) (s₁.setTop (mkF m 90 #[.val (.long p1), .second, .val (.long p2), .second, .val (.long p3), .second, .val (.long p4), .second, .val (.long kq), .second, .val (.long xq), .second, .val (.long fa), .second, .val (.long (p3 + (1 : Int64))), .second, .unset, .unset, .unset, .unset, .unset, .unset, .unset, .unset] []))
      generalize g_fb : (p3 + (1 : Int64)) = fb
      have hfa : fa.toInt = (ea : Int) := by rw [← g_fa]; exact (own_p1 ua (by omega) m0).1
      have hea : 0 < ea := (own_p1 ua (by omega) m0).2
      have hxa : (p1 + (1 : Int64)).toInt = (xa : Int) := by rw [ub]; exact (own_p1 ua (by omega) m0).1
      have hfb : fb.toInt = (eb : Int) := by rw [← g_fb]; exact (own_p1 wa (by omega) m1).1
      have heb : 0 < eb := (own_p1 wa (by omega) m1).2
      have hxb : (p3 + (1 : Int64)).toInt = (xb : Int) := by rw [wb]; exact (own_p1 wa (by omega) m1).1
      have hxq : xq.toInt = ((xa + xb : Nat) : Int) := by rw [← g_xq]; exact own_addN hxa hxb (by omega)
      have hkq : kq.toInt = ((ka + kb : Nat) : Int) := by rw [← g_kq, uc, wc]; rfl
      refine own_lloadN (n := 91) X0 hx (hb hby d11_90) rfl rfl ?_
      refine own_lload (n := 93) X0 hx (hb hby d11_91) rfl rfl ?_
      refine own_ladd (n := 94) X0 hx (hb hby d11_93) rfl ?_
      refine own_lstore (n := 96) X0 hx (hb hby d11_94) (l' := #[.val (.long p1), .second, .val (.long p2), .second, .val (.long p3), .second, .val (.long p4), .second, .val (.long kq), .second, .val (.long xq), .second, .val (.long fa), .second, .val (.long fb), .second, .val (.long (p2 + p4)), .second, .unset, .unset, .unset, .unset, .unset, .unset]) rfl rfl ?_
      show Ends p e below (EF s ({ frames := 1, cells := 0, slots := 0, locals := 20 } : Room).cells ({ frames := 1, cells := 0, slots := 0, locals := 20 } : Room).slots) (Q11 Z p1 p2 p3 p4 ca cb ea eb xa xb ka kb h0 n0) (s₁.setTop (mkF m 96 #[.val (.long p1), .second, .val (.long p2), .second, .val (.long p3), .second, .val (.long p4), .second, .val (.long kq), .second, .val (.long xq), .second, .val (.long fa), .second, .val (.long fb), .second, .val (.long (p2 + p4)), .second, .unset, .unset, .unset, .unset, .unset, .unset] []))
      generalize g_cq : (p2 + p4) = cq
      have hcq : cq.toInt = ((ca + cb : Nat) : Int) := by rw [← g_cq]; exact own_addN hc0 hc1 (by omega)
      refine own_lload (n := 98) X0 hx (hb hby d11_96) rfl rfl ?_
      refine own_lconst (n := 99) X0 hx (0 : Int64) (hb hby d11_98) rfl rfl ?_
      refine own_lcmp (n := 100) X0 hx (hb hby d11_99) rfl ?_
      by_cases c100 : cq = (0 : Int64)
      · refine own_ifNo (n := 103) X0 hx (hb hby d11_100) (lw_ne_f c100) rfl ?_
        refine own_iconst (n := 104) X0 hx (1 : Int32) (hb hby d11_103) rfl rfl ?_
        refine own_retI X0 hx lk hret (hb hby d11_104) (by decide) (by decide) ?_
        rw [e0]
        exact ⟨_, rfl, fun _ => rfl, fun z => absurd (by have q := congrArg Int64.toInt c100; rw [hcq] at q; have o : (0 : Int64).toInt = 0 := rfl; omega) z, N0, rfl⟩
      · refine own_ifYes (n := 105) X0 hx (hb hby d11_100) (lw_ne_t c100) (by decide) (by decide) ?_
        refine own_lloadN (n := 106) X0 hx (hb hby d11_105) rfl rfl ?_
        refine own_lloadN (n := 107) X0 hx (hb hby d11_106) rfl rfl ?_
        refine own_lmul (n := 108) X0 hx (hb hby d11_107) rfl ?_
        refine own_lload (n := 110) X0 hx (hb hby d11_108) rfl rfl ?_
        refine own_lmul (n := 111) X0 hx (hb hby d11_110) rfl ?_
        refine own_lload (n := 113) X0 hx (hb hby d11_111) rfl rfl ?_
        refine own_lload (n := 115) X0 hx (hb hby d11_113) rfl rfl ?_
        refine own_lmul (n := 116) X0 hx (hb hby d11_115) rfl ?_
        refine own_lload (n := 118) X0 hx (hb hby d11_116) rfl rfl ?_
        refine own_lmul (n := 119) X0 hx (hb hby d11_118) rfl ?_
        refine own_ladd (n := 120) X0 hx (hb hby d11_119) rfl ?_
        refine own_lload (n := 122) X0 hx (hb hby d11_120) rfl rfl ?_
        refine own_lmul (n := 123) X0 hx (hb hby d11_122) rfl ?_
        refine own_lstore (n := 125) X0 hx (hb hby d11_123) (l' := #[.val (.long p1), .second, .val (.long p2), .second, .val (.long p3), .second, .val (.long p4), .second, .val (.long kq), .second, .val (.long xq), .second, .val (.long fa), .second, .val (.long fb), .second, .val (.long cq), .second, .val (.long ((((p2 * p2) * fb) + ((p4 * p4) * fa)) * xq)), .second, .unset, .unset, .unset, .unset]) rfl rfl ?_
        show Ends p e below (EF s ({ frames := 1, cells := 0, slots := 0, locals := 20 } : Room).cells ({ frames := 1, cells := 0, slots := 0, locals := 20 } : Room).slots) (Q11 Z p1 p2 p3 p4 ca cb ea eb xa xb ka kb h0 n0) (s₁.setTop (mkF m 125 #[.val (.long p1), .second, .val (.long p2), .second, .val (.long p3), .second, .val (.long p4), .second, .val (.long kq), .second, .val (.long xq), .second, .val (.long fa), .second, .val (.long fb), .second, .val (.long cq), .second, .val (.long ((((p2 * p2) * fb) + ((p4 * p4) * fa)) * xq)), .second, .unset, .unset, .unset, .unset] []))
        generalize g_nq : ((((p2 * p2) * fb) + ((p4 * p4) * fa)) * xq) = nq
        refine own_lload (n := 127) X0 hx (hb hby d11_125) rfl rfl ?_
        refine own_lload (n := 129) X0 hx (hb hby d11_127) rfl rfl ?_
        refine own_ldc2_w (n := 132) X0 hx hZ hown (hw _ (List.mem_of_getElem? (i := 141) rfl)) (hb hby d11_129) rfl ?_
        refine own_lload (n := 134) X0 hx (hb hby d11_132) rfl rfl ?_
        refine own_lmul (n := 135) X0 hx (hb hby d11_134) rfl ?_
        refine own_ladd (n := 136) X0 hx (hb hby d11_135) rfl ?_
        refine own_ldc2_w (n := 139) X0 hx hZ hown (hw _ (List.mem_of_getElem? (i := 141) rfl)) (hb hby d11_136) rfl ?_
        refine own_lsub (n := 140) X0 hx (hb hby d11_139) rfl ?_
        refine own_lmul (n := 141) X0 hx (hb hby d11_140) rfl ?_
        refine own_lload (n := 143) X0 hx (hb hby d11_141) rfl rfl ?_
        refine own_lmul (n := 144) X0 hx (hb hby d11_143) rfl ?_
        refine own_lload (n := 146) X0 hx (hb hby d11_144) rfl rfl ?_
        refine own_lmul (n := 147) X0 hx (hb hby d11_146) rfl ?_
        refine own_lstore (n := 149) X0 hx (hb hby d11_147) (l' := #[.val (.long p1), .second, .val (.long p2), .second, .val (.long p3), .second, .val (.long p4), .second, .val (.long kq), .second, .val (.long xq), .second, .val (.long fa), .second, .val (.long fb), .second, .val (.long cq), .second, .val (.long nq), .second, .val (.long (((cq * ((cq + ((2 : Int64) * kq)) - (2 : Int64))) * fa) * fb)), .second, .unset, .unset]) rfl rfl ?_
        show Ends p e below (EF s ({ frames := 1, cells := 0, slots := 0, locals := 20 } : Room).cells ({ frames := 1, cells := 0, slots := 0, locals := 20 } : Room).slots) (Q11 Z p1 p2 p3 p4 ca cb ea eb xa xb ka kb h0 n0) (s₁.setTop (mkF m 149 #[.val (.long p1), .second, .val (.long p2), .second, .val (.long p3), .second, .val (.long p4), .second, .val (.long kq), .second, .val (.long xq), .second, .val (.long fa), .second, .val (.long fb), .second, .val (.long cq), .second, .val (.long nq), .second, .val (.long (((cq * ((cq + ((2 : Int64) * kq)) - (2 : Int64))) * fa) * fb)), .second, .unset, .unset] []))
        generalize g_dq : (((cq * ((cq + ((2 : Int64) * kq)) - (2 : Int64))) * fa) * fb) = dq
        have hC0 : ¬ ca + cb = 0 := fun z => c100 (Int64.toInt_inj.mp (hcq.trans (by rw [z]; rfl)))
        have hnq : nq.toInt = ((((ca * ca * eb + cb * cb * ea) * (xa + xb)) : Nat) : Int) := by rw [← g_nq]; exact own_nqv hc0 hc1 hfa hfb hxq b0 b1 q0 q1 (by omega)
        have hdq : dq.toInt = ((((ca + cb + (2 * (ka + kb) - 2)) * ((ca + cb) * (ea * eb))) : Nat) : Int) := by rw [← g_dq]; exact own_dqv hcq hkq hfa hfb (by omega) (by omega) (by omega) q0 q1
        refine own_lload (n := 151) X0 hx (hb hby d11_149) rfl rfl ?_
        refine own_lload (n := 153) X0 hx (hb hby d11_151) rfl rfl ?_
        refine own_lcmp (n := 154) X0 hx (hb hby d11_153) rfl ?_
        by_cases c154 : nq = dq
        · refine own_ifNo (n := 157) X0 hx (hb hby d11_154) (lw_ne_f c154) rfl ?_
          refine own_lload (n := 159) X0 hx (hb hby d11_157) rfl rfl ?_
          refine own_callS (n := 162) X0 hx hZ hown (hw _ (List.mem_of_getElem? (i := 145) rfl)) (hw _ (List.mem_of_getElem? (i := 146) rfl)) (hw _ (List.mem_of_getElem? (i := 2) rfl)) (hw _ (List.mem_of_getElem? (i := 147) rfl)) (by decide) e0 (rm25 l Z a0 hw [] fa h0 n0 Z0 ) (W := 0) (by decide) (by decide) (by decide) (by decide) (by rw [hml]; rfl) (argsL := [(.long fa)]) (rest := []) pd_25 rfl (by rfl) (Nat.le_of_eq rfl) (hb hby d11_159) rfl rfl ?_
          intro v10 T10 h10 L10 X10 e10 q10
          obtain ⟨r10, rfl, D10, M10, rfl⟩ := q10
          have N10 := Fr.app N0 M10
          by_cases c162 : r10 = 0
          · refine own_ifYes (n := 175) X10 hx (hb hby d11_162) (Jvm.Free.XT.i0_eq_t c162) (by decide) (by decide) ?_
            refine own_iconst (n := 176) X10 hx (2 : Int32) (hb hby d11_175) rfl rfl ?_
            refine own_retI X10 hx lk hret (hb hby d11_176) (by decide) (by decide) ?_
            rw [e10]
            exact ⟨_, rfl, fun z => absurd z hC0, fun _ => Or.inl rfl, N10, rfl⟩
          · refine own_ifNo (n := 165) X10 hx (hb hby d11_162) (Jvm.Free.XT.i0_eq_f c162) rfl ?_
            refine own_lload (n := 167) X10 hx (hb hby d11_165) rfl rfl ?_
            refine own_callS (n := 170) X10 hx hZ hown (hw _ (List.mem_of_getElem? (i := 145) rfl)) (hw _ (List.mem_of_getElem? (i := 146) rfl)) (hw _ (List.mem_of_getElem? (i := 2) rfl)) (hw _ (List.mem_of_getElem? (i := 147) rfl)) (by decide) e10 (rm25 l Z a0 hw [] fb h0 n0 Z0 ) (W := 0) (by decide) (by decide) (by decide) (by decide) (by rw [hml]; rfl) (argsL := [(.long fb)]) (rest := []) pd_25 rfl (by rfl) (Nat.le_of_eq rfl) (hb hby d11_167) rfl rfl ?_
            intro v11 T11 h11 L11 X11 e11 q11
            obtain ⟨r11, rfl, D11, M11, rfl⟩ := q11
            have N11 := Fr.app N10 M11
            by_cases c170 : r11 = 0
            · refine own_ifYes (n := 175) X11 hx (hb hby d11_170) (Jvm.Free.XT.i0_eq_t c170) (by decide) (by decide) ?_
              refine own_iconst (n := 176) X11 hx (2 : Int32) (hb hby d11_175) rfl rfl ?_
              refine own_retI X11 hx lk hret (hb hby d11_176) (by decide) (by decide) ?_
              rw [e11]
              exact ⟨_, rfl, fun z => absurd z hC0, fun _ => Or.inl rfl, N11, rfl⟩
            · refine own_ifNo (n := 173) X11 hx (hb hby d11_170) (Jvm.Free.XT.i0_eq_f c170) rfl ?_
              refine own_iconst (n := 174) X11 hx (1 : Int32) (hb hby d11_173) rfl rfl ?_
              refine own_retI X11 hx lk hret (hb hby d11_174) (by decide) (by decide) ?_
              rw [e11]
              exact ⟨_, rfl, fun z => absurd z hC0, fun _ => Or.inr (Or.inr (Or.inr ⟨rfl, Int.ofNat.inj (hnq.symm.trans ((congrArg Int64.toInt c154).trans hdq)), own_pow2 hfa hea q0 (D10.resolve_right (fun z => c162 z.1)).2, own_pow2 hfb heb q1 (D11.resolve_right (fun z => c170 z.1)).2⟩)), N11, rfl⟩
        · refine own_ifYes (n := 177) X0 hx (hb hby d11_154) (lw_ne_t c154) (by decide) (by decide) ?_
          refine own_lload (n := 179) X0 hx (hb hby d11_177) rfl rfl ?_
          refine own_lload (n := 181) X0 hx (hb hby d11_179) rfl rfl ?_
          refine own_lsub (n := 182) X0 hx (hb hby d11_181) rfl ?_
          refine own_callS (n := 185) X0 hx hZ hown (hw _ (List.mem_of_getElem? (i := 142) rfl)) (hw _ (List.mem_of_getElem? (i := 143) rfl)) (hw _ (List.mem_of_getElem? (i := 130) rfl)) (hw _ (List.mem_of_getElem? (i := 144) rfl)) (by decide) e0 (rm24 l Z a0 hw [] (nq - dq) h0 n0 Z0 ) (W := 0) (by decide) (by decide) (by decide) (by decide) (by rw [hml]; rfl) (argsL := [(.long (nq - dq))]) (rest := []) pd_24 rfl (by rfl) (Nat.le_of_eq rfl) (hb hby d11_182) rfl rfl ?_
          intro v12 T12 h12 L12 X12 e12 q12
          obtain ⟨rfl, M12, rfl⟩ := q12
          have N12 := Fr.app N0 M12
          refine own_lstore (n := 187) X12 hx (hb hby d11_185) (l' := #[.val (.long p1), .second, .val (.long p2), .second, .val (.long p3), .second, .val (.long p4), .second, .val (.long kq), .second, .val (.long xq), .second, .val (.long fa), .second, .val (.long fb), .second, .val (.long cq), .second, .val (.long nq), .second, .val (.long dq), .second, .val (.long (if (nq - dq) < 0 then -(nq - dq) else (nq - dq))), .second]) rfl rfl ?_
          show Ends p e below (EF s ({ frames := 1, cells := 0, slots := 0, locals := 20 } : Room).cells ({ frames := 1, cells := 0, slots := 0, locals := 20 } : Room).slots) (Q11 Z p1 p2 p3 p4 ca cb ea eb xa xb ka kb h0 n0) (T12.setTop (mkF m 187 #[.val (.long p1), .second, .val (.long p2), .second, .val (.long p3), .second, .val (.long p4), .second, .val (.long kq), .second, .val (.long xq), .second, .val (.long fa), .second, .val (.long fb), .second, .val (.long cq), .second, .val (.long nq), .second, .val (.long dq), .second, .val (.long (if (nq - dq) < 0 then -(nq - dq) else (nq - dq))), .second] []))
          generalize g_gq : (if (nq - dq) < 0 then -(nq - dq) else (nq - dq)) = gq
          refine own_lload (n := 189) X12 hx (hb hby d11_187) rfl rfl ?_
          refine own_lload (n := 191) X12 hx (hb hby d11_189) rfl rfl ?_
          refine own_bipush (n := 193) X12 hx (40 : Int32) (hb hby d11_191) rfl rfl ?_
          refine own_lshr (n := 194) X12 hx (hb hby d11_193) rfl ?_
          refine own_lcmp (n := 195) X12 hx (hb hby d11_194) rfl ?_
          by_cases c195 : (nq >>> ((40 : Int32) &&& 0x3f).toInt64) < gq
          · refine own_ifYes (n := 200) X12 hx (hb hby d11_195) (lw_gt_t c195) (by decide) (by decide) ?_
            refine own_lload (n := 202) X12 hx (hb hby d11_200) rfl rfl ?_
            refine own_lload (n := 204) X12 hx (hb hby d11_202) rfl rfl ?_
            refine own_lcmp (n := 205) X12 hx (hb hby d11_204) rfl ?_
            by_cases c205 : nq < dq
            · refine own_ifNo (n := 208) X12 hx (hb hby d11_205) (lw_ge_f c205) rfl ?_
              refine own_iconst (n := 209) X12 hx (1 : Int32) (hb hby d11_208) rfl rfl ?_
              refine own_goto (n := 213) X12 hx (hb hby d11_209) (by decide) (by decide) ?_
              refine own_retI X12 hx lk hret (hb hby d11_213) (by decide) (by decide) ?_
              rw [e12]
              exact ⟨_, rfl, fun z => absurd z hC0, fun _ => Or.inr (Or.inl ⟨rfl, (own_gap hnq hdq g_gq c195).1 c205⟩), N12, rfl⟩
            · refine own_ifYes (n := 212) X12 hx (hb hby d11_205) (lw_ge_t c205) (by decide) (by decide) ?_
              refine own_iconst (n := 213) X12 hx (0 : Int32) (hb hby d11_212) rfl rfl ?_
              refine own_retI X12 hx lk hret (hb hby d11_213) (by decide) (by decide) ?_
              rw [e12]
              exact ⟨_, rfl, fun z => absurd z hC0, fun _ => Or.inr (Or.inr (Or.inl ⟨rfl, (own_gap hnq hdq g_gq c195).2 c205 c154⟩)), N12, rfl⟩
          · refine own_ifNo (n := 198) X12 hx (hb hby d11_195) (lw_gt_f c195) rfl ?_
            refine own_iconst (n := 199) X12 hx (2 : Int32) (hb hby d11_198) rfl rfl ?_
            refine own_retI X12 hx lk hret (hb hby d11_199) (by decide) (by decide) ?_
            rw [e12]
            exact ⟨_, rfl, fun z => absurd z hC0, fun _ => Or.inl rfl, N12, rfl⟩
def DV (c l : Int32) : UInt64 := if l.toInt < 0 then 0 else DSP c l
def EA (l : Int32) : Nat := if l.toInt < 0 then 1 else (l.toInt + 1).toNat
def XA (l : Int32) : Nat := (l.toInt + 1).toNat
def KA (l : Int32) : Nat := if l.toInt < 0 then 0 else 1
theorem own_dvv {c l : Int32} (h0 : 0 ≤ c.toInt) (h2 : c.toInt ≤ 2) (hl : l.toInt < 0 → c.toInt = 0) : FP.Core.val64 (DV c l) = FP.Core.roundRatio FP.Core.b64 false (c.toInt.toNat * c.toInt.toNat) (EA l) 0 := by
  unfold DV EA
  by_cases q : l.toInt < 0
  · rw [if_pos q, if_pos q, hl q]
    decide +kernel
  · rw [if_neg q, if_neg q, own_dspv h0 h2 (by omega), show l.toInt.toNat + 1 = (l.toInt + 1).toNat by omega]
theorem own_src {l : Int32} (h1 : -1 ≤ l.toInt) (h2 : l.toInt < 536870912) : SRC l.toInt64 (EA l) (XA l) (KA l) := by
  have e := Jvm.RoadKit.c_i2l l
  have z : (0 : Int64).toInt = 0 := rfl
  unfold SRC EA XA KA
  by_cases q : l.toInt < 0
  · rw [if_pos q, if_pos q]
    exact Or.inl ⟨by rw [Int64.lt_iff_toInt_lt, e, z]; exact q, rfl, by omega, rfl⟩
  · rw [if_neg q, if_neg q]
    exact Or.inr ⟨by rw [Int64.lt_iff_toInt_lt, e, z]; exact q, by rw [e]; omega, rfl, rfl⟩
theorem own_agree {S : UInt64} {ps pc : Int64} {fs : Int32} {c0 c1 l0 l1 r w : Int32} (hS : ∀ vx vy, VAL (DV c0 l0) vx → VAL (DV c1 l1) vy → FP.Core.val64 S = FP.Core.roundRatio FP.Core.b64 false (vx + vy) UU 0) (hps : ps.toInt = l0.toInt + l1.toInt + 2) (hpc : pc.toInt = c0.toInt + c1.toInt) (hfs : fs.toInt = ((KA l0 + KA l1 : Nat) : Int)) (a0 : 0 ≤ c0.toInt) (a1 : c0.toInt ≤ 2) (b0 : 0 ≤ c1.toInt) (b1 : c1.toInt ≤ 2) (f0 : -1 ≤ l0.toInt) (f1 : l0.toInt < 536870912) (g0 : -1 ≤ l1.toInt) (g1 : l1.toInt < 536870912) (z0 : l0.toInt < 0 → c0.toInt = 0) (z1 : l1.toInt < 0 → c1.toInt = 0) :
    (¬ pc = 0 → Jvm.Free.Fl.NoNaN64 (FP.dmul S (FP.l2d ps)) ∧ Jvm.Free.Fl.NoNaN64 (FP.ddiv (FP.dmul S (FP.l2d ps)) (FP.l2d pc)) ∧ Jvm.Free.Fl.NoNaN64 (UV S ps pc) ∧ Jvm.Free.Fl.NoNaN64 (WW fs)) ∧
    (((pc = 0 → r = 1) ∧ (¬ pc = 0 → (RES S ps pc fs → r = 0) ∧ (¬ RES S ps pc fs → r = 1))) → (c0.toInt.toNat + c1.toInt.toNat = 0 → w = 1) → (¬ c0.toInt.toNat + c1.toInt.toNat = 0 → EXP w ((c0.toInt.toNat * c0.toInt.toNat * EA l1 + c1.toInt.toNat * c1.toInt.toNat * EA l0) * (XA l0 + XA l1)) ((c0.toInt.toNat + c1.toInt.toNat + (2 * (KA l0 + KA l1) - 2)) * ((c0.toInt.toNat + c1.toInt.toNat) * (EA l0 * EA l1))) (EA l0) (EA l1)) → w = 2 ∨ (w = 1 ∧ r = 1) ∨ (¬ w = 1 ∧ r = 0)) := by
  have zz : (0 : Int64).toInt = 0 := rfl
  have hX := own_dvv (l := l0) a0 a1 z0
  have hY := own_dvv (l := l1) b0 b1 z1
  obtain ⟨ca, hca⟩ : ∃ ca : Nat, c0.toInt = (ca : Int) := ⟨_, (Int.toNat_of_nonneg a0).symm⟩
  obtain ⟨cb, hcb⟩ : ∃ cb : Nat, c1.toInt = (cb : Int) := ⟨_, (Int.toNat_of_nonneg b0).symm⟩
  rw [hca, Int.toNat_natCast] at hX ⊢
  rw [hcb, Int.toNat_natCast] at hY ⊢
  have hpc' : pc.toInt = ((ca + cb : Nat) : Int) := by rw [hpc, hca, hcb]; omega
  have hz : pc = 0 ↔ ca + cb = 0 := ⟨fun z => by rw [z, zz] at hpc'; omega, fun z => Int64.toInt_inj.mp (by rw [hpc', zz]; omega)⟩
  have hEA : 0 < EA l0 ∧ EA l0 ≤ 536870912 := by unfold EA; split <;> omega
  have hEB : 0 < EA l1 ∧ EA l1 ≤ 536870912 := by unfold EA; split <;> omega
  have hX1 : ps.toInt = ((XA l0 + XA l1 : Nat) : Int) := by rw [hps]; unfold XA; omega
  have hk : ¬ ca + cb = 0 → KA l0 + KA l1 = 1 ∨ KA l0 + KA l1 = 2 := fun h => by unfold KA; split <;> split <;> omega
  have main : ¬ ca + cb = 0 → _ := fun h => own_core (n := (ca * ca * EA l1 + cb * cb * EA l0) * (XA l0 + XA l1)) (dd := (ca + cb + (2 * (KA l0 + KA l1) - 2)) * ((ca + cb) * (EA l0 * EA l1))) hX hY hS hX1 hpc' hfs (hk h) (Nat.mul_le_mul (by omega : ca ≤ 2) (by omega : ca ≤ 2)) (Nat.mul_le_mul (by omega : cb ≤ 2) (by omega : cb ≤ 2)) (by
      rcases Nat.eq_zero_or_pos ca with z | z
      · have := Nat.mul_pos (show 0 < cb by omega) (show 0 < cb by omega)
        omega
      · have := Nat.mul_pos z z
        omega) hEA.1 hEB.1 hEA.2 hEB.2 (by unfold XA; rcases hk h with z | z <;> unfold KA at z <;> split at z <;> split at z <;> omega) (by unfold XA; omega) (by omega) (by omega) rfl rfl (fun k1 => by
      unfold KA at k1
      split at k1 <;> split at k1 <;> try omega
      · rename_i q0 q1
        have : ca = 0 := by have := z0 q0; omega
        subst this
        unfold EA XA KA
        rw [if_pos q0, if_neg q1, if_neg q1, if_pos q0, show (l0.toInt + 1).toNat = 0 by omega]
        simp only [Nat.zero_mul, Nat.mul_zero, Nat.zero_add, Nat.mul_one, Nat.one_mul, Nat.add_zero, Nat.sub_self]
        ac_rfl
      · rename_i q0 q1
        have : cb = 0 := by have := z1 q1; omega
        subst this
        unfold EA XA KA
        rw [if_neg q0, if_pos q1, if_neg q0, if_pos q1, show (l1.toInt + 1).toNat = 0 by omega]
        simp only [Nat.zero_mul, Nat.mul_zero, Nat.zero_add, Nat.mul_one, Nat.one_mul, Nat.add_zero, Nat.sub_self]
        ac_rfl)
  refine ⟨fun h => ?_, fun h1 h2 h3 => ?_⟩
  · obtain ⟨m1, m2, m3, m4, -⟩ := main (fun z => h (hz.mpr z))
    exact ⟨m1, m2, m3, m4⟩
  · by_cases h : ca + cb = 0
    · exact Or.inr (Or.inl ⟨h2 h, h1.1 (hz.mpr h)⟩)
    · obtain ⟨-, -, -, -, mA, mB, mC⟩ := main h
      have hr := h1.2 (fun z => h (hz.mp z))
      rcases h3 h with z | ⟨z, y1, y2⟩ | ⟨z, y1, y2⟩ | ⟨z, y1, y2, y3⟩
      · exact Or.inl z
      · exact Or.inr (Or.inl ⟨z, hr.2 (mA y1 y2)⟩)
      · exact Or.inr (Or.inr ⟨by rw [z]; decide, hr.1 (mB y1 y2)⟩)
      · exact Or.inr (Or.inl ⟨z, hr.2 (mC y1 y2 y3)⟩)
def CRL (Z : State) (h : Heap) (n0 : Nat) (a : Addr) (on : Nat) (l0 c0 l1 c1 kn av : Int32) (ob : Nat) : Prop := ∃ (lastf chg : Nat → Int32) (dsp : Nat → UInt64) (fs : Int32) (pc ps : Int64), CRS Z h n0 a (2 + on) lastf chg dsp fs pc ps kn av ob ∧ (lastf on = l0 ∧ lastf (on + 1) = l1) ∧ (chg on = c0 ∧ chg (on + 1) = c1) ∧ (dsp on = DV c0 l0 ∧ dsp (on + 1) = DV c1 l1) ∧ (on = 1 → dsp 0 = 0) ∧ fs.toInt = ((KA l0 + KA l1 : Nat) : Int) ∧ pc.toInt = c0.toInt + c1.toInt ∧ ps.toInt = l0.toInt + l1.toInt + 2
def BND (l c : Int32) : Prop := -1 ≤ l.toInt ∧ l.toInt < 536870912 ∧ 0 ≤ c.toInt ∧ c.toInt ≤ 2 ∧ (l.toInt < 0 → c.toInt = 0)
theorem own_fsv {l0 l1 p : Int32} {fs : Int32} (hfs : fs.toInt = ((KA l0 + KA l1 : Nat) : Int)) (hp : 0 ≤ p.toInt) : (if l0 < 0 then fs + 1 else fs).toInt = ((KA p + KA l1 : Nat) : Int) := by
  have z : (0 : Int32).toInt = 0 := rfl
  have o : (1 : Int32).toInt = 1 := rfl
  have q := c_iadd fs 1
  have r := rng32 (fs + 1)
  have k1 : KA l1 ≤ 1 := by unfold KA; split <;> omega
  have kp : KA p = 1 := if_neg (by omega)
  by_cases h : l0 < 0
  · rw [if_pos h]
    rw [Int32.lt_iff_toInt_lt, z] at h
    have k0 : KA l0 = 0 := if_pos h
    rw [k0] at hfs
    rw [kp]
    omega
  · rw [if_neg h]
    rw [Int32.lt_iff_toInt_lt, z] at h
    have k0 : KA l0 = 1 := if_neg h
    rw [k0] at hfs
    rw [kp]
    exact hfs
theorem own_pcv {c0 c1 f : Int32} {pc : Int64} (hpc : pc.toInt = c0.toInt + c1.toInt) (a0 : 0 ≤ c0.toInt) (a1 : c0.toInt ≤ 1) (b0 : 0 ≤ c1.toInt) (b1 : c1.toInt ≤ 2) : (if f = 0 then pc else pc + 1).toInt = (if f = 0 then c0 else c0 + 1).toInt + c1.toInt := by
  have o : (1 : Int32).toInt = 1 := rfl
  have o2 : (1 : Int64).toInt = 1 := rfl
  have q := c_iadd c0 1
  have r := rng32 (c0 + 1)
  by_cases h : f = 0
  · rw [if_pos h, if_pos h]
    exact hpc
  · rw [if_neg h, if_neg h, FP.Core.int64_add (by omega) (by omega), hpc, o2]
    omega
theorem own_psv {l0 l1 p : Int32} {ps : Int64} (hps : ps.toInt = l0.toInt + l1.toInt + 2) (f0 : -1 ≤ l0.toInt) (f1 : l0.toInt < 536870912) (g0 : -1 ≤ l1.toInt) (g1 : l1.toInt < 536870912) (p0 : 0 ≤ p.toInt) (p1 : p.toInt < 536870912) : (ps + (p - l0).toInt64).toInt = p.toInt + l1.toInt + 2 := by
  have q := c_isub p l0
  have r := rng32 (p - l0)
  have e := Jvm.RoadKit.c_i2l (p - l0)
  rw [FP.Core.int64_add (by omega) (by omega), hps, e]
  omega
theorem own_ob0 {Z : State} {h : Heap} {n0 : Nat} {a : Addr} {on : Nat} {lastf chg : Nat → Int32} {dsp : Nat → UInt64} {fs : Int32} {pc ps : Int64} {av p f : Int32} {ob : Nat} {l0 c0 l1 c1 : Int32}
    (R : CRS Z h n0 a (2 + on) (fun y => if y = on then p else lastf y) (fun y => if y = on then (if f = 0 then chg on else chg on + 1) else chg y) (fun y => if y = on then DSP (if f = 0 then chg on else chg on + 1) p else dsp y) (if lastf on < 0 then fs + 1 else fs) (if f = 0 then pc else pc + 1) (ps + (p - lastf on).toInt64) 0 av (ob + 1))
    (hl : lastf on = l0 ∧ lastf (on + 1) = l1) (hc : chg on = c0 ∧ chg (on + 1) = c1) (hd : dsp on = DV c0 l0 ∧ dsp (on + 1) = DV c1 l1) (h1 : on = 1 → dsp 0 = 0) (hfs : fs.toInt = ((KA l0 + KA l1 : Nat) : Int)) (hpc : pc.toInt = c0.toInt + c1.toInt) (hps : ps.toInt = l0.toInt + l1.toInt + 2) (B0 : BND l0 c0) (B1 : BND l1 c1) (hc1 : c0.toInt ≤ 1) (p0 : 0 ≤ p.toInt) (p1 : p.toInt < 536870912) : CRL Z h n0 a on p (if f = 0 then c0 else c0 + 1) l1 c1 0 av (ob + 1) := by
  obtain ⟨rfl, e1⟩ := hl
  obtain ⟨rfl, e2⟩ := hc
  have n1 : ¬ on + 1 = on := by omega
  refine ⟨_, _, _, _, _, _, R, ⟨if_pos rfl, (if_neg n1).trans e1⟩, ⟨if_pos rfl, (if_neg n1).trans e2⟩, ⟨(if_pos rfl).trans (if_neg (show ¬ p.toInt < 0 by omega)).symm, (if_neg n1).trans hd.2⟩, fun z => (if_neg (by omega)).trans (h1 z), own_fsv hfs p0, own_pcv hpc B0.2.2.1 hc1 B1.2.2.1 B1.2.2.2.1, own_psv hps B0.1 B0.2.1 B1.1 B1.2.1 p0 p1⟩
theorem own_ob1 {Z : State} {h : Heap} {n0 : Nat} {a : Addr} {on : Nat} {lastf chg : Nat → Int32} {dsp : Nat → UInt64} {fs : Int32} {pc ps : Int64} {av p f : Int32} {ob : Nat} {l0 c0 l1 c1 : Int32}
    (R : CRS Z h n0 a (2 + on) (fun y => if y = (on + 1) then p else lastf y) (fun y => if y = (on + 1) then (if f = 0 then chg (on + 1) else chg (on + 1) + 1) else chg y) (fun y => if y = (on + 1) then DSP (if f = 0 then chg (on + 1) else chg (on + 1) + 1) p else dsp y) (if lastf (on + 1) < 0 then fs + 1 else fs) (if f = 0 then pc else pc + 1) (ps + (p - lastf (on + 1)).toInt64) 0 av (ob + 1))
    (hl : lastf on = l0 ∧ lastf (on + 1) = l1) (hc : chg on = c0 ∧ chg (on + 1) = c1) (hd : dsp on = DV c0 l0 ∧ dsp (on + 1) = DV c1 l1) (h1 : on = 1 → dsp 0 = 0) (hfs : fs.toInt = ((KA l0 + KA l1 : Nat) : Int)) (hpc : pc.toInt = c0.toInt + c1.toInt) (hps : ps.toInt = l0.toInt + l1.toInt + 2) (B0 : BND l0 c0) (B1 : BND l1 c1) (hc1 : c1.toInt ≤ 1) (p0 : 0 ≤ p.toInt) (p1 : p.toInt < 536870912) : CRL Z h n0 a on l0 c0 p (if f = 0 then c1 else c1 + 1) 0 av (ob + 1) := by
  obtain ⟨e1, rfl⟩ := hl
  obtain ⟨e2, rfl⟩ := hc
  have n1 : ¬ on = on + 1 := by omega
  refine ⟨_, _, _, _, _, _, R, ⟨(if_neg n1).trans e1, if_pos rfl⟩, ⟨(if_neg n1).trans e2, if_pos rfl⟩, ⟨(if_neg n1).trans hd.1, (if_pos rfl).trans (if_neg (show ¬ p.toInt < 0 by omega)).symm⟩, fun z => (if_neg (by omega)).trans (h1 z), ?_, ?_, ?_⟩
  · have := own_fsv (l0 := lastf (on + 1)) (l1 := l0) (p := p) (fs := fs) (by rw [hfs, Nat.add_comm]) p0
    rw [this, Nat.add_comm]
  · have := own_pcv (c0 := chg (on + 1)) (c1 := c0) (f := f) (pc := pc) (by omega) B1.2.2.1 hc1 B0.2.2.1 B0.2.2.2.1
    omega
  · have := own_psv (l0 := lastf (on + 1)) (l1 := l0) (p := p) (ps := ps) (by omega) B1.1 B1.2.1 B0.1 B0.2.1 p0 p1
    omega
theorem CRL.exa {Z : State} {h : Heap} {n0 : Nat} {a : Addr} {on : Nat} {l0 c0 l1 c1 kn av : Int32} {ob : Nat} (F : CRL Z h n0 a on l0 c0 l1 c1 kn av ob) : Exa Z h a "com/example/revisit/revisit/policy/ChangeRates" := by
  obtain ⟨lastf, chg, dsp, fs, pc, ps, S, -⟩ := F
  exact S.exa
theorem own_alk {on : Nat} {dsp : Nat → UInt64} {fs : Int32} {pc ps : Int64} {l0 c0 l1 c1 : Int32} (hon : on < 2) (hd : dsp on = DV c0 l0 ∧ dsp (on + 1) = DV c1 l1) (h1 : on = 1 → dsp 0 = 0) (hfs : fs.toInt = ((KA l0 + KA l1 : Nat) : Int)) (hpc : pc.toInt = c0.toInt + c1.toInt) (hps : ps.toInt = l0.toInt + l1.toInt + 2) (B0 : BND l0 c0) (B1 : BND l1 c1) :
    (¬ pc = 0 → (∀ j, j < 2 + on → Jvm.Free.Fl.NoNaN64 (FP.dadd (SUM dsp j) (dsp j))) ∧ Jvm.Free.Fl.NoNaN64 (FP.dmul (SUM dsp (2 + on)) (FP.l2d ps)) ∧ Jvm.Free.Fl.NoNaN64 (FP.ddiv (FP.dmul (SUM dsp (2 + on)) (FP.l2d ps)) (FP.l2d pc)) ∧ Jvm.Free.Fl.NoNaN64 (UV (SUM dsp (2 + on)) ps pc) ∧ Jvm.Free.Fl.NoNaN64 (WW fs)) ∧
    ∀ r w : Int32, ((pc = 0 → r = 1) ∧ (¬ pc = 0 → (RES (SUM dsp (2 + on)) ps pc fs → r = 0) ∧ (¬ RES (SUM dsp (2 + on)) ps pc fs → r = 1))) → (c0.toInt.toNat + c1.toInt.toNat = 0 → w = 1) → (¬ c0.toInt.toNat + c1.toInt.toNat = 0 → EXP w ((c0.toInt.toNat * c0.toInt.toNat * EA l1 + c1.toInt.toNat * c1.toInt.toNat * EA l0) * (XA l0 + XA l1)) ((c0.toInt.toNat + c1.toInt.toNat + (2 * (KA l0 + KA l1) - 2)) * ((c0.toInt.toNat + c1.toInt.toNat) * (EA l0 * EA l1))) (EA l0) (EA l1)) → w = 2 ∨ (w = 1 ∧ r = 1) ∨ (¬ w = 1 ∧ r = 0) := by
  have hX := own_dvv (l := l0) B0.2.2.1 B0.2.2.2.1 B0.2.2.2.2
  have hY := own_dvv (l := l1) B1.2.2.1 B1.2.2.2.1 B1.2.2.2.2
  have sq : ∀ c : Int32, 0 ≤ c.toInt → c.toInt ≤ 2 → c.toInt.toNat * c.toInt.toNat ≤ 4 := fun c q r => Nat.mul_le_mul (show c.toInt.toNat ≤ 2 by omega) (show c.toInt.toNat ≤ 2 by omega)
  have hEA : 0 < EA l0 ∧ EA l0 ≤ 536870912 := by have := B0.1; have := B0.2.1; unfold EA; split <;> omega
  have hEB : 0 < EA l1 ∧ EA l1 ≤ 536870912 := by have := B1.1; have := B1.2.1; unfold EA; split <;> omega
  obtain ⟨vx, TX⟩ := own_trm hX (sq _ B0.2.2.1 B0.2.2.2.1) hEA.1 hEA.2
  obtain ⟨vy, TY⟩ := own_trm hY (sq _ B1.2.2.1 B1.2.2.2.1) hEB.1 hEB.2
  have hS : FP.Core.val64 (SUM dsp (2 + on)) = FP.Core.roundRatio FP.Core.b64 false (vx + vy) UU 0 ∧ ∀ j, j < 2 + on → Jvm.Free.Fl.NoNaN64 (FP.dadd (SUM dsp j) (dsp j)) := by
    rcases (show on = 0 ∨ on = 1 by omega) with rfl | rfl
    · exact own_S2 (by rw [hd.1]; exact TX.1) (by rw [hd.2]; exact TY.1)
    · exact own_S3 (h1 rfl) (by rw [hd.1]; exact TX.1) (by rw [hd.2]; exact TY.1)
  have key := fun r w => own_agree (S := SUM dsp (2 + on)) (ps := ps) (pc := pc) (fs := fs) (r := r) (w := w) (fun ux uy q1 q2 => by rw [own_VU q1 TX.1, own_VU q2 TY.1]; exact hS.1) hps hpc hfs B0.2.2.1 B0.2.2.2.1 B1.2.2.1 B1.2.2.2.1 B0.1 B0.2.1 B1.1 B1.2.1 B0.2.2.2.2 B1.2.2.2.2
  exact ⟨fun z => ⟨hS.2, (key 0 0).1 z⟩, fun r w => (key r w).2⟩
def GOOD (l0 c0 l1 c1 r : Int32) : Prop := ∀ w : Int32, (c0.toInt.toNat + c1.toInt.toNat = 0 → w = 1) → (¬ c0.toInt.toNat + c1.toInt.toNat = 0 → EXP w ((c0.toInt.toNat * c0.toInt.toNat * EA l1 + c1.toInt.toNat * c1.toInt.toNat * EA l0) * (XA l0 + XA l1)) ((c0.toInt.toNat + c1.toInt.toNat + (2 * (KA l0 + KA l1) - 2)) * ((c0.toInt.toNat + c1.toInt.toNat) * (EA l0 * EA l1))) (EA l0) (EA l1)) → w = 2 ∨ (w = 1 ∧ r = 1) ∨ (¬ w = 1 ∧ r = 0)
def KV (kn av l0 c0 l1 c1 : Int32) : Prop := (kn = 0 ∨ kn = 1) ∧ (av = 0 ∨ av = 1) ∧ (kn = 1 → GOOD l0 c0 l1 c1 av)
theorem own_crl0 {Z : State} {h : Heap} {n0 : Nat} {a : Addr} {on : Nat} (R : CRS Z h n0 a (2 + on) (fun _ => -1) (fun _ => 0) (fun _ => 0) 0 0 0 0 0 0) : CRL Z h n0 a on (-1) 0 (-1) 0 0 0 0 := ⟨_, _, _, _, _, _, R, ⟨rfl, rfl⟩, ⟨rfl, rfl⟩, ⟨rfl, rfl⟩, fun _ => rfl, rfl, rfl, rfl⟩
theorem own_ob3 {x : Int32} (h : x = 0 ∨ x = 1) : x.toInt = 0 ∨ x.toInt = 1 := by rcases h with rfl | rfl <;> decide
theorem own_cv {c f : Int32} (hf : f = 0 ∨ f = 1) (h0 : 0 ≤ c.toInt) (h1 : c.toInt ≤ 1) : (if f = 0 then c else c + 1).toInt = c.toInt + f.toInt := by
  have q := c_iadd c 1
  have r := rng32 (c + 1)
  have o : (1 : Int32).toInt = 1 := rfl
  have z : (0 : Int32).toInt = 0 := rfl
  rcases hf with rfl | rfl
  · rw [if_pos rfl, z]; omega
  · rw [if_neg (by decide), o]; omega
theorem own_fst {ma x y g : Int32} (e : (if ma = 2 then y &&& 268435455 else x &&& 536870911) = g) : 0 ≤ g.toInt ∧ g.toInt < 536870912 ∧ (ma = 2 → g.toInt < 268435456) := by
  have a := c_and y 268435455 (by decide)
  have b := c_and x 536870911 (by decide)
  have o1 : (268435455 : Int32).toInt = 268435455 := rfl
  have o2 : (536870911 : Int32).toInt = 536870911 := rfl
  rw [← e]
  split
  · exact ⟨by omega, by omega, fun _ => by omega⟩
  · rename_i q
    exact ⟨by omega, by omega, fun z => absurd z q⟩
theorem own_lst {ma x y g k : Int32} (e : (if ma = 2 then y &&& 268435455 else x &&& 536870911) = g) (e2 : (if ma = 2 then (y &&& 268435455) + 1 + (x &&& 268435455) else x &&& 536870911) = k) : 0 ≤ k.toInt ∧ k.toInt < 536870912 ∧ (ma = 2 → g.toInt < k.toInt) ∧ (¬ ma = 2 → k = g) := by
  have a := c_and y 268435455 (by decide)
  have a' := c_and x 268435455 (by decide)
  have b := c_and x 536870911 (by decide)
  have o : (1 : Int32).toInt = 1 := rfl
  have o1 : (268435455 : Int32).toInt = 268435455 := rfl
  have o2 : (536870911 : Int32).toInt = 536870911 := rfl
  have q1 := c_iadd (y &&& 268435455) 1
  have r1 := rng32 ((y &&& 268435455) + 1)
  have q2 := c_iadd ((y &&& 268435455) + 1) (x &&& 268435455)
  have r2 := rng32 ((y &&& 268435455) + 1 + (x &&& 268435455))
  rw [← e, ← e2]
  by_cases q : ma = 2
  · rw [if_pos q, if_pos q]
    exact ⟨by omega, by omega, fun _ => by omega, fun z => absurd q z⟩
  · rw [if_neg q, if_neg q]
    exact ⟨by omega, by omega, fun z => absurd z q, fun _ => rfl⟩
theorem pn_0 : plainFor x = true := by first | exact plainFor_of_name (by first | (simp [plainName, overriddenIn]; done) | decide +kernel) | decide +kernel
theorem ef_0 (m : MethodId) (p1 : Int32) (p2 : Int32) (p3 : Int32) (p4 : Int32) (p5 : Int32) : entryFrame m #[(.int p1), (.int p2), (.int p3), (.int p4), (.int p5)] maxLocals = mkF m 0 #[.val (.int p1), .val (.int p2), .val (.int p3), .val (.int p4), .val (.int p5), .unset, .unset, .unset, .unset, .unset, .unset, .unset, .unset, .unset, .unset, .unset, .unset, .unset, .unset, .unset, .unset, .unset, .unset, .unset, .unset, .unset, .unset, .unset] [] := by first | (simp [entryFrame, argsToLocals, Value.category, Array.replicate, maxLocals]; done) | rfl
def Q0 (Z : State) (p1 : Int32) (p2 : Int32) (p3 : Int32) (p4 : Int32) (p5 : Int32)  (h0 : Heap) (n0 : Nat) (v : Option Value) (h : Heap) (L : List Loc) : Prop := v = some (.int 1) ∧ Fr n0 L
theorem own_more {p : Program} {l : Launch} {e : Env} {R : Room} {s : State} {m : MethodId} {args : Array Value} {below : List Frame} {meth : Method} {c : Code} {T : State} {locs : List Loc} {u v u' v' : Nat} (X : Stand p l e R s m args below meth c T locs u v) (h1 : u ≤ u') (h2 : v ≤ v') : Stand p l e R s m args below meth c T locs u' v' := { X with same := X.same.mono h1 h2 }
theorem own_kaz {l c : Int32} (B : BND l c) (h : KA l = 0) : c.toInt.toNat = 0 := by
  unfold KA at h
  split at h
  · rename_i q
    rw [B.2.2.2.2 q]
    rfl
  · omega
theorem own_eab {l c : Int32} (B : BND l c) : EA l ≤ 536870912 := by
  have := B.1
  have := B.2.1
  unfold EA
  split <;> omega
theorem own_nat {c : Int32} {j : Int64} (h0 : 0 ≤ c.toInt) (h : j.toInt = c.toInt) : j.toInt = ((c.toInt.toNat : Nat) : Int) := by rw [h]; omega
theorem own_m3 {x ma : Int32} (g : (x &&& (3 : Int32)) % (3 : Int32) = ma) : 0 ≤ ma.toInt ∧ ma.toInt ≤ 2 := by
  have a := c_and x 3 (by decide)
  have q := (c_irem (x &&& (3 : Int32)) 3 3 rfl).1 a.1
  rw [g] at q
  omega
theorem rm0 (l : Launch) (Z : State) (a0 : Array Value) (hw : ∀ d ∈ tables_1, d.before a0 Z = true) (ws : List Jvm.Cond) (p1 : Int32) (p2 : Int32) (p3 : Int32) (p4 : Int32) (p5 : Int32)  (h0 : Heap) (n0 : Nat) (Z0 : n0 ≤ h0.size) (OL : Old Z n0 h0) :
    MetFree l x (head1 (Jvm.Cond.code x code maxLocals ret :: ws) room_1) (fun a U => a = #[(.int p1), (.int p2), (.int p3), (.int p4), (.int p5)] ∧ Z.Warmed39 U.vm ∧ U.heap = h0) (fun _ _ _ _ _ => True) (fun _ U o U' => ∃ v L, o = .returned v ∧ (Q0 Z p1 p2 p3 p4 p5  h0 n0) v U'.heap L ∧ FrameEnd U o U' L 72 320) := by
  refine MetFree.of_bodySF pn_0 hisR ?_
  intro p e s m args below meth c s₁ Bd hml0 hP hK
  obtain ⟨rfl, hZ, hh⟩ := hP
  have hx := Bd.exec
  have hby := Bd.bytes
  have hml : c.maxLocals = 28 := hml0
  have hown : s.vm.findClass "com/example/revisit/revisit/policy/ChangeRatesAlikePinLaw" = some m.cls := findClass_of_methodNamed Bd.named
  have hnm := (name_of_methodNamed Bd.named Bd.method).1
  have X0 : Stand p l e room_1 s m #[(.int p1), (.int p2), (.int p3), (.int p4), (.int p5)] below meth c s₁ [] 0 0 := Stand.of_body Bd
  have e0 : s₁.heap = h0 := by rw [← hh, Bd.state]; rfl
  have N0 := Fr.nil n0
  have lk : meth.locks = false := BodyLoose.notSynchronized Bd
  have hret := Bd.returns
  show Ends p e below (EF s 72 320) (Q0 Z p1 p2 p3 p4 p5  h0 n0) (s₁.setTop (entryFrame m #[(.int p1), (.int p2), (.int p3), (.int p4), (.int p5)] maxLocals))
  refine Ends.cast (ef_0 m p1 p2 p3 p4 p5) ?_
  have kz : ∀ (TB : State) (hB : Heap) (lB : List Loc) (ma : Int32) (mb : Int32) (va : Int32) (vb : Int32) (vc : Int32) (vd : Int32) (ve : Int32) (on : Nat) (ga : Int32) (gb : Int32) (gc : Int32) (gd : Int32) (ra : Addr) (la : Int32) (ka : Int32) (lb : Int32) (kb : Int32) (rr : Int32) (ja : Int64) (jb : Int64) (XB : Stand p l e room_1 s m #[(.int p1), (.int p2), (.int p3), (.int p4), (.int p5)] below meth c TB lB (34) (190)) (eB : TB.heap = hB) (NB : Fr n0 lB) (ZB : n0 ≤ hB.size) (hma : 0 ≤ ma.toInt ∧ ma.toInt ≤ 2) (hmb : 0 ≤ mb.toInt ∧ mb.toInt ≤ 2) (hva : va = 0 ∨ va = 1) (hvb : vb = 0 ∨ vb = 1) (hvc : vc = 0 ∨ vc = 1) (hvd : vd = 0 ∨ vd = 1) (hve : ve = 0 ∨ ve = 1) (hon : on < 2) (hga : 0 ≤ ga.toInt ∧ ga.toInt < 536870912) (hgb : 0 ≤ gb.toInt ∧ gb.toInt < 536870912 ∧ (ma = 2 → ga.toInt < gb.toInt) ∧ (¬ ma = 2 → gb = ga)) (hgc : 0 ≤ gc.toInt ∧ gc.toInt < 536870912) (hgd : 0 ≤ gd.toInt ∧ gd.toInt < 536870912 ∧ (mb = 2 → gc.toInt < gd.toInt) ∧ (¬ mb = 2 → gd = gc)) (OB : Old Z n0 hB) (GD : GOOD la ka lb kb rr) (Ba : BND la ka) (Bb : BND lb kb) (ra0 : (ma < 1 ∧ la = -1 ∧ ka.toInt = 0) ∨ (¬ ma < 1 ∧ ¬ ma = 2 ∧ la = gb ∧ ka.toInt = va.toInt) ∨ (¬ ma < 1 ∧ ma = 2 ∧ la = gb ∧ ka.toInt = va.toInt + vb.toInt)) (rb0 : (mb < 1 ∧ lb = -1 ∧ kb.toInt = 0) ∨ (¬ mb < 1 ∧ ¬ mb = 2 ∧ lb = gd ∧ kb.toInt = vc.toInt) ∨ (¬ mb < 1 ∧ mb = 2 ∧ lb = gd ∧ kb.toInt = vc.toInt + vd.toInt)) (hja : ja.toInt = ka.toInt) (hjb : jb.toInt = kb.toInt), Ends p e below (EF s 72 320) (Q0 Z p1 p2 p3 p4 p5  h0 n0) (TB.setTop (mkF m 414 #[.val (.int p1), .val (.int p2), .val (.int p3), .val (.int p4), .val (.int p5), .val (.int ma), .val (.int mb), .val (.int va), .val (.int vb), .val (.int vc), .val (.int vd), .val (.int ve), .val (.int (Nat.toInt32 on)), .val (.int (Nat.toInt32 on)), .val (.int ((Nat.toInt32 on) + (1 : Int32))), .val (.int ga), .val (.int gb), .val (.int gc), .val (.int gd), .val (.ref ra), .val (.int (1 : Int32)), .val (.int rr), .val (.int rr), .val (.long ja), .second, .val (.long jb), .second, .unset] [])) := by
    intro TB hB lB ma mb va vb vc vd ve on ga gb gc gd ra la ka lb kb rr ja jb XB eB NB ZB hma hmb hva hvb hvc hvd hve hon hga hgb hgc hgd OB GD Ba Bb ra0 rb0 hja hjb
    refine own_iload (n := 416) XB hx (hb hby at_414) rfl rfl ?_
    refine own_iconst (n := 417) XB hx (1 : Int32) (hb hby at_416) rfl rfl ?_
    by_cases c417 : ma < (1 : Int32)
    · refine own_icmpYes (n := 426) XB hx (hb hby at_417) (Jvm.Free.XT.ii_lt_t c417) (by decide) (by decide) ?_
      refine own_ldc2_w (n := 429) XB hx hZ hown (hw _ (List.mem_of_getElem? (i := 81) rfl)) (hb hby at_426) rfl ?_
      refine own_lload (n := 431) XB hx (hb hby at_429) rfl rfl ?_
      refine own_iload (n := 433) XB hx (hb hby at_431) rfl rfl ?_
      refine own_iconst (n := 434) XB hx (1 : Int32) (hb hby at_433) rfl rfl ?_
      by_cases c434 : mb < (1 : Int32)
      · refine own_icmpYes (n := 443) XB hx (hb hby at_434) (Jvm.Free.XT.ii_lt_t c434) (by decide) (by decide) ?_
        refine own_ldc2_w (n := 446) XB hx hZ hown (hw _ (List.mem_of_getElem? (i := 81) rfl)) (hb hby at_443) rfl ?_
        have hla : la = -1 := (ra0.resolve_right (fun z => z.elim (fun y => y.1 c417) (fun y => y.1 c417))).2.1
        have hlb : lb = -1 := (rb0.resolve_right (fun z => z.elim (fun y => y.1 c434) (fun y => y.1 c434))).2.1
        refine own_lload (n := 448) XB hx (hb hby at_446) rfl rfl ?_
        have sa : SRC (-1 : Int64) (EA la) (XA la) (KA la) := by have q := own_src (l := la) Ba.1 Ba.2.1; rw [hla] at q ⊢; exact q
        have sb : SRC (-1 : Int64) (EA lb) (XA lb) (KA lb) := by have q := own_src (l := lb) Bb.1 Bb.2.1; rw [hlb] at q ⊢; exact q
        refine own_callS (n := 451) XB hx hZ hown (hw _ (List.mem_of_getElem? (i := 82) rfl)) (hw _ (List.mem_of_getElem? (i := 83) rfl)) (hw _ (List.mem_of_getElem? (i := 2) rfl)) (hw _ (List.mem_of_getElem? (i := 84) rfl)) (by decide) eB (rm11 l Z a0 hw [] (-1 : Int64) ja (-1 : Int64) jb ka.toInt.toNat kb.toInt.toNat (EA la) (EA lb) (XA la) (XA lb) (KA la) (KA lb) hB n0 ZB sa sb (own_nat Ba.2.2.1 hja) (own_nat Bb.2.2.1 hjb) (by have := Ba.2.2.2.1; omega) (by have := Bb.2.2.2.1; omega) (own_eab Ba) (own_eab Bb) (own_kaz Ba) (own_kaz Bb)) (W := 0) (by decide) (by decide) (by decide) (by decide) (by rw [hml]; rfl) (argsL := [(.long (-1 : Int64)), (.long ja), (.long (-1 : Int64)), (.long jb)]) (rest := []) pd_11 rfl (by rfl) (Nat.le_of_eq rfl) (hb hby at_448) rfl rfl ?_
        intro v1 T1 h1 L1 X1 e1 q1
        obtain ⟨w1, rfl, wa1, wb1, M1, rfl⟩ := q1
        have N1 := Fr.app NB M1
        refine own_istore (n := 453) X1 hx (hb hby at_451) (l' := #[.val (.int p1), .val (.int p2), .val (.int p3), .val (.int p4), .val (.int p5), .val (.int ma), .val (.int mb), .val (.int va), .val (.int vb), .val (.int vc), .val (.int vd), .val (.int ve), .val (.int (Nat.toInt32 on)), .val (.int (Nat.toInt32 on)), .val (.int ((Nat.toInt32 on) + (1 : Int32))), .val (.int ga), .val (.int gb), .val (.int gc), .val (.int gd), .val (.ref ra), .val (.int (1 : Int32)), .val (.int rr), .val (.int rr), .val (.long ja), .second, .val (.long jb), .second, .val (.int w1)]) rfl rfl ?_
        refine own_iload (n := 455) X1 hx (hb hby at_453) rfl rfl ?_
        refine own_ifNo (n := 458) X1 hx (hb hby at_455) (Jvm.Free.XT.i0_eq_f (by decide)) rfl ?_
        refine own_iload (n := 460) X1 hx (hb hby at_458) rfl rfl ?_
        refine own_iload (n := 462) X1 hx (hb hby at_460) rfl rfl ?_
        refine own_callS (n := 465) X1 hx hZ hown (hw _ (List.mem_of_getElem? (i := 85) rfl)) (hw _ (List.mem_of_getElem? (i := 86) rfl)) (hw _ (List.mem_of_getElem? (i := 2) rfl)) (hw _ (List.mem_of_getElem? (i := 87) rfl)) (by decide) e1 (rm12 l Z a0 hw [] w1 rr hB n0 ZB (GD _ wa1 wb1)) (W := 0) (by decide) (by decide) (by decide) (by decide) (by rw [hml]; rfl) (argsL := [(.int w1), (.int rr)]) (rest := []) pd_12 rfl (by rfl) (Nat.le_of_eq rfl) (hb hby at_462) rfl rfl ?_
        intro v2 T2 h2 L2 X2 e2 q2
        obtain ⟨rfl, M2, rfl⟩ := q2
        have N2 := Fr.app N1 M2
        refine own_ifNo (n := 468) X2 hx (hb hby at_465) (Jvm.Free.XT.i0_eq_f (by decide)) rfl ?_
        refine own_iload (n := 470) X2 hx (hb hby at_468) rfl rfl ?_
        refine own_iload (n := 472) X2 hx (hb hby at_470) rfl rfl ?_
        refine own_icmpNo (n := 475) X2 hx (hb hby at_472) (Jvm.Free.XT.ii_ne_f rfl) rfl ?_
        refine own_iconst (n := 476) X2 hx (1 : Int32) (hb hby at_475) rfl rfl ?_
        refine own_goto (n := 480) X2 hx (hb hby at_476) (by decide) (by decide) ?_
        refine own_retN X2 hx lk hret (by simp) (hb hby at_480) (by decide) (by decide) ?_
        rw [e2]
        exact ⟨rfl, N2⟩
      · refine own_icmpNo (n := 437) XB hx (hb hby at_434) (Jvm.Free.XT.ii_lt_f c434) rfl ?_
        refine own_iload (n := 439) XB hx (hb hby at_437) rfl rfl ?_
        refine own_i2l (n := 440) XB hx (hb hby at_439) rfl ?_
        refine own_goto (n := 446) XB hx (hb hby at_440) (by decide) (by decide) ?_
        have hla : la = -1 := (ra0.resolve_right (fun z => z.elim (fun y => y.1 c417) (fun y => y.1 c417))).2.1
        have hlb : lb = gd := (rb0.resolve_left (fun z => c434 z.1)).elim (fun y => y.2.2.1) (fun y => y.2.2.1)
        refine own_lload (n := 448) XB hx (hb hby at_446) rfl rfl ?_
        have sa : SRC (-1 : Int64) (EA la) (XA la) (KA la) := by have q := own_src (l := la) Ba.1 Ba.2.1; rw [hla] at q ⊢; exact q
        have sb : SRC (gd.toInt64) (EA lb) (XA lb) (KA lb) := by rw [← hlb]; exact own_src Bb.1 Bb.2.1
        refine own_callS (n := 451) XB hx hZ hown (hw _ (List.mem_of_getElem? (i := 82) rfl)) (hw _ (List.mem_of_getElem? (i := 83) rfl)) (hw _ (List.mem_of_getElem? (i := 2) rfl)) (hw _ (List.mem_of_getElem? (i := 84) rfl)) (by decide) eB (rm11 l Z a0 hw [] (-1 : Int64) ja (gd.toInt64) jb ka.toInt.toNat kb.toInt.toNat (EA la) (EA lb) (XA la) (XA lb) (KA la) (KA lb) hB n0 ZB sa sb (own_nat Ba.2.2.1 hja) (own_nat Bb.2.2.1 hjb) (by have := Ba.2.2.2.1; omega) (by have := Bb.2.2.2.1; omega) (own_eab Ba) (own_eab Bb) (own_kaz Ba) (own_kaz Bb)) (W := 0) (by decide) (by decide) (by decide) (by decide) (by rw [hml]; rfl) (argsL := [(.long (-1 : Int64)), (.long ja), (.long (gd.toInt64)), (.long jb)]) (rest := []) pd_11 rfl (by rfl) (Nat.le_of_eq rfl) (hb hby at_448) rfl rfl ?_
        intro v3 T3 h3 L3 X3 e3 q3
        obtain ⟨w3, rfl, wa3, wb3, M3, rfl⟩ := q3
        have N3 := Fr.app NB M3
        refine own_istore (n := 453) X3 hx (hb hby at_451) (l' := #[.val (.int p1), .val (.int p2), .val (.int p3), .val (.int p4), .val (.int p5), .val (.int ma), .val (.int mb), .val (.int va), .val (.int vb), .val (.int vc), .val (.int vd), .val (.int ve), .val (.int (Nat.toInt32 on)), .val (.int (Nat.toInt32 on)), .val (.int ((Nat.toInt32 on) + (1 : Int32))), .val (.int ga), .val (.int gb), .val (.int gc), .val (.int gd), .val (.ref ra), .val (.int (1 : Int32)), .val (.int rr), .val (.int rr), .val (.long ja), .second, .val (.long jb), .second, .val (.int w3)]) rfl rfl ?_
        refine own_iload (n := 455) X3 hx (hb hby at_453) rfl rfl ?_
        refine own_ifNo (n := 458) X3 hx (hb hby at_455) (Jvm.Free.XT.i0_eq_f (by decide)) rfl ?_
        refine own_iload (n := 460) X3 hx (hb hby at_458) rfl rfl ?_
        refine own_iload (n := 462) X3 hx (hb hby at_460) rfl rfl ?_
        refine own_callS (n := 465) X3 hx hZ hown (hw _ (List.mem_of_getElem? (i := 85) rfl)) (hw _ (List.mem_of_getElem? (i := 86) rfl)) (hw _ (List.mem_of_getElem? (i := 2) rfl)) (hw _ (List.mem_of_getElem? (i := 87) rfl)) (by decide) e3 (rm12 l Z a0 hw [] w3 rr hB n0 ZB (GD _ wa3 wb3)) (W := 0) (by decide) (by decide) (by decide) (by decide) (by rw [hml]; rfl) (argsL := [(.int w3), (.int rr)]) (rest := []) pd_12 rfl (by rfl) (Nat.le_of_eq rfl) (hb hby at_462) rfl rfl ?_
        intro v4 T4 h4 L4 X4 e4 q4
        obtain ⟨rfl, M4, rfl⟩ := q4
        have N4 := Fr.app N3 M4
        refine own_ifNo (n := 468) X4 hx (hb hby at_465) (Jvm.Free.XT.i0_eq_f (by decide)) rfl ?_
        refine own_iload (n := 470) X4 hx (hb hby at_468) rfl rfl ?_
        refine own_iload (n := 472) X4 hx (hb hby at_470) rfl rfl ?_
        refine own_icmpNo (n := 475) X4 hx (hb hby at_472) (Jvm.Free.XT.ii_ne_f rfl) rfl ?_
        refine own_iconst (n := 476) X4 hx (1 : Int32) (hb hby at_475) rfl rfl ?_
        refine own_goto (n := 480) X4 hx (hb hby at_476) (by decide) (by decide) ?_
        refine own_retN X4 hx lk hret (by simp) (hb hby at_480) (by decide) (by decide) ?_
        rw [e4]
        exact ⟨rfl, N4⟩
    · refine own_icmpNo (n := 420) XB hx (hb hby at_417) (Jvm.Free.XT.ii_lt_f c417) rfl ?_
      refine own_iload (n := 422) XB hx (hb hby at_420) rfl rfl ?_
      refine own_i2l (n := 423) XB hx (hb hby at_422) rfl ?_
      refine own_goto (n := 429) XB hx (hb hby at_423) (by decide) (by decide) ?_
      refine own_lload (n := 431) XB hx (hb hby at_429) rfl rfl ?_
      refine own_iload (n := 433) XB hx (hb hby at_431) rfl rfl ?_
      refine own_iconst (n := 434) XB hx (1 : Int32) (hb hby at_433) rfl rfl ?_
      by_cases c434 : mb < (1 : Int32)
      · refine own_icmpYes (n := 443) XB hx (hb hby at_434) (Jvm.Free.XT.ii_lt_t c434) (by decide) (by decide) ?_
        refine own_ldc2_w (n := 446) XB hx hZ hown (hw _ (List.mem_of_getElem? (i := 81) rfl)) (hb hby at_443) rfl ?_
        have hla : la = gb := (ra0.resolve_left (fun z => c417 z.1)).elim (fun y => y.2.2.1) (fun y => y.2.2.1)
        have hlb : lb = -1 := (rb0.resolve_right (fun z => z.elim (fun y => y.1 c434) (fun y => y.1 c434))).2.1
        refine own_lload (n := 448) XB hx (hb hby at_446) rfl rfl ?_
        have sa : SRC (gb.toInt64) (EA la) (XA la) (KA la) := by rw [← hla]; exact own_src Ba.1 Ba.2.1
        have sb : SRC (-1 : Int64) (EA lb) (XA lb) (KA lb) := by have q := own_src (l := lb) Bb.1 Bb.2.1; rw [hlb] at q ⊢; exact q
        refine own_callS (n := 451) XB hx hZ hown (hw _ (List.mem_of_getElem? (i := 82) rfl)) (hw _ (List.mem_of_getElem? (i := 83) rfl)) (hw _ (List.mem_of_getElem? (i := 2) rfl)) (hw _ (List.mem_of_getElem? (i := 84) rfl)) (by decide) eB (rm11 l Z a0 hw [] (gb.toInt64) ja (-1 : Int64) jb ka.toInt.toNat kb.toInt.toNat (EA la) (EA lb) (XA la) (XA lb) (KA la) (KA lb) hB n0 ZB sa sb (own_nat Ba.2.2.1 hja) (own_nat Bb.2.2.1 hjb) (by have := Ba.2.2.2.1; omega) (by have := Bb.2.2.2.1; omega) (own_eab Ba) (own_eab Bb) (own_kaz Ba) (own_kaz Bb)) (W := 0) (by decide) (by decide) (by decide) (by decide) (by rw [hml]; rfl) (argsL := [(.long (gb.toInt64)), (.long ja), (.long (-1 : Int64)), (.long jb)]) (rest := []) pd_11 rfl (by rfl) (Nat.le_of_eq rfl) (hb hby at_448) rfl rfl ?_
        intro v5 T5 h5 L5 X5 e5 q5
        obtain ⟨w5, rfl, wa5, wb5, M5, rfl⟩ := q5
        have N5 := Fr.app NB M5
        refine own_istore (n := 453) X5 hx (hb hby at_451) (l' := #[.val (.int p1), .val (.int p2), .val (.int p3), .val (.int p4), .val (.int p5), .val (.int ma), .val (.int mb), .val (.int va), .val (.int vb), .val (.int vc), .val (.int vd), .val (.int ve), .val (.int (Nat.toInt32 on)), .val (.int (Nat.toInt32 on)), .val (.int ((Nat.toInt32 on) + (1 : Int32))), .val (.int ga), .val (.int gb), .val (.int gc), .val (.int gd), .val (.ref ra), .val (.int (1 : Int32)), .val (.int rr), .val (.int rr), .val (.long ja), .second, .val (.long jb), .second, .val (.int w5)]) rfl rfl ?_
        refine own_iload (n := 455) X5 hx (hb hby at_453) rfl rfl ?_
        refine own_ifNo (n := 458) X5 hx (hb hby at_455) (Jvm.Free.XT.i0_eq_f (by decide)) rfl ?_
        refine own_iload (n := 460) X5 hx (hb hby at_458) rfl rfl ?_
        refine own_iload (n := 462) X5 hx (hb hby at_460) rfl rfl ?_
        refine own_callS (n := 465) X5 hx hZ hown (hw _ (List.mem_of_getElem? (i := 85) rfl)) (hw _ (List.mem_of_getElem? (i := 86) rfl)) (hw _ (List.mem_of_getElem? (i := 2) rfl)) (hw _ (List.mem_of_getElem? (i := 87) rfl)) (by decide) e5 (rm12 l Z a0 hw [] w5 rr hB n0 ZB (GD _ wa5 wb5)) (W := 0) (by decide) (by decide) (by decide) (by decide) (by rw [hml]; rfl) (argsL := [(.int w5), (.int rr)]) (rest := []) pd_12 rfl (by rfl) (Nat.le_of_eq rfl) (hb hby at_462) rfl rfl ?_
        intro v6 T6 h6 L6 X6 e6 q6
        obtain ⟨rfl, M6, rfl⟩ := q6
        have N6 := Fr.app N5 M6
        refine own_ifNo (n := 468) X6 hx (hb hby at_465) (Jvm.Free.XT.i0_eq_f (by decide)) rfl ?_
        refine own_iload (n := 470) X6 hx (hb hby at_468) rfl rfl ?_
        refine own_iload (n := 472) X6 hx (hb hby at_470) rfl rfl ?_
        refine own_icmpNo (n := 475) X6 hx (hb hby at_472) (Jvm.Free.XT.ii_ne_f rfl) rfl ?_
        refine own_iconst (n := 476) X6 hx (1 : Int32) (hb hby at_475) rfl rfl ?_
        refine own_goto (n := 480) X6 hx (hb hby at_476) (by decide) (by decide) ?_
        refine own_retN X6 hx lk hret (by simp) (hb hby at_480) (by decide) (by decide) ?_
        rw [e6]
        exact ⟨rfl, N6⟩
      · refine own_icmpNo (n := 437) XB hx (hb hby at_434) (Jvm.Free.XT.ii_lt_f c434) rfl ?_
        refine own_iload (n := 439) XB hx (hb hby at_437) rfl rfl ?_
        refine own_i2l (n := 440) XB hx (hb hby at_439) rfl ?_
        refine own_goto (n := 446) XB hx (hb hby at_440) (by decide) (by decide) ?_
        have hla : la = gb := (ra0.resolve_left (fun z => c417 z.1)).elim (fun y => y.2.2.1) (fun y => y.2.2.1)
        have hlb : lb = gd := (rb0.resolve_left (fun z => c434 z.1)).elim (fun y => y.2.2.1) (fun y => y.2.2.1)
        refine own_lload (n := 448) XB hx (hb hby at_446) rfl rfl ?_
        have sa : SRC (gb.toInt64) (EA la) (XA la) (KA la) := by rw [← hla]; exact own_src Ba.1 Ba.2.1
        have sb : SRC (gd.toInt64) (EA lb) (XA lb) (KA lb) := by rw [← hlb]; exact own_src Bb.1 Bb.2.1
        refine own_callS (n := 451) XB hx hZ hown (hw _ (List.mem_of_getElem? (i := 82) rfl)) (hw _ (List.mem_of_getElem? (i := 83) rfl)) (hw _ (List.mem_of_getElem? (i := 2) rfl)) (hw _ (List.mem_of_getElem? (i := 84) rfl)) (by decide) eB (rm11 l Z a0 hw [] (gb.toInt64) ja (gd.toInt64) jb ka.toInt.toNat kb.toInt.toNat (EA la) (EA lb) (XA la) (XA lb) (KA la) (KA lb) hB n0 ZB sa sb (own_nat Ba.2.2.1 hja) (own_nat Bb.2.2.1 hjb) (by have := Ba.2.2.2.1; omega) (by have := Bb.2.2.2.1; omega) (own_eab Ba) (own_eab Bb) (own_kaz Ba) (own_kaz Bb)) (W := 0) (by decide) (by decide) (by decide) (by decide) (by rw [hml]; rfl) (argsL := [(.long (gb.toInt64)), (.long ja), (.long (gd.toInt64)), (.long jb)]) (rest := []) pd_11 rfl (by rfl) (Nat.le_of_eq rfl) (hb hby at_448) rfl rfl ?_
        intro v7 T7 h7 L7 X7 e7 q7
        obtain ⟨w7, rfl, wa7, wb7, M7, rfl⟩ := q7
        have N7 := Fr.app NB M7
        refine own_istore (n := 453) X7 hx (hb hby at_451) (l' := #[.val (.int p1), .val (.int p2), .val (.int p3), .val (.int p4), .val (.int p5), .val (.int ma), .val (.int mb), .val (.int va), .val (.int vb), .val (.int vc), .val (.int vd), .val (.int ve), .val (.int (Nat.toInt32 on)), .val (.int (Nat.toInt32 on)), .val (.int ((Nat.toInt32 on) + (1 : Int32))), .val (.int ga), .val (.int gb), .val (.int gc), .val (.int gd), .val (.ref ra), .val (.int (1 : Int32)), .val (.int rr), .val (.int rr), .val (.long ja), .second, .val (.long jb), .second, .val (.int w7)]) rfl rfl ?_
        refine own_iload (n := 455) X7 hx (hb hby at_453) rfl rfl ?_
        refine own_ifNo (n := 458) X7 hx (hb hby at_455) (Jvm.Free.XT.i0_eq_f (by decide)) rfl ?_
        refine own_iload (n := 460) X7 hx (hb hby at_458) rfl rfl ?_
        refine own_iload (n := 462) X7 hx (hb hby at_460) rfl rfl ?_
        refine own_callS (n := 465) X7 hx hZ hown (hw _ (List.mem_of_getElem? (i := 85) rfl)) (hw _ (List.mem_of_getElem? (i := 86) rfl)) (hw _ (List.mem_of_getElem? (i := 2) rfl)) (hw _ (List.mem_of_getElem? (i := 87) rfl)) (by decide) e7 (rm12 l Z a0 hw [] w7 rr hB n0 ZB (GD _ wa7 wb7)) (W := 0) (by decide) (by decide) (by decide) (by decide) (by rw [hml]; rfl) (argsL := [(.int w7), (.int rr)]) (rest := []) pd_12 rfl (by rfl) (Nat.le_of_eq rfl) (hb hby at_462) rfl rfl ?_
        intro v8 T8 h8 L8 X8 e8 q8
        obtain ⟨rfl, M8, rfl⟩ := q8
        have N8 := Fr.app N7 M8
        refine own_ifNo (n := 468) X8 hx (hb hby at_465) (Jvm.Free.XT.i0_eq_f (by decide)) rfl ?_
        refine own_iload (n := 470) X8 hx (hb hby at_468) rfl rfl ?_
        refine own_iload (n := 472) X8 hx (hb hby at_470) rfl rfl ?_
        refine own_icmpNo (n := 475) X8 hx (hb hby at_472) (Jvm.Free.XT.ii_ne_f rfl) rfl ?_
        refine own_iconst (n := 476) X8 hx (1 : Int32) (hb hby at_475) rfl rfl ?_
        refine own_goto (n := 480) X8 hx (hb hby at_476) (by decide) (by decide) ?_
        refine own_retN X8 hx lk hret (by simp) (hb hby at_480) (by decide) (by decide) ?_
        rw [e8]
        exact ⟨rfl, N8⟩
  have ky : ∀ (TB : State) (hB : Heap) (lB : List Loc) (ma : Int32) (mb : Int32) (va : Int32) (vb : Int32) (vc : Int32) (vd : Int32) (ve : Int32) (on : Nat) (ga : Int32) (gb : Int32) (gc : Int32) (gd : Int32) (ra : Addr) (la : Int32) (ka : Int32) (lb : Int32) (kb : Int32) (rr : Int32) (ja : Int64) (XB : Stand p l e room_1 s m #[(.int p1), (.int p2), (.int p3), (.int p4), (.int p5)] below meth c TB lB (34) (190)) (eB : TB.heap = hB) (NB : Fr n0 lB) (ZB : n0 ≤ hB.size) (hma : 0 ≤ ma.toInt ∧ ma.toInt ≤ 2) (hmb : 0 ≤ mb.toInt ∧ mb.toInt ≤ 2) (hva : va = 0 ∨ va = 1) (hvb : vb = 0 ∨ vb = 1) (hvc : vc = 0 ∨ vc = 1) (hvd : vd = 0 ∨ vd = 1) (hve : ve = 0 ∨ ve = 1) (hon : on < 2) (hga : 0 ≤ ga.toInt ∧ ga.toInt < 536870912) (hgb : 0 ≤ gb.toInt ∧ gb.toInt < 536870912 ∧ (ma = 2 → ga.toInt < gb.toInt) ∧ (¬ ma = 2 → gb = ga)) (hgc : 0 ≤ gc.toInt ∧ gc.toInt < 536870912) (hgd : 0 ≤ gd.toInt ∧ gd.toInt < 536870912 ∧ (mb = 2 → gc.toInt < gd.toInt) ∧ (¬ mb = 2 → gd = gc)) (OB : Old Z n0 hB) (GD : GOOD la ka lb kb rr) (Ba : BND la ka) (Bb : BND lb kb) (ra0 : (ma < 1 ∧ la = -1 ∧ ka.toInt = 0) ∨ (¬ ma < 1 ∧ ¬ ma = 2 ∧ la = gb ∧ ka.toInt = va.toInt) ∨ (¬ ma < 1 ∧ ma = 2 ∧ la = gb ∧ ka.toInt = va.toInt + vb.toInt)) (rb0 : (mb < 1 ∧ lb = -1 ∧ kb.toInt = 0) ∨ (¬ mb < 1 ∧ ¬ mb = 2 ∧ lb = gd ∧ kb.toInt = vc.toInt) ∨ (¬ mb < 1 ∧ mb = 2 ∧ lb = gd ∧ kb.toInt = vc.toInt + vd.toInt)) (hja : ja.toInt = ka.toInt), Ends p e below (EF s 72 320) (Q0 Z p1 p2 p3 p4 p5  h0 n0) (TB.setTop (mkF m 378 #[.val (.int p1), .val (.int p2), .val (.int p3), .val (.int p4), .val (.int p5), .val (.int ma), .val (.int mb), .val (.int va), .val (.int vb), .val (.int vc), .val (.int vd), .val (.int ve), .val (.int (Nat.toInt32 on)), .val (.int (Nat.toInt32 on)), .val (.int ((Nat.toInt32 on) + (1 : Int32))), .val (.int ga), .val (.int gb), .val (.int gc), .val (.int gd), .val (.ref ra), .val (.int (1 : Int32)), .val (.int rr), .val (.int rr), .val (.long ja), .second, .unset, .unset, .unset] [])) := by
    intro TB hB lB ma mb va vb vc vd ve on ga gb gc gd ra la ka lb kb rr ja XB eB NB ZB hma hmb hva hvb hvc hvd hve hon hga hgb hgc hgd OB GD Ba Bb ra0 rb0 hja
    refine own_iload (n := 380) XB hx (hb hby at_378) rfl rfl ?_
    refine own_iconst (n := 381) XB hx (1 : Int32) (hb hby at_380) rfl rfl ?_
    by_cases c381 : mb < (1 : Int32)
    · refine own_icmpYes (n := 393) XB hx (hb hby at_381) (Jvm.Free.XT.ii_lt_t c381) (by decide) (by decide) ?_
      refine own_iconst (n := 394) XB hx (0 : Int32) (hb hby at_393) rfl rfl ?_
      refine own_iload (n := 396) XB hx (hb hby at_394) rfl rfl ?_
      refine own_iconst (n := 397) XB hx (2 : Int32) (hb hby at_396) rfl rfl ?_
      refine own_icmpYes (n := 409) XB hx (hb hby at_397) (Jvm.Free.XT.ii_ne_t (fun z => by rw [z] at c381; exact absurd c381 (by decide))) (by decide) (by decide) ?_
      refine own_iconst (n := 410) XB hx (0 : Int32) (hb hby at_409) rfl rfl ?_
      refine own_iadd (n := 411) XB hx (hb hby at_410) rfl ?_
      refine own_i2l (n := 412) XB hx (hb hby at_411) rfl ?_
      refine own_lstore (n := 414) XB hx (hb hby at_412) (l' := #[.val (.int p1), .val (.int p2), .val (.int p3), .val (.int p4), .val (.int p5), .val (.int ma), .val (.int mb), .val (.int va), .val (.int vb), .val (.int vc), .val (.int vd), .val (.int ve), .val (.int (Nat.toInt32 on)), .val (.int (Nat.toInt32 on)), .val (.int ((Nat.toInt32 on) + (1 : Int32))), .val (.int ga), .val (.int gb), .val (.int gc), .val (.int gd), .val (.ref ra), .val (.int (1 : Int32)), .val (.int rr), .val (.int rr), .val (.long ja), .second, .val (.long (((0 : Int32) + (0 : Int32)).toInt64)), .second, .unset]) rfl rfl ?_
      show Ends p e below (EF s 72 320) (Q0 Z p1 p2 p3 p4 p5  h0 n0) (TB.setTop (mkF m 414 #[.val (.int p1), .val (.int p2), .val (.int p3), .val (.int p4), .val (.int p5), .val (.int ma), .val (.int mb), .val (.int va), .val (.int vb), .val (.int vc), .val (.int vd), .val (.int ve), .val (.int (Nat.toInt32 on)), .val (.int (Nat.toInt32 on)), .val (.int ((Nat.toInt32 on) + (1 : Int32))), .val (.int ga), .val (.int gb), .val (.int gc), .val (.int gd), .val (.ref ra), .val (.int (1 : Int32)), .val (.int rr), .val (.int rr), .val (.long ja), .second, .val (.long (((0 : Int32) + (0 : Int32)).toInt64)), .second, .unset] []))
      exact kz _ _ _ ma mb va vb vc vd ve on ga gb gc gd ra la ka lb kb rr ja _ (own_more XB (by decide) (by decide)) eB NB ZB hma hmb hva hvb hvc hvd hve hon hga hgb hgc hgd OB GD Ba Bb ra0 rb0 hja (by rw [(rb0.resolve_right (fun z => z.elim (fun y => y.1 c381) (fun y => y.1 c381))).2.2]; decide)
    · refine own_icmpNo (n := 384) XB hx (hb hby at_381) (Jvm.Free.XT.ii_lt_f c381) rfl ?_
      refine own_iload (n := 386) XB hx (hb hby at_384) rfl rfl ?_
      by_cases c386 : vc = 0
      · refine own_ifYes (n := 393) XB hx (hb hby at_386) (Jvm.Free.XT.i0_eq_t c386) (by decide) (by decide) ?_
        refine own_iconst (n := 394) XB hx (0 : Int32) (hb hby at_393) rfl rfl ?_
        refine own_iload (n := 396) XB hx (hb hby at_394) rfl rfl ?_
        refine own_iconst (n := 397) XB hx (2 : Int32) (hb hby at_396) rfl rfl ?_
        by_cases c397 : mb = (2 : Int32)
        · refine own_icmpNo (n := 400) XB hx (hb hby at_397) (Jvm.Free.XT.ii_ne_f c397) rfl ?_
          refine own_iload (n := 402) XB hx (hb hby at_400) rfl rfl ?_
          by_cases c402 : vd = 0
          · refine own_ifYes (n := 409) XB hx (hb hby at_402) (Jvm.Free.XT.i0_eq_t c402) (by decide) (by decide) ?_
            refine own_iconst (n := 410) XB hx (0 : Int32) (hb hby at_409) rfl rfl ?_
            refine own_iadd (n := 411) XB hx (hb hby at_410) rfl ?_
            refine own_i2l (n := 412) XB hx (hb hby at_411) rfl ?_
            refine own_lstore (n := 414) XB hx (hb hby at_412) (l' := #[.val (.int p1), .val (.int p2), .val (.int p3), .val (.int p4), .val (.int p5), .val (.int ma), .val (.int mb), .val (.int va), .val (.int vb), .val (.int vc), .val (.int vd), .val (.int ve), .val (.int (Nat.toInt32 on)), .val (.int (Nat.toInt32 on)), .val (.int ((Nat.toInt32 on) + (1 : Int32))), .val (.int ga), .val (.int gb), .val (.int gc), .val (.int gd), .val (.ref ra), .val (.int (1 : Int32)), .val (.int rr), .val (.int rr), .val (.long ja), .second, .val (.long (((0 : Int32) + (0 : Int32)).toInt64)), .second, .unset]) rfl rfl ?_
            show Ends p e below (EF s 72 320) (Q0 Z p1 p2 p3 p4 p5  h0 n0) (TB.setTop (mkF m 414 #[.val (.int p1), .val (.int p2), .val (.int p3), .val (.int p4), .val (.int p5), .val (.int ma), .val (.int mb), .val (.int va), .val (.int vb), .val (.int vc), .val (.int vd), .val (.int ve), .val (.int (Nat.toInt32 on)), .val (.int (Nat.toInt32 on)), .val (.int ((Nat.toInt32 on) + (1 : Int32))), .val (.int ga), .val (.int gb), .val (.int gc), .val (.int gd), .val (.ref ra), .val (.int (1 : Int32)), .val (.int rr), .val (.int rr), .val (.long ja), .second, .val (.long (((0 : Int32) + (0 : Int32)).toInt64)), .second, .unset] []))
            exact kz _ _ _ ma mb va vb vc vd ve on ga gb gc gd ra la ka lb kb rr ja _ (own_more XB (by decide) (by decide)) eB NB ZB hma hmb hva hvb hvc hvd hve hon hga hgb hgc hgd OB GD Ba Bb ra0 rb0 hja (by rw [((rb0.resolve_left (fun z => c381 z.1)).resolve_left (fun z => z.2.1 c397)).2.2.2, c386, c402]; decide)
          · refine own_ifNo (n := 405) XB hx (hb hby at_402) (Jvm.Free.XT.i0_eq_f c402) rfl ?_
            refine own_iconst (n := 406) XB hx (1 : Int32) (hb hby at_405) rfl rfl ?_
            refine own_goto (n := 410) XB hx (hb hby at_406) (by decide) (by decide) ?_
            refine own_iadd (n := 411) XB hx (hb hby at_410) rfl ?_
            refine own_i2l (n := 412) XB hx (hb hby at_411) rfl ?_
            refine own_lstore (n := 414) XB hx (hb hby at_412) (l' := #[.val (.int p1), .val (.int p2), .val (.int p3), .val (.int p4), .val (.int p5), .val (.int ma), .val (.int mb), .val (.int va), .val (.int vb), .val (.int vc), .val (.int vd), .val (.int ve), .val (.int (Nat.toInt32 on)), .val (.int (Nat.toInt32 on)), .val (.int ((Nat.toInt32 on) + (1 : Int32))), .val (.int ga), .val (.int gb), .val (.int gc), .val (.int gd), .val (.ref ra), .val (.int (1 : Int32)), .val (.int rr), .val (.int rr), .val (.long ja), .second, .val (.long (((0 : Int32) + (1 : Int32)).toInt64)), .second, .unset]) rfl rfl ?_
            show Ends p e below (EF s 72 320) (Q0 Z p1 p2 p3 p4 p5  h0 n0) (TB.setTop (mkF m 414 #[.val (.int p1), .val (.int p2), .val (.int p3), .val (.int p4), .val (.int p5), .val (.int ma), .val (.int mb), .val (.int va), .val (.int vb), .val (.int vc), .val (.int vd), .val (.int ve), .val (.int (Nat.toInt32 on)), .val (.int (Nat.toInt32 on)), .val (.int ((Nat.toInt32 on) + (1 : Int32))), .val (.int ga), .val (.int gb), .val (.int gc), .val (.int gd), .val (.ref ra), .val (.int (1 : Int32)), .val (.int rr), .val (.int rr), .val (.long ja), .second, .val (.long (((0 : Int32) + (1 : Int32)).toInt64)), .second, .unset] []))
            exact kz _ _ _ ma mb va vb vc vd ve on ga gb gc gd ra la ka lb kb rr ja _ (own_more XB (by decide) (by decide)) eB NB ZB hma hmb hva hvb hvc hvd hve hon hga hgb hgc hgd OB GD Ba Bb ra0 rb0 hja (by rw [((rb0.resolve_left (fun z => c381 z.1)).resolve_left (fun z => z.2.1 c397)).2.2.2, c386, (hvd.resolve_left c402)]; decide)
        · refine own_icmpYes (n := 409) XB hx (hb hby at_397) (Jvm.Free.XT.ii_ne_t c397) (by decide) (by decide) ?_
          refine own_iconst (n := 410) XB hx (0 : Int32) (hb hby at_409) rfl rfl ?_
          refine own_iadd (n := 411) XB hx (hb hby at_410) rfl ?_
          refine own_i2l (n := 412) XB hx (hb hby at_411) rfl ?_
          refine own_lstore (n := 414) XB hx (hb hby at_412) (l' := #[.val (.int p1), .val (.int p2), .val (.int p3), .val (.int p4), .val (.int p5), .val (.int ma), .val (.int mb), .val (.int va), .val (.int vb), .val (.int vc), .val (.int vd), .val (.int ve), .val (.int (Nat.toInt32 on)), .val (.int (Nat.toInt32 on)), .val (.int ((Nat.toInt32 on) + (1 : Int32))), .val (.int ga), .val (.int gb), .val (.int gc), .val (.int gd), .val (.ref ra), .val (.int (1 : Int32)), .val (.int rr), .val (.int rr), .val (.long ja), .second, .val (.long (((0 : Int32) + (0 : Int32)).toInt64)), .second, .unset]) rfl rfl ?_
          show Ends p e below (EF s 72 320) (Q0 Z p1 p2 p3 p4 p5  h0 n0) (TB.setTop (mkF m 414 #[.val (.int p1), .val (.int p2), .val (.int p3), .val (.int p4), .val (.int p5), .val (.int ma), .val (.int mb), .val (.int va), .val (.int vb), .val (.int vc), .val (.int vd), .val (.int ve), .val (.int (Nat.toInt32 on)), .val (.int (Nat.toInt32 on)), .val (.int ((Nat.toInt32 on) + (1 : Int32))), .val (.int ga), .val (.int gb), .val (.int gc), .val (.int gd), .val (.ref ra), .val (.int (1 : Int32)), .val (.int rr), .val (.int rr), .val (.long ja), .second, .val (.long (((0 : Int32) + (0 : Int32)).toInt64)), .second, .unset] []))
          exact kz _ _ _ ma mb va vb vc vd ve on ga gb gc gd ra la ka lb kb rr ja _ (own_more XB (by decide) (by decide)) eB NB ZB hma hmb hva hvb hvc hvd hve hon hga hgb hgc hgd OB GD Ba Bb ra0 rb0 hja (by rw [((rb0.resolve_left (fun z => c381 z.1)).resolve_right (fun z => c397 z.2.1)).2.2.2, c386]; decide)
      · refine own_ifNo (n := 389) XB hx (hb hby at_386) (Jvm.Free.XT.i0_eq_f c386) rfl ?_
        refine own_iconst (n := 390) XB hx (1 : Int32) (hb hby at_389) rfl rfl ?_
        refine own_goto (n := 394) XB hx (hb hby at_390) (by decide) (by decide) ?_
        refine own_iload (n := 396) XB hx (hb hby at_394) rfl rfl ?_
        refine own_iconst (n := 397) XB hx (2 : Int32) (hb hby at_396) rfl rfl ?_
        by_cases c397 : mb = (2 : Int32)
        · refine own_icmpNo (n := 400) XB hx (hb hby at_397) (Jvm.Free.XT.ii_ne_f c397) rfl ?_
          refine own_iload (n := 402) XB hx (hb hby at_400) rfl rfl ?_
          by_cases c402 : vd = 0
          · refine own_ifYes (n := 409) XB hx (hb hby at_402) (Jvm.Free.XT.i0_eq_t c402) (by decide) (by decide) ?_
            refine own_iconst (n := 410) XB hx (0 : Int32) (hb hby at_409) rfl rfl ?_
            refine own_iadd (n := 411) XB hx (hb hby at_410) rfl ?_
            refine own_i2l (n := 412) XB hx (hb hby at_411) rfl ?_
            refine own_lstore (n := 414) XB hx (hb hby at_412) (l' := #[.val (.int p1), .val (.int p2), .val (.int p3), .val (.int p4), .val (.int p5), .val (.int ma), .val (.int mb), .val (.int va), .val (.int vb), .val (.int vc), .val (.int vd), .val (.int ve), .val (.int (Nat.toInt32 on)), .val (.int (Nat.toInt32 on)), .val (.int ((Nat.toInt32 on) + (1 : Int32))), .val (.int ga), .val (.int gb), .val (.int gc), .val (.int gd), .val (.ref ra), .val (.int (1 : Int32)), .val (.int rr), .val (.int rr), .val (.long ja), .second, .val (.long (((1 : Int32) + (0 : Int32)).toInt64)), .second, .unset]) rfl rfl ?_
            show Ends p e below (EF s 72 320) (Q0 Z p1 p2 p3 p4 p5  h0 n0) (TB.setTop (mkF m 414 #[.val (.int p1), .val (.int p2), .val (.int p3), .val (.int p4), .val (.int p5), .val (.int ma), .val (.int mb), .val (.int va), .val (.int vb), .val (.int vc), .val (.int vd), .val (.int ve), .val (.int (Nat.toInt32 on)), .val (.int (Nat.toInt32 on)), .val (.int ((Nat.toInt32 on) + (1 : Int32))), .val (.int ga), .val (.int gb), .val (.int gc), .val (.int gd), .val (.ref ra), .val (.int (1 : Int32)), .val (.int rr), .val (.int rr), .val (.long ja), .second, .val (.long (((1 : Int32) + (0 : Int32)).toInt64)), .second, .unset] []))
            exact kz _ _ _ ma mb va vb vc vd ve on ga gb gc gd ra la ka lb kb rr ja _ (own_more XB (by decide) (by decide)) eB NB ZB hma hmb hva hvb hvc hvd hve hon hga hgb hgc hgd OB GD Ba Bb ra0 rb0 hja (by rw [((rb0.resolve_left (fun z => c381 z.1)).resolve_left (fun z => z.2.1 c397)).2.2.2, (hvc.resolve_left c386), c402]; decide)
          · refine own_ifNo (n := 405) XB hx (hb hby at_402) (Jvm.Free.XT.i0_eq_f c402) rfl ?_
            refine own_iconst (n := 406) XB hx (1 : Int32) (hb hby at_405) rfl rfl ?_
            refine own_goto (n := 410) XB hx (hb hby at_406) (by decide) (by decide) ?_
            refine own_iadd (n := 411) XB hx (hb hby at_410) rfl ?_
            refine own_i2l (n := 412) XB hx (hb hby at_411) rfl ?_
            refine own_lstore (n := 414) XB hx (hb hby at_412) (l' := #[.val (.int p1), .val (.int p2), .val (.int p3), .val (.int p4), .val (.int p5), .val (.int ma), .val (.int mb), .val (.int va), .val (.int vb), .val (.int vc), .val (.int vd), .val (.int ve), .val (.int (Nat.toInt32 on)), .val (.int (Nat.toInt32 on)), .val (.int ((Nat.toInt32 on) + (1 : Int32))), .val (.int ga), .val (.int gb), .val (.int gc), .val (.int gd), .val (.ref ra), .val (.int (1 : Int32)), .val (.int rr), .val (.int rr), .val (.long ja), .second, .val (.long (((1 : Int32) + (1 : Int32)).toInt64)), .second, .unset]) rfl rfl ?_
            show Ends p e below (EF s 72 320) (Q0 Z p1 p2 p3 p4 p5  h0 n0) (TB.setTop (mkF m 414 #[.val (.int p1), .val (.int p2), .val (.int p3), .val (.int p4), .val (.int p5), .val (.int ma), .val (.int mb), .val (.int va), .val (.int vb), .val (.int vc), .val (.int vd), .val (.int ve), .val (.int (Nat.toInt32 on)), .val (.int (Nat.toInt32 on)), .val (.int ((Nat.toInt32 on) + (1 : Int32))), .val (.int ga), .val (.int gb), .val (.int gc), .val (.int gd), .val (.ref ra), .val (.int (1 : Int32)), .val (.int rr), .val (.int rr), .val (.long ja), .second, .val (.long (((1 : Int32) + (1 : Int32)).toInt64)), .second, .unset] []))
            exact kz _ _ _ ma mb va vb vc vd ve on ga gb gc gd ra la ka lb kb rr ja _ (own_more XB (by decide) (by decide)) eB NB ZB hma hmb hva hvb hvc hvd hve hon hga hgb hgc hgd OB GD Ba Bb ra0 rb0 hja (by rw [((rb0.resolve_left (fun z => c381 z.1)).resolve_left (fun z => z.2.1 c397)).2.2.2, (hvc.resolve_left c386), (hvd.resolve_left c402)]; decide)
        · refine own_icmpYes (n := 409) XB hx (hb hby at_397) (Jvm.Free.XT.ii_ne_t c397) (by decide) (by decide) ?_
          refine own_iconst (n := 410) XB hx (0 : Int32) (hb hby at_409) rfl rfl ?_
          refine own_iadd (n := 411) XB hx (hb hby at_410) rfl ?_
          refine own_i2l (n := 412) XB hx (hb hby at_411) rfl ?_
          refine own_lstore (n := 414) XB hx (hb hby at_412) (l' := #[.val (.int p1), .val (.int p2), .val (.int p3), .val (.int p4), .val (.int p5), .val (.int ma), .val (.int mb), .val (.int va), .val (.int vb), .val (.int vc), .val (.int vd), .val (.int ve), .val (.int (Nat.toInt32 on)), .val (.int (Nat.toInt32 on)), .val (.int ((Nat.toInt32 on) + (1 : Int32))), .val (.int ga), .val (.int gb), .val (.int gc), .val (.int gd), .val (.ref ra), .val (.int (1 : Int32)), .val (.int rr), .val (.int rr), .val (.long ja), .second, .val (.long (((1 : Int32) + (0 : Int32)).toInt64)), .second, .unset]) rfl rfl ?_
          show Ends p e below (EF s 72 320) (Q0 Z p1 p2 p3 p4 p5  h0 n0) (TB.setTop (mkF m 414 #[.val (.int p1), .val (.int p2), .val (.int p3), .val (.int p4), .val (.int p5), .val (.int ma), .val (.int mb), .val (.int va), .val (.int vb), .val (.int vc), .val (.int vd), .val (.int ve), .val (.int (Nat.toInt32 on)), .val (.int (Nat.toInt32 on)), .val (.int ((Nat.toInt32 on) + (1 : Int32))), .val (.int ga), .val (.int gb), .val (.int gc), .val (.int gd), .val (.ref ra), .val (.int (1 : Int32)), .val (.int rr), .val (.int rr), .val (.long ja), .second, .val (.long (((1 : Int32) + (0 : Int32)).toInt64)), .second, .unset] []))
          exact kz _ _ _ ma mb va vb vc vd ve on ga gb gc gd ra la ka lb kb rr ja _ (own_more XB (by decide) (by decide)) eB NB ZB hma hmb hva hvb hvc hvd hve hon hga hgb hgc hgd OB GD Ba Bb ra0 rb0 hja (by rw [((rb0.resolve_left (fun z => c381 z.1)).resolve_right (fun z => c397 z.2.1)).2.2.2, (hvc.resolve_left c386)]; decide)
  have kx : ∀ (TB : State) (hB : Heap) (lB : List Loc) (ma : Int32) (mb : Int32) (va : Int32) (vb : Int32) (vc : Int32) (vd : Int32) (ve : Int32) (on : Nat) (ga : Int32) (gb : Int32) (gc : Int32) (gd : Int32) (ra : Addr) (la : Int32) (ka : Int32) (lb : Int32) (kb : Int32) (rr : Int32) (XB : Stand p l e room_1 s m #[(.int p1), (.int p2), (.int p3), (.int p4), (.int p5)] below meth c TB lB (34) (190)) (eB : TB.heap = hB) (NB : Fr n0 lB) (ZB : n0 ≤ hB.size) (hma : 0 ≤ ma.toInt ∧ ma.toInt ≤ 2) (hmb : 0 ≤ mb.toInt ∧ mb.toInt ≤ 2) (hva : va = 0 ∨ va = 1) (hvb : vb = 0 ∨ vb = 1) (hvc : vc = 0 ∨ vc = 1) (hvd : vd = 0 ∨ vd = 1) (hve : ve = 0 ∨ ve = 1) (hon : on < 2) (hga : 0 ≤ ga.toInt ∧ ga.toInt < 536870912) (hgb : 0 ≤ gb.toInt ∧ gb.toInt < 536870912 ∧ (ma = 2 → ga.toInt < gb.toInt) ∧ (¬ ma = 2 → gb = ga)) (hgc : 0 ≤ gc.toInt ∧ gc.toInt < 536870912) (hgd : 0 ≤ gd.toInt ∧ gd.toInt < 536870912 ∧ (mb = 2 → gc.toInt < gd.toInt) ∧ (¬ mb = 2 → gd = gc)) (OB : Old Z n0 hB) (GD : GOOD la ka lb kb rr) (Ba : BND la ka) (Bb : BND lb kb) (ra0 : (ma < 1 ∧ la = -1 ∧ ka.toInt = 0) ∨ (¬ ma < 1 ∧ ¬ ma = 2 ∧ la = gb ∧ ka.toInt = va.toInt) ∨ (¬ ma < 1 ∧ ma = 2 ∧ la = gb ∧ ka.toInt = va.toInt + vb.toInt)) (rb0 : (mb < 1 ∧ lb = -1 ∧ kb.toInt = 0) ∨ (¬ mb < 1 ∧ ¬ mb = 2 ∧ lb = gd ∧ kb.toInt = vc.toInt) ∨ (¬ mb < 1 ∧ mb = 2 ∧ lb = gd ∧ kb.toInt = vc.toInt + vd.toInt)), Ends p e below (EF s 72 320) (Q0 Z p1 p2 p3 p4 p5  h0 n0) (TB.setTop (mkF m 342 #[.val (.int p1), .val (.int p2), .val (.int p3), .val (.int p4), .val (.int p5), .val (.int ma), .val (.int mb), .val (.int va), .val (.int vb), .val (.int vc), .val (.int vd), .val (.int ve), .val (.int (Nat.toInt32 on)), .val (.int (Nat.toInt32 on)), .val (.int ((Nat.toInt32 on) + (1 : Int32))), .val (.int ga), .val (.int gb), .val (.int gc), .val (.int gd), .val (.ref ra), .val (.int (1 : Int32)), .val (.int rr), .val (.int rr), .unset, .unset, .unset, .unset, .unset] [])) := by
    intro TB hB lB ma mb va vb vc vd ve on ga gb gc gd ra la ka lb kb rr XB eB NB ZB hma hmb hva hvb hvc hvd hve hon hga hgb hgc hgd OB GD Ba Bb ra0 rb0
    refine own_iload (n := 344) XB hx (hb hby at_342) rfl rfl ?_
    refine own_iconst (n := 345) XB hx (1 : Int32) (hb hby at_344) rfl rfl ?_
    by_cases c345 : ma < (1 : Int32)
    · refine own_icmpYes (n := 357) XB hx (hb hby at_345) (Jvm.Free.XT.ii_lt_t c345) (by decide) (by decide) ?_
      refine own_iconst (n := 358) XB hx (0 : Int32) (hb hby at_357) rfl rfl ?_
      refine own_iload (n := 360) XB hx (hb hby at_358) rfl rfl ?_
      refine own_iconst (n := 361) XB hx (2 : Int32) (hb hby at_360) rfl rfl ?_
      refine own_icmpYes (n := 373) XB hx (hb hby at_361) (Jvm.Free.XT.ii_ne_t (fun z => by rw [z] at c345; exact absurd c345 (by decide))) (by decide) (by decide) ?_
      refine own_iconst (n := 374) XB hx (0 : Int32) (hb hby at_373) rfl rfl ?_
      refine own_iadd (n := 375) XB hx (hb hby at_374) rfl ?_
      refine own_i2l (n := 376) XB hx (hb hby at_375) rfl ?_
      refine own_lstore (n := 378) XB hx (hb hby at_376) (l' := #[.val (.int p1), .val (.int p2), .val (.int p3), .val (.int p4), .val (.int p5), .val (.int ma), .val (.int mb), .val (.int va), .val (.int vb), .val (.int vc), .val (.int vd), .val (.int ve), .val (.int (Nat.toInt32 on)), .val (.int (Nat.toInt32 on)), .val (.int ((Nat.toInt32 on) + (1 : Int32))), .val (.int ga), .val (.int gb), .val (.int gc), .val (.int gd), .val (.ref ra), .val (.int (1 : Int32)), .val (.int rr), .val (.int rr), .val (.long (((0 : Int32) + (0 : Int32)).toInt64)), .second, .unset, .unset, .unset]) rfl rfl ?_
      show Ends p e below (EF s 72 320) (Q0 Z p1 p2 p3 p4 p5  h0 n0) (TB.setTop (mkF m 378 #[.val (.int p1), .val (.int p2), .val (.int p3), .val (.int p4), .val (.int p5), .val (.int ma), .val (.int mb), .val (.int va), .val (.int vb), .val (.int vc), .val (.int vd), .val (.int ve), .val (.int (Nat.toInt32 on)), .val (.int (Nat.toInt32 on)), .val (.int ((Nat.toInt32 on) + (1 : Int32))), .val (.int ga), .val (.int gb), .val (.int gc), .val (.int gd), .val (.ref ra), .val (.int (1 : Int32)), .val (.int rr), .val (.int rr), .val (.long (((0 : Int32) + (0 : Int32)).toInt64)), .second, .unset, .unset, .unset] []))
      exact ky _ _ _ ma mb va vb vc vd ve on ga gb gc gd ra la ka lb kb rr _ (own_more XB (by decide) (by decide)) eB NB ZB hma hmb hva hvb hvc hvd hve hon hga hgb hgc hgd OB GD Ba Bb ra0 rb0 (by rw [(ra0.resolve_right (fun z => z.elim (fun y => y.1 c345) (fun y => y.1 c345))).2.2]; decide)
    · refine own_icmpNo (n := 348) XB hx (hb hby at_345) (Jvm.Free.XT.ii_lt_f c345) rfl ?_
      refine own_iload (n := 350) XB hx (hb hby at_348) rfl rfl ?_
      by_cases c350 : va = 0
      · refine own_ifYes (n := 357) XB hx (hb hby at_350) (Jvm.Free.XT.i0_eq_t c350) (by decide) (by decide) ?_
        refine own_iconst (n := 358) XB hx (0 : Int32) (hb hby at_357) rfl rfl ?_
        refine own_iload (n := 360) XB hx (hb hby at_358) rfl rfl ?_
        refine own_iconst (n := 361) XB hx (2 : Int32) (hb hby at_360) rfl rfl ?_
        by_cases c361 : ma = (2 : Int32)
        · refine own_icmpNo (n := 364) XB hx (hb hby at_361) (Jvm.Free.XT.ii_ne_f c361) rfl ?_
          refine own_iload (n := 366) XB hx (hb hby at_364) rfl rfl ?_
          by_cases c366 : vb = 0
          · refine own_ifYes (n := 373) XB hx (hb hby at_366) (Jvm.Free.XT.i0_eq_t c366) (by decide) (by decide) ?_
            refine own_iconst (n := 374) XB hx (0 : Int32) (hb hby at_373) rfl rfl ?_
            refine own_iadd (n := 375) XB hx (hb hby at_374) rfl ?_
            refine own_i2l (n := 376) XB hx (hb hby at_375) rfl ?_
            refine own_lstore (n := 378) XB hx (hb hby at_376) (l' := #[.val (.int p1), .val (.int p2), .val (.int p3), .val (.int p4), .val (.int p5), .val (.int ma), .val (.int mb), .val (.int va), .val (.int vb), .val (.int vc), .val (.int vd), .val (.int ve), .val (.int (Nat.toInt32 on)), .val (.int (Nat.toInt32 on)), .val (.int ((Nat.toInt32 on) + (1 : Int32))), .val (.int ga), .val (.int gb), .val (.int gc), .val (.int gd), .val (.ref ra), .val (.int (1 : Int32)), .val (.int rr), .val (.int rr), .val (.long (((0 : Int32) + (0 : Int32)).toInt64)), .second, .unset, .unset, .unset]) rfl rfl ?_
            show Ends p e below (EF s 72 320) (Q0 Z p1 p2 p3 p4 p5  h0 n0) (TB.setTop (mkF m 378 #[.val (.int p1), .val (.int p2), .val (.int p3), .val (.int p4), .val (.int p5), .val (.int ma), .val (.int mb), .val (.int va), .val (.int vb), .val (.int vc), .val (.int vd), .val (.int ve), .val (.int (Nat.toInt32 on)), .val (.int (Nat.toInt32 on)), .val (.int ((Nat.toInt32 on) + (1 : Int32))), .val (.int ga), .val (.int gb), .val (.int gc), .val (.int gd), .val (.ref ra), .val (.int (1 : Int32)), .val (.int rr), .val (.int rr), .val (.long (((0 : Int32) + (0 : Int32)).toInt64)), .second, .unset, .unset, .unset] []))
            exact ky _ _ _ ma mb va vb vc vd ve on ga gb gc gd ra la ka lb kb rr _ (own_more XB (by decide) (by decide)) eB NB ZB hma hmb hva hvb hvc hvd hve hon hga hgb hgc hgd OB GD Ba Bb ra0 rb0 (by rw [((ra0.resolve_left (fun z => c345 z.1)).resolve_left (fun z => z.2.1 c361)).2.2.2, c350, c366]; decide)
          · refine own_ifNo (n := 369) XB hx (hb hby at_366) (Jvm.Free.XT.i0_eq_f c366) rfl ?_
            refine own_iconst (n := 370) XB hx (1 : Int32) (hb hby at_369) rfl rfl ?_
            refine own_goto (n := 374) XB hx (hb hby at_370) (by decide) (by decide) ?_
            refine own_iadd (n := 375) XB hx (hb hby at_374) rfl ?_
            refine own_i2l (n := 376) XB hx (hb hby at_375) rfl ?_
            refine own_lstore (n := 378) XB hx (hb hby at_376) (l' := #[.val (.int p1), .val (.int p2), .val (.int p3), .val (.int p4), .val (.int p5), .val (.int ma), .val (.int mb), .val (.int va), .val (.int vb), .val (.int vc), .val (.int vd), .val (.int ve), .val (.int (Nat.toInt32 on)), .val (.int (Nat.toInt32 on)), .val (.int ((Nat.toInt32 on) + (1 : Int32))), .val (.int ga), .val (.int gb), .val (.int gc), .val (.int gd), .val (.ref ra), .val (.int (1 : Int32)), .val (.int rr), .val (.int rr), .val (.long (((0 : Int32) + (1 : Int32)).toInt64)), .second, .unset, .unset, .unset]) rfl rfl ?_
            show Ends p e below (EF s 72 320) (Q0 Z p1 p2 p3 p4 p5  h0 n0) (TB.setTop (mkF m 378 #[.val (.int p1), .val (.int p2), .val (.int p3), .val (.int p4), .val (.int p5), .val (.int ma), .val (.int mb), .val (.int va), .val (.int vb), .val (.int vc), .val (.int vd), .val (.int ve), .val (.int (Nat.toInt32 on)), .val (.int (Nat.toInt32 on)), .val (.int ((Nat.toInt32 on) + (1 : Int32))), .val (.int ga), .val (.int gb), .val (.int gc), .val (.int gd), .val (.ref ra), .val (.int (1 : Int32)), .val (.int rr), .val (.int rr), .val (.long (((0 : Int32) + (1 : Int32)).toInt64)), .second, .unset, .unset, .unset] []))
            exact ky _ _ _ ma mb va vb vc vd ve on ga gb gc gd ra la ka lb kb rr _ (own_more XB (by decide) (by decide)) eB NB ZB hma hmb hva hvb hvc hvd hve hon hga hgb hgc hgd OB GD Ba Bb ra0 rb0 (by rw [((ra0.resolve_left (fun z => c345 z.1)).resolve_left (fun z => z.2.1 c361)).2.2.2, c350, (hvb.resolve_left c366)]; decide)
        · refine own_icmpYes (n := 373) XB hx (hb hby at_361) (Jvm.Free.XT.ii_ne_t c361) (by decide) (by decide) ?_
          refine own_iconst (n := 374) XB hx (0 : Int32) (hb hby at_373) rfl rfl ?_
          refine own_iadd (n := 375) XB hx (hb hby at_374) rfl ?_
          refine own_i2l (n := 376) XB hx (hb hby at_375) rfl ?_
          refine own_lstore (n := 378) XB hx (hb hby at_376) (l' := #[.val (.int p1), .val (.int p2), .val (.int p3), .val (.int p4), .val (.int p5), .val (.int ma), .val (.int mb), .val (.int va), .val (.int vb), .val (.int vc), .val (.int vd), .val (.int ve), .val (.int (Nat.toInt32 on)), .val (.int (Nat.toInt32 on)), .val (.int ((Nat.toInt32 on) + (1 : Int32))), .val (.int ga), .val (.int gb), .val (.int gc), .val (.int gd), .val (.ref ra), .val (.int (1 : Int32)), .val (.int rr), .val (.int rr), .val (.long (((0 : Int32) + (0 : Int32)).toInt64)), .second, .unset, .unset, .unset]) rfl rfl ?_
          show Ends p e below (EF s 72 320) (Q0 Z p1 p2 p3 p4 p5  h0 n0) (TB.setTop (mkF m 378 #[.val (.int p1), .val (.int p2), .val (.int p3), .val (.int p4), .val (.int p5), .val (.int ma), .val (.int mb), .val (.int va), .val (.int vb), .val (.int vc), .val (.int vd), .val (.int ve), .val (.int (Nat.toInt32 on)), .val (.int (Nat.toInt32 on)), .val (.int ((Nat.toInt32 on) + (1 : Int32))), .val (.int ga), .val (.int gb), .val (.int gc), .val (.int gd), .val (.ref ra), .val (.int (1 : Int32)), .val (.int rr), .val (.int rr), .val (.long (((0 : Int32) + (0 : Int32)).toInt64)), .second, .unset, .unset, .unset] []))
          exact ky _ _ _ ma mb va vb vc vd ve on ga gb gc gd ra la ka lb kb rr _ (own_more XB (by decide) (by decide)) eB NB ZB hma hmb hva hvb hvc hvd hve hon hga hgb hgc hgd OB GD Ba Bb ra0 rb0 (by rw [((ra0.resolve_left (fun z => c345 z.1)).resolve_right (fun z => c361 z.2.1)).2.2.2, c350]; decide)
      · refine own_ifNo (n := 353) XB hx (hb hby at_350) (Jvm.Free.XT.i0_eq_f c350) rfl ?_
        refine own_iconst (n := 354) XB hx (1 : Int32) (hb hby at_353) rfl rfl ?_
        refine own_goto (n := 358) XB hx (hb hby at_354) (by decide) (by decide) ?_
        refine own_iload (n := 360) XB hx (hb hby at_358) rfl rfl ?_
        refine own_iconst (n := 361) XB hx (2 : Int32) (hb hby at_360) rfl rfl ?_
        by_cases c361 : ma = (2 : Int32)
        · refine own_icmpNo (n := 364) XB hx (hb hby at_361) (Jvm.Free.XT.ii_ne_f c361) rfl ?_
          refine own_iload (n := 366) XB hx (hb hby at_364) rfl rfl ?_
          by_cases c366 : vb = 0
          · refine own_ifYes (n := 373) XB hx (hb hby at_366) (Jvm.Free.XT.i0_eq_t c366) (by decide) (by decide) ?_
            refine own_iconst (n := 374) XB hx (0 : Int32) (hb hby at_373) rfl rfl ?_
            refine own_iadd (n := 375) XB hx (hb hby at_374) rfl ?_
            refine own_i2l (n := 376) XB hx (hb hby at_375) rfl ?_
            refine own_lstore (n := 378) XB hx (hb hby at_376) (l' := #[.val (.int p1), .val (.int p2), .val (.int p3), .val (.int p4), .val (.int p5), .val (.int ma), .val (.int mb), .val (.int va), .val (.int vb), .val (.int vc), .val (.int vd), .val (.int ve), .val (.int (Nat.toInt32 on)), .val (.int (Nat.toInt32 on)), .val (.int ((Nat.toInt32 on) + (1 : Int32))), .val (.int ga), .val (.int gb), .val (.int gc), .val (.int gd), .val (.ref ra), .val (.int (1 : Int32)), .val (.int rr), .val (.int rr), .val (.long (((1 : Int32) + (0 : Int32)).toInt64)), .second, .unset, .unset, .unset]) rfl rfl ?_
            show Ends p e below (EF s 72 320) (Q0 Z p1 p2 p3 p4 p5  h0 n0) (TB.setTop (mkF m 378 #[.val (.int p1), .val (.int p2), .val (.int p3), .val (.int p4), .val (.int p5), .val (.int ma), .val (.int mb), .val (.int va), .val (.int vb), .val (.int vc), .val (.int vd), .val (.int ve), .val (.int (Nat.toInt32 on)), .val (.int (Nat.toInt32 on)), .val (.int ((Nat.toInt32 on) + (1 : Int32))), .val (.int ga), .val (.int gb), .val (.int gc), .val (.int gd), .val (.ref ra), .val (.int (1 : Int32)), .val (.int rr), .val (.int rr), .val (.long (((1 : Int32) + (0 : Int32)).toInt64)), .second, .unset, .unset, .unset] []))
            exact ky _ _ _ ma mb va vb vc vd ve on ga gb gc gd ra la ka lb kb rr _ (own_more XB (by decide) (by decide)) eB NB ZB hma hmb hva hvb hvc hvd hve hon hga hgb hgc hgd OB GD Ba Bb ra0 rb0 (by rw [((ra0.resolve_left (fun z => c345 z.1)).resolve_left (fun z => z.2.1 c361)).2.2.2, (hva.resolve_left c350), c366]; decide)
          · refine own_ifNo (n := 369) XB hx (hb hby at_366) (Jvm.Free.XT.i0_eq_f c366) rfl ?_
            refine own_iconst (n := 370) XB hx (1 : Int32) (hb hby at_369) rfl rfl ?_
            refine own_goto (n := 374) XB hx (hb hby at_370) (by decide) (by decide) ?_
            refine own_iadd (n := 375) XB hx (hb hby at_374) rfl ?_
            refine own_i2l (n := 376) XB hx (hb hby at_375) rfl ?_
            refine own_lstore (n := 378) XB hx (hb hby at_376) (l' := #[.val (.int p1), .val (.int p2), .val (.int p3), .val (.int p4), .val (.int p5), .val (.int ma), .val (.int mb), .val (.int va), .val (.int vb), .val (.int vc), .val (.int vd), .val (.int ve), .val (.int (Nat.toInt32 on)), .val (.int (Nat.toInt32 on)), .val (.int ((Nat.toInt32 on) + (1 : Int32))), .val (.int ga), .val (.int gb), .val (.int gc), .val (.int gd), .val (.ref ra), .val (.int (1 : Int32)), .val (.int rr), .val (.int rr), .val (.long (((1 : Int32) + (1 : Int32)).toInt64)), .second, .unset, .unset, .unset]) rfl rfl ?_
            show Ends p e below (EF s 72 320) (Q0 Z p1 p2 p3 p4 p5  h0 n0) (TB.setTop (mkF m 378 #[.val (.int p1), .val (.int p2), .val (.int p3), .val (.int p4), .val (.int p5), .val (.int ma), .val (.int mb), .val (.int va), .val (.int vb), .val (.int vc), .val (.int vd), .val (.int ve), .val (.int (Nat.toInt32 on)), .val (.int (Nat.toInt32 on)), .val (.int ((Nat.toInt32 on) + (1 : Int32))), .val (.int ga), .val (.int gb), .val (.int gc), .val (.int gd), .val (.ref ra), .val (.int (1 : Int32)), .val (.int rr), .val (.int rr), .val (.long (((1 : Int32) + (1 : Int32)).toInt64)), .second, .unset, .unset, .unset] []))
            exact ky _ _ _ ma mb va vb vc vd ve on ga gb gc gd ra la ka lb kb rr _ (own_more XB (by decide) (by decide)) eB NB ZB hma hmb hva hvb hvc hvd hve hon hga hgb hgc hgd OB GD Ba Bb ra0 rb0 (by rw [((ra0.resolve_left (fun z => c345 z.1)).resolve_left (fun z => z.2.1 c361)).2.2.2, (hva.resolve_left c350), (hvb.resolve_left c366)]; decide)
        · refine own_icmpYes (n := 373) XB hx (hb hby at_361) (Jvm.Free.XT.ii_ne_t c361) (by decide) (by decide) ?_
          refine own_iconst (n := 374) XB hx (0 : Int32) (hb hby at_373) rfl rfl ?_
          refine own_iadd (n := 375) XB hx (hb hby at_374) rfl ?_
          refine own_i2l (n := 376) XB hx (hb hby at_375) rfl ?_
          refine own_lstore (n := 378) XB hx (hb hby at_376) (l' := #[.val (.int p1), .val (.int p2), .val (.int p3), .val (.int p4), .val (.int p5), .val (.int ma), .val (.int mb), .val (.int va), .val (.int vb), .val (.int vc), .val (.int vd), .val (.int ve), .val (.int (Nat.toInt32 on)), .val (.int (Nat.toInt32 on)), .val (.int ((Nat.toInt32 on) + (1 : Int32))), .val (.int ga), .val (.int gb), .val (.int gc), .val (.int gd), .val (.ref ra), .val (.int (1 : Int32)), .val (.int rr), .val (.int rr), .val (.long (((1 : Int32) + (0 : Int32)).toInt64)), .second, .unset, .unset, .unset]) rfl rfl ?_
          show Ends p e below (EF s 72 320) (Q0 Z p1 p2 p3 p4 p5  h0 n0) (TB.setTop (mkF m 378 #[.val (.int p1), .val (.int p2), .val (.int p3), .val (.int p4), .val (.int p5), .val (.int ma), .val (.int mb), .val (.int va), .val (.int vb), .val (.int vc), .val (.int vd), .val (.int ve), .val (.int (Nat.toInt32 on)), .val (.int (Nat.toInt32 on)), .val (.int ((Nat.toInt32 on) + (1 : Int32))), .val (.int ga), .val (.int gb), .val (.int gc), .val (.int gd), .val (.ref ra), .val (.int (1 : Int32)), .val (.int rr), .val (.int rr), .val (.long (((1 : Int32) + (0 : Int32)).toInt64)), .second, .unset, .unset, .unset] []))
          exact ky _ _ _ ma mb va vb vc vd ve on ga gb gc gd ra la ka lb kb rr _ (own_more XB (by decide) (by decide)) eB NB ZB hma hmb hva hvb hvc hvd hve hon hga hgb hgc hgd OB GD Ba Bb ra0 rb0 (by rw [((ra0.resolve_left (fun z => c345 z.1)).resolve_right (fun z => c361 z.2.1)).2.2.2, (hva.resolve_left c350)]; decide)
  have kw : ∀ (TB : State) (hB : Heap) (lB : List Loc) (ma : Int32) (mb : Int32) (va : Int32) (vb : Int32) (vc : Int32) (vd : Int32) (ve : Int32) (on : Nat) (ga : Int32) (gb : Int32) (gc : Int32) (gd : Int32) (ra : Addr) (la : Int32) (ka : Int32) (lb : Int32) (kb : Int32) (kn : Int32) (av : Int32) (ob : Nat) (sx : Slot) (sy : Slot) (XB : Stand p l e room_1 s m #[(.int p1), (.int p2), (.int p3), (.int p4), (.int p5)] below meth c TB lB (34) (190)) (eB : TB.heap = hB) (NB : Fr n0 lB) (ZB : n0 ≤ hB.size) (hma : 0 ≤ ma.toInt ∧ ma.toInt ≤ 2) (hmb : 0 ≤ mb.toInt ∧ mb.toInt ≤ 2) (hva : va = 0 ∨ va = 1) (hvb : vb = 0 ∨ vb = 1) (hvc : vc = 0 ∨ vc = 1) (hvd : vd = 0 ∨ vd = 1) (hve : ve = 0 ∨ ve = 1) (hon : on < 2) (hga : 0 ≤ ga.toInt ∧ ga.toInt < 536870912) (hgb : 0 ≤ gb.toInt ∧ gb.toInt < 536870912 ∧ (ma = 2 → ga.toInt < gb.toInt) ∧ (¬ ma = 2 → gb = ga)) (hgc : 0 ≤ gc.toInt ∧ gc.toInt < 536870912) (hgd : 0 ≤ gd.toInt ∧ gd.toInt < 536870912 ∧ (mb = 2 → gc.toInt < gd.toInt) ∧ (¬ mb = 2 → gd = gc)) (OB : Old Z n0 hB) (CL : CRL Z hB n0 ra on la ka lb kb kn av ob) (Ba : BND la ka) (Bb : BND lb kb) (kv : KV kn av la ka lb kb) (ra0 : (ma < 1 ∧ la = -1 ∧ ka.toInt = 0) ∨ (¬ ma < 1 ∧ ¬ ma = 2 ∧ la = gb ∧ ka.toInt = va.toInt) ∨ (¬ ma < 1 ∧ ma = 2 ∧ la = gb ∧ ka.toInt = va.toInt + vb.toInt)) (rb0 : (mb < 1 ∧ lb = -1 ∧ kb.toInt = 0) ∨ (¬ mb < 1 ∧ ¬ mb = 2 ∧ lb = gd ∧ kb.toInt = vc.toInt) ∨ (¬ mb < 1 ∧ mb = 2 ∧ lb = gd ∧ kb.toInt = vc.toInt + vd.toInt)) (hob : ob ≤ 4) (hsx : One sx) (hsy : One sy), Ends p e below (EF s 72 320) (Q0 Z p1 p2 p3 p4 p5  h0 n0) (TB.setTop (mkF m 328 #[.val (.int p1), .val (.int p2), .val (.int p3), .val (.int p4), .val (.int p5), .val (.int ma), .val (.int mb), .val (.int va), .val (.int vb), .val (.int vc), .val (.int vd), .val (.int ve), .val (.int (Nat.toInt32 on)), .val (.int (Nat.toInt32 on)), .val (.int ((Nat.toInt32 on) + (1 : Int32))), .val (.int ga), .val (.int gb), .val (.int gc), .val (.int gd), .val (.ref ra), .val (.int (1 : Int32)), sx, sy, .unset, .unset, .unset, .unset, .unset] [])) := by
    intro TB hB lB ma mb va vb vc vd ve on ga gb gc gd ra la ka lb kb kn av ob sx sy XB eB NB ZB hma hmb hva hvb hvc hvd hve hon hga hgb hgc hgd OB CL Ba Bb kv ra0 rb0 hob hsx hsy
    refine own_aload (n := 330) XB hx (hb hby at_328) rfl rfl rfl ?_
    obtain ⟨lastf, chg, dsp, fs, pc, ps, S, hel, hec, ed, e1z, efs, epc, eps⟩ := CL
    have hA := own_alk hon ed e1z efs epc eps Ba Bb
    refine own_callV (n := 333) XB hx hZ hown (hw _ (List.mem_of_getElem? (i := 66) rfl)) (hw _ (List.mem_of_getElem? (i := 67) rfl)) (hw _ (List.mem_of_getElem? (i := 69) rfl)) (hw _ (List.mem_of_getElem? (i := 68) rfl)) (hw _ (List.mem_of_getElem? (i := 10) rfl)) (hw _ (List.mem_of_getElem? (i := 70) rfl)) (by decide) eB S.exa (rm9 l Z a0 hw [] ra (2 + on) lastf chg dsp fs pc ps kn av ob hB n0 ZB OB S (by omega) hA.1 kv.1 kv.2.1) (W := 0) (by decide) (by decide) (by decide) (by decide) (by rw [hml]; rfl) (argsL := []) (rest := []) pd_9 rfl (by rfl) (Nat.le_of_eq rfl) (hb hby at_330) rfl rfl ?_
    intro v9 T9 h9 L9 X9 e9 q9
    obtain ⟨r9, rfl, h019, M9, OL9, S9, hka9, hkb9⟩ := q9
    have N9 := Fr.app NB M9
    have Z9 := own_oldz OL9
    have GD : GOOD la ka lb kb r9 := kv.1.elim (fun z w => hA.2 r9 w (hkb9 z)) (fun z => by rw [hka9 z]; exact kv.2.2 z)
    have CL9 : CRL Z h9 n0 ra on la ka lb kb 1 r9 ob := ⟨lastf, chg, dsp, fs, pc, ps, S9, hel, hec, ed, e1z, efs, epc, eps⟩
    have kv9 : KV 1 r9 la ka lb kb := ⟨Or.inr rfl, h019, fun _ => GD⟩
    refine own_istore (n := 335) X9 hx (hb hby at_333) (l' := #[.val (.int p1), .val (.int p2), .val (.int p3), .val (.int p4), .val (.int p5), .val (.int ma), .val (.int mb), .val (.int va), .val (.int vb), .val (.int vc), .val (.int vd), .val (.int ve), .val (.int (Nat.toInt32 on)), .val (.int (Nat.toInt32 on)), .val (.int ((Nat.toInt32 on) + (1 : Int32))), .val (.int ga), .val (.int gb), .val (.int gc), .val (.int gd), .val (.ref ra), .val (.int (1 : Int32)), .val (.int r9), sy, .unset, .unset, .unset, .unset, .unset]) (by rcases hsx with rfl | ⟨w, rfl, hw⟩ <;> first | rfl | (cases w <;> first | rfl | (simp [Value.category] at hw))) rfl ?_
    refine own_aload (n := 337) X9 hx (hb hby at_335) rfl rfl rfl ?_
    obtain ⟨lastf, chg, dsp, fs, pc, ps, S, hel, hec, ed, e1z, efs, epc, eps⟩ := CL9
    have hA := own_alk hon ed e1z efs epc eps Ba Bb
    refine own_callV (n := 340) X9 hx hZ hown (hw _ (List.mem_of_getElem? (i := 66) rfl)) (hw _ (List.mem_of_getElem? (i := 67) rfl)) (hw _ (List.mem_of_getElem? (i := 69) rfl)) (hw _ (List.mem_of_getElem? (i := 68) rfl)) (hw _ (List.mem_of_getElem? (i := 10) rfl)) (hw _ (List.mem_of_getElem? (i := 70) rfl)) (by decide) e9 S.exa (rm9 l Z a0 hw [] ra (2 + on) lastf chg dsp fs pc ps 1 r9 ob h9 n0 Z9 OL9 S (by omega) hA.1 kv9.1 kv9.2.1) (W := 0) (by decide) (by decide) (by decide) (by decide) (by rw [hml]; rfl) (argsL := []) (rest := []) pd_9 rfl (by rfl) (Nat.le_of_eq rfl) (hb hby at_337) rfl rfl ?_
    intro v10 T10 h10 L10 X10 e10 q10
    obtain ⟨r10, rfl, h0110, M10, OL10, S10, hka10, hkb10⟩ := q10
    have N10 := Fr.app N9 M10
    have Z10 := own_oldz OL10
    rw [hka10 rfl]
    refine own_istore (n := 342) X10 hx (hb hby at_340) (l' := #[.val (.int p1), .val (.int p2), .val (.int p3), .val (.int p4), .val (.int p5), .val (.int ma), .val (.int mb), .val (.int va), .val (.int vb), .val (.int vc), .val (.int vd), .val (.int ve), .val (.int (Nat.toInt32 on)), .val (.int (Nat.toInt32 on)), .val (.int ((Nat.toInt32 on) + (1 : Int32))), .val (.int ga), .val (.int gb), .val (.int gc), .val (.int gd), .val (.ref ra), .val (.int (1 : Int32)), .val (.int r9), .val (.int r9), .unset, .unset, .unset, .unset, .unset]) (by rcases hsy with rfl | ⟨w, rfl, hw⟩ <;> first | rfl | (cases w <;> first | rfl | (simp [Value.category] at hw))) rfl ?_
    show Ends p e below (EF s 72 320) (Q0 Z p1 p2 p3 p4 p5  h0 n0) (T10.setTop (mkF m 342 #[.val (.int p1), .val (.int p2), .val (.int p3), .val (.int p4), .val (.int p5), .val (.int ma), .val (.int mb), .val (.int va), .val (.int vb), .val (.int vc), .val (.int vd), .val (.int ve), .val (.int (Nat.toInt32 on)), .val (.int (Nat.toInt32 on)), .val (.int ((Nat.toInt32 on) + (1 : Int32))), .val (.int ga), .val (.int gb), .val (.int gc), .val (.int gd), .val (.ref ra), .val (.int (1 : Int32)), .val (.int r9), .val (.int r9), .unset, .unset, .unset, .unset, .unset] []))
    exact kx _ _ _ ma mb va vb vc vd ve on ga gb gc gd ra la ka lb kb r9 (own_more X10 (by decide) (by decide)) e10 N10 Z10 hma hmb hva hvb hvc hvd hve hon hga hgb hgc hgd OL10 GD Ba Bb ra0 rb0
  have kv_ : ∀ (TB : State) (hB : Heap) (lB : List Loc) (ma : Int32) (mb : Int32) (va : Int32) (vb : Int32) (vc : Int32) (vd : Int32) (ve : Int32) (on : Nat) (ga : Int32) (gb : Int32) (gc : Int32) (gd : Int32) (ra : Addr) (la : Int32) (ka : Int32) (lb : Int32) (kb : Int32) (kn : Int32) (av : Int32) (ob : Nat) (sx : Slot) (sy : Slot) (XB : Stand p l e room_1 s m #[(.int p1), (.int p2), (.int p3), (.int p4), (.int p5)] below meth c TB lB (30) (158)) (eB : TB.heap = hB) (NB : Fr n0 lB) (ZB : n0 ≤ hB.size) (hma : 0 ≤ ma.toInt ∧ ma.toInt ≤ 2) (hmb : 0 ≤ mb.toInt ∧ mb.toInt ≤ 2) (hva : va = 0 ∨ va = 1) (hvb : vb = 0 ∨ vb = 1) (hvc : vc = 0 ∨ vc = 1) (hvd : vd = 0 ∨ vd = 1) (hve : ve = 0 ∨ ve = 1) (hon : on < 2) (hga : 0 ≤ ga.toInt ∧ ga.toInt < 536870912) (hgb : 0 ≤ gb.toInt ∧ gb.toInt < 536870912 ∧ (ma = 2 → ga.toInt < gb.toInt) ∧ (¬ ma = 2 → gb = ga)) (hgc : 0 ≤ gc.toInt ∧ gc.toInt < 536870912) (hgd : 0 ≤ gd.toInt ∧ gd.toInt < 536870912 ∧ (mb = 2 → gc.toInt < gd.toInt) ∧ (¬ mb = 2 → gd = gc)) (OB : Old Z n0 hB) (CL : CRL Z hB n0 ra on la ka lb kb kn av ob) (Ba : BND la ka) (Bb : BND lb kb) (kv : KV kn av la ka lb kb) (ra0 : (ma < 1 ∧ la = -1 ∧ ka.toInt = 0) ∨ (¬ ma < 1 ∧ ¬ ma = 2 ∧ la = gb ∧ ka.toInt = va.toInt) ∨ (¬ ma < 1 ∧ ma = 2 ∧ la = gb ∧ ka.toInt = va.toInt + vb.toInt)) (rb0 : (mb < 1 ∧ lb = -1 ∧ kb.toInt = 0) ∨ (¬ mb < 1 ∧ lb = gc ∧ kb.toInt = vc.toInt)) (hob : ob ≤ 3) (hsx : One sx) (hsy : One sy), Ends p e below (EF s 72 320) (Q0 Z p1 p2 p3 p4 p5  h0 n0) (TB.setTop (mkF m 311 #[.val (.int p1), .val (.int p2), .val (.int p3), .val (.int p4), .val (.int p5), .val (.int ma), .val (.int mb), .val (.int va), .val (.int vb), .val (.int vc), .val (.int vd), .val (.int ve), .val (.int (Nat.toInt32 on)), .val (.int (Nat.toInt32 on)), .val (.int ((Nat.toInt32 on) + (1 : Int32))), .val (.int ga), .val (.int gb), .val (.int gc), .val (.int gd), .val (.ref ra), .val (.int (1 : Int32)), sx, sy, .unset, .unset, .unset, .unset, .unset] [])) := by
    intro TB hB lB ma mb va vb vc vd ve on ga gb gc gd ra la ka lb kb kn av ob sx sy XB eB NB ZB hma hmb hva hvb hvc hvd hve hon hga hgb hgc hgd OB CL Ba Bb kv ra0 rb0 hob hsx hsy
    refine own_iload (n := 313) XB hx (hb hby at_311) rfl rfl ?_
    refine own_iconst (n := 314) XB hx (2 : Int32) (hb hby at_313) rfl rfl ?_
    by_cases c314 : mb = (2 : Int32)
    · refine own_icmpNo (n := 317) XB hx (hb hby at_314) (Jvm.Free.XT.ii_ne_f c314) rfl ?_
      refine own_aload (n := 319) XB hx (hb hby at_317) rfl rfl rfl ?_
      refine own_iload (n := 321) XB hx (hb hby at_319) rfl rfl ?_
      refine own_iload (n := 323) XB hx (hb hby at_321) rfl rfl ?_
      refine own_iload (n := 325) XB hx (hb hby at_323) rfl rfl ?_
      obtain ⟨lastf, chg, dsp, fs, pc, ps, S, hel, hec, ed, e1z, efs, epc, eps⟩ := CL
      have hlt : lb < gd := by have hl := (rb0.resolve_left (fun z => by rw [c314] at z; exact absurd z.1 (by decide))).2.1; rw [Int32.lt_iff_toInt_lt, hl]; exact hgd.2.2.1 c314
      have hck : 0 ≤ kb.toInt ∧ kb.toInt ≤ 1 := by have hl := (rb0.resolve_left (fun z => by rw [c314] at z; exact absurd z.1 (by decide))).2.2; have f3 := own_ob3 hvc; omega
      refine own_callV (n := 328) XB hx hZ hown (hw _ (List.mem_of_getElem? (i := 88) rfl)) (hw _ (List.mem_of_getElem? (i := 89) rfl)) (hw _ (List.mem_of_getElem? (i := 91) rfl)) (hw _ (List.mem_of_getElem? (i := 90) rfl)) (hw _ (List.mem_of_getElem? (i := 10) rfl)) (hw _ (List.mem_of_getElem? (i := 92) rfl)) (by decide) eB S.exa (rm13 l Z a0 hw [] ra gd ((Nat.toInt32 on) + (1 : Int32)) vd (2 + on) lastf chg dsp fs pc ps kn av ob (on + 1) hB n0 ZB OB S (by omega) (own_add1 (len_toInt (by omega)) (by omega)) (by omega) (by omega) (by rw [hel.2]; exact hlt) (fun z => by have q := hgd; rw [z] at q; have o : (2147483647 : Int32).toInt = 2147483647 := rfl; omega) hgd.1 (by rw [hec.2]; exact hck.1) (by rw [hec.2]; exact hck.2)) (W := 0) (by decide) (by decide) (by decide) (by decide) (by rw [hml]; rfl) (argsL := [(.int gd), (.int ((Nat.toInt32 on) + (1 : Int32))), (.int vd)]) (rest := []) pd_13 rfl (by rfl) (Nat.le_of_eq rfl) (hb hby at_325) rfl rfl ?_
      intro v11 T11 h11 L11 X11 e11 q11
      obtain ⟨rfl, M11, OL11, R11⟩ := q11
      have N11 := Fr.app NB M11
      have Z11 := own_oldz OL11
      have CN := own_ob1 R11 hel hec ed e1z efs epc eps Ba Bb hck.2 hgd.1 hgd.2.1
      have cv := own_cv hvd hck.1 hck.2
      have f3 := own_ob3 hvd
      show Ends p e below (EF s 72 320) (Q0 Z p1 p2 p3 p4 p5  h0 n0) (T11.setTop (mkF m 328 #[.val (.int p1), .val (.int p2), .val (.int p3), .val (.int p4), .val (.int p5), .val (.int ma), .val (.int mb), .val (.int va), .val (.int vb), .val (.int vc), .val (.int vd), .val (.int ve), .val (.int (Nat.toInt32 on)), .val (.int (Nat.toInt32 on)), .val (.int ((Nat.toInt32 on) + (1 : Int32))), .val (.int ga), .val (.int gb), .val (.int gc), .val (.int gd), .val (.ref ra), .val (.int (1 : Int32)), sx, sy, .unset, .unset, .unset, .unset, .unset] []))
      exact kw _ _ _ ma mb va vb vc vd ve on ga gb gc gd ra la ka gd (if vd = 0 then kb else kb + 1) 0 av (ob + 1) sx sy (own_more X11 (by decide) (by decide)) e11 N11 Z11 hma hmb hva hvb hvc hvd hve hon hga hgb hgc hgd OL11 CN Ba ⟨by have := hgd.1; omega, hgd.2.1, by rw [cv]; omega, by rw [cv]; omega, fun z => by have := hgd.1; omega⟩ ⟨Or.inl rfl, kv.2.1, fun z => absurd z (by decide)⟩ ra0 (Or.inr (Or.inr ⟨fun z => by rw [c314] at z; exact absurd z (by decide), c314, rfl, by rw [cv]; have hl := (rb0.resolve_left (fun z => by rw [c314] at z; exact absurd z.1 (by decide))).2.2; omega⟩)) (by omega) hsx hsy
    · refine own_icmpYes (n := 328) XB hx (hb hby at_314) (Jvm.Free.XT.ii_ne_t c314) (by decide) (by decide) ?_
      show Ends p e below (EF s 72 320) (Q0 Z p1 p2 p3 p4 p5  h0 n0) (TB.setTop (mkF m 328 #[.val (.int p1), .val (.int p2), .val (.int p3), .val (.int p4), .val (.int p5), .val (.int ma), .val (.int mb), .val (.int va), .val (.int vb), .val (.int vc), .val (.int vd), .val (.int ve), .val (.int (Nat.toInt32 on)), .val (.int (Nat.toInt32 on)), .val (.int ((Nat.toInt32 on) + (1 : Int32))), .val (.int ga), .val (.int gb), .val (.int gc), .val (.int gd), .val (.ref ra), .val (.int (1 : Int32)), sx, sy, .unset, .unset, .unset, .unset, .unset] []))
      exact kw _ _ _ ma mb va vb vc vd ve on ga gb gc gd ra la ka lb kb kn av ob sx sy (own_more XB (by decide) (by decide)) eB NB ZB hma hmb hva hvb hvc hvd hve hon hga hgb hgc hgd OB CL Ba Bb kv ra0 (rb0.elim Or.inl (fun z => Or.inr (Or.inl ⟨z.1, c314, z.2.1.trans (hgd.2.2.2 c314).symm, z.2.2⟩))) (by omega) hsx hsy
  have ku : ∀ (TB : State) (hB : Heap) (lB : List Loc) (ma : Int32) (mb : Int32) (va : Int32) (vb : Int32) (vc : Int32) (vd : Int32) (ve : Int32) (on : Nat) (ga : Int32) (gb : Int32) (gc : Int32) (gd : Int32) (ra : Addr) (la : Int32) (ka : Int32) (lb : Int32) (kb : Int32) (kn : Int32) (av : Int32) (ob : Nat) (sx : Slot) (sy : Slot) (XB : Stand p l e room_1 s m #[(.int p1), (.int p2), (.int p3), (.int p4), (.int p5)] below meth c TB lB (26) (126)) (eB : TB.heap = hB) (NB : Fr n0 lB) (ZB : n0 ≤ hB.size) (hma : 0 ≤ ma.toInt ∧ ma.toInt ≤ 2) (hmb : 0 ≤ mb.toInt ∧ mb.toInt ≤ 2) (hva : va = 0 ∨ va = 1) (hvb : vb = 0 ∨ vb = 1) (hvc : vc = 0 ∨ vc = 1) (hvd : vd = 0 ∨ vd = 1) (hve : ve = 0 ∨ ve = 1) (hon : on < 2) (hga : 0 ≤ ga.toInt ∧ ga.toInt < 536870912) (hgb : 0 ≤ gb.toInt ∧ gb.toInt < 536870912 ∧ (ma = 2 → ga.toInt < gb.toInt) ∧ (¬ ma = 2 → gb = ga)) (hgc : 0 ≤ gc.toInt ∧ gc.toInt < 536870912) (hgd : 0 ≤ gd.toInt ∧ gd.toInt < 536870912 ∧ (mb = 2 → gc.toInt < gd.toInt) ∧ (¬ mb = 2 → gd = gc)) (OB : Old Z n0 hB) (CL : CRL Z hB n0 ra on la ka lb kb kn av ob) (Ba : BND la ka) (Bb : BND lb kb) (kv : KV kn av la ka lb kb) (ra0 : (ma < 1 ∧ la = -1 ∧ ka.toInt = 0) ∨ (¬ ma < 1 ∧ la = ga ∧ ka.toInt = va.toInt)) (rb0 : (mb < 1 ∧ lb = -1 ∧ kb.toInt = 0) ∨ (¬ mb < 1 ∧ lb = gc ∧ kb.toInt = vc.toInt)) (hob : ob ≤ 2) (hsx : One sx) (hsy : One sy), Ends p e below (EF s 72 320) (Q0 Z p1 p2 p3 p4 p5  h0 n0) (TB.setTop (mkF m 294 #[.val (.int p1), .val (.int p2), .val (.int p3), .val (.int p4), .val (.int p5), .val (.int ma), .val (.int mb), .val (.int va), .val (.int vb), .val (.int vc), .val (.int vd), .val (.int ve), .val (.int (Nat.toInt32 on)), .val (.int (Nat.toInt32 on)), .val (.int ((Nat.toInt32 on) + (1 : Int32))), .val (.int ga), .val (.int gb), .val (.int gc), .val (.int gd), .val (.ref ra), .val (.int (1 : Int32)), sx, sy, .unset, .unset, .unset, .unset, .unset] [])) := by
    intro TB hB lB ma mb va vb vc vd ve on ga gb gc gd ra la ka lb kb kn av ob sx sy XB eB NB ZB hma hmb hva hvb hvc hvd hve hon hga hgb hgc hgd OB CL Ba Bb kv ra0 rb0 hob hsx hsy
    refine own_iload (n := 296) XB hx (hb hby at_294) rfl rfl ?_
    refine own_iconst (n := 297) XB hx (2 : Int32) (hb hby at_296) rfl rfl ?_
    by_cases c297 : ma = (2 : Int32)
    · refine own_icmpNo (n := 300) XB hx (hb hby at_297) (Jvm.Free.XT.ii_ne_f c297) rfl ?_
      refine own_aload (n := 302) XB hx (hb hby at_300) rfl rfl rfl ?_
      refine own_iload (n := 304) XB hx (hb hby at_302) rfl rfl ?_
      refine own_iload (n := 306) XB hx (hb hby at_304) rfl rfl ?_
      refine own_iload (n := 308) XB hx (hb hby at_306) rfl rfl ?_
      obtain ⟨lastf, chg, dsp, fs, pc, ps, S, hel, hec, ed, e1z, efs, epc, eps⟩ := CL
      have hlt : la < gb := by have hl := (ra0.resolve_left (fun z => by rw [c297] at z; exact absurd z.1 (by decide))).2.1; rw [Int32.lt_iff_toInt_lt, hl]; exact hgb.2.2.1 c297
      have hck : 0 ≤ ka.toInt ∧ ka.toInt ≤ 1 := by have hl := (ra0.resolve_left (fun z => by rw [c297] at z; exact absurd z.1 (by decide))).2.2; have f3 := own_ob3 hva; omega
      refine own_callV (n := 311) XB hx hZ hown (hw _ (List.mem_of_getElem? (i := 88) rfl)) (hw _ (List.mem_of_getElem? (i := 89) rfl)) (hw _ (List.mem_of_getElem? (i := 91) rfl)) (hw _ (List.mem_of_getElem? (i := 90) rfl)) (hw _ (List.mem_of_getElem? (i := 10) rfl)) (hw _ (List.mem_of_getElem? (i := 92) rfl)) (by decide) eB S.exa (rm13 l Z a0 hw [] ra gb (Nat.toInt32 on) vb (2 + on) lastf chg dsp fs pc ps kn av ob on hB n0 ZB OB S (by omega) (len_toInt (by omega)) (by omega) (by omega) (by rw [hel.1]; exact hlt) (fun z => by have q := hgb; rw [z] at q; have o : (2147483647 : Int32).toInt = 2147483647 := rfl; omega) hgb.1 (by rw [hec.1]; exact hck.1) (by rw [hec.1]; exact hck.2)) (W := 0) (by decide) (by decide) (by decide) (by decide) (by rw [hml]; rfl) (argsL := [(.int gb), (.int (Nat.toInt32 on)), (.int vb)]) (rest := []) pd_13 rfl (by rfl) (Nat.le_of_eq rfl) (hb hby at_308) rfl rfl ?_
      intro v12 T12 h12 L12 X12 e12 q12
      obtain ⟨rfl, M12, OL12, R12⟩ := q12
      have N12 := Fr.app NB M12
      have Z12 := own_oldz OL12
      have CN := own_ob0 R12 hel hec ed e1z efs epc eps Ba Bb hck.2 hgb.1 hgb.2.1
      have cv := own_cv hvb hck.1 hck.2
      have f3 := own_ob3 hvb
      show Ends p e below (EF s 72 320) (Q0 Z p1 p2 p3 p4 p5  h0 n0) (T12.setTop (mkF m 311 #[.val (.int p1), .val (.int p2), .val (.int p3), .val (.int p4), .val (.int p5), .val (.int ma), .val (.int mb), .val (.int va), .val (.int vb), .val (.int vc), .val (.int vd), .val (.int ve), .val (.int (Nat.toInt32 on)), .val (.int (Nat.toInt32 on)), .val (.int ((Nat.toInt32 on) + (1 : Int32))), .val (.int ga), .val (.int gb), .val (.int gc), .val (.int gd), .val (.ref ra), .val (.int (1 : Int32)), sx, sy, .unset, .unset, .unset, .unset, .unset] []))
      exact kv_ _ _ _ ma mb va vb vc vd ve on ga gb gc gd ra gb (if vb = 0 then ka else ka + 1) lb kb 0 av (ob + 1) sx sy (own_more X12 (by decide) (by decide)) e12 N12 Z12 hma hmb hva hvb hvc hvd hve hon hga hgb hgc hgd OL12 CN ⟨by have := hgb.1; omega, hgb.2.1, by rw [cv]; omega, by rw [cv]; omega, fun z => by have := hgb.1; omega⟩ Bb ⟨Or.inl rfl, kv.2.1, fun z => absurd z (by decide)⟩ (Or.inr (Or.inr ⟨fun z => by rw [c297] at z; exact absurd z (by decide), c297, rfl, by rw [cv]; have hl := (ra0.resolve_left (fun z => by rw [c297] at z; exact absurd z.1 (by decide))).2.2; omega⟩)) rb0 (by omega) hsx hsy
    · refine own_icmpYes (n := 311) XB hx (hb hby at_297) (Jvm.Free.XT.ii_ne_t c297) (by decide) (by decide) ?_
      show Ends p e below (EF s 72 320) (Q0 Z p1 p2 p3 p4 p5  h0 n0) (TB.setTop (mkF m 311 #[.val (.int p1), .val (.int p2), .val (.int p3), .val (.int p4), .val (.int p5), .val (.int ma), .val (.int mb), .val (.int va), .val (.int vb), .val (.int vc), .val (.int vd), .val (.int ve), .val (.int (Nat.toInt32 on)), .val (.int (Nat.toInt32 on)), .val (.int ((Nat.toInt32 on) + (1 : Int32))), .val (.int ga), .val (.int gb), .val (.int gc), .val (.int gd), .val (.ref ra), .val (.int (1 : Int32)), sx, sy, .unset, .unset, .unset, .unset, .unset] []))
      exact kv_ _ _ _ ma mb va vb vc vd ve on ga gb gc gd ra la ka lb kb kn av ob sx sy (own_more XB (by decide) (by decide)) eB NB ZB hma hmb hva hvb hvc hvd hve hon hga hgb hgc hgd OB CL Ba Bb kv (ra0.elim Or.inl (fun z => Or.inr (Or.inl ⟨z.1, c297, z.2.1.trans (hgb.2.2.2 c297).symm, z.2.2⟩))) rb0 (by omega) hsx hsy
  have kt : ∀ (TB : State) (hB : Heap) (lB : List Loc) (ma : Int32) (mb : Int32) (va : Int32) (vb : Int32) (vc : Int32) (vd : Int32) (ve : Int32) (on : Nat) (ga : Int32) (gb : Int32) (gc : Int32) (gd : Int32) (ra : Addr) (la : Int32) (ka : Int32) (lb : Int32) (kb : Int32) (kn : Int32) (av : Int32) (ob : Nat) (XB : Stand p l e room_1 s m #[(.int p1), (.int p2), (.int p3), (.int p4), (.int p5)] below meth c TB lB (26) (126)) (eB : TB.heap = hB) (NB : Fr n0 lB) (ZB : n0 ≤ hB.size) (hma : 0 ≤ ma.toInt ∧ ma.toInt ≤ 2) (hmb : 0 ≤ mb.toInt ∧ mb.toInt ≤ 2) (hva : va = 0 ∨ va = 1) (hvb : vb = 0 ∨ vb = 1) (hvc : vc = 0 ∨ vc = 1) (hvd : vd = 0 ∨ vd = 1) (hve : ve = 0 ∨ ve = 1) (hon : on < 2) (hga : 0 ≤ ga.toInt ∧ ga.toInt < 536870912) (hgb : 0 ≤ gb.toInt ∧ gb.toInt < 536870912 ∧ (ma = 2 → ga.toInt < gb.toInt) ∧ (¬ ma = 2 → gb = ga)) (hgc : 0 ≤ gc.toInt ∧ gc.toInt < 536870912) (hgd : 0 ≤ gd.toInt ∧ gd.toInt < 536870912 ∧ (mb = 2 → gc.toInt < gd.toInt) ∧ (¬ mb = 2 → gd = gc)) (OB : Old Z n0 hB) (CL : CRL Z hB n0 ra on la ka lb kb kn av ob) (Ba : BND la ka) (Bb : BND lb kb) (kv : KV kn av la ka lb kb) (ra0 : (ma < 1 ∧ la = -1 ∧ ka.toInt = 0) ∨ (¬ ma < 1 ∧ la = ga ∧ ka.toInt = va.toInt)) (rb0 : (mb < 1 ∧ lb = -1 ∧ kb.toInt = 0) ∨ (¬ mb < 1 ∧ lb = gc ∧ kb.toInt = vc.toInt)) (hob : ob ≤ 2), Ends p e below (EF s 72 320) (Q0 Z p1 p2 p3 p4 p5  h0 n0) (TB.setTop (mkF m 203 #[.val (.int p1), .val (.int p2), .val (.int p3), .val (.int p4), .val (.int p5), .val (.int ma), .val (.int mb), .val (.int va), .val (.int vb), .val (.int vc), .val (.int vd), .val (.int ve), .val (.int (Nat.toInt32 on)), .val (.int (Nat.toInt32 on)), .val (.int ((Nat.toInt32 on) + (1 : Int32))), .val (.int ga), .val (.int gb), .val (.int gc), .val (.int gd), .val (.ref ra), .unset, .unset, .unset, .unset, .unset, .unset, .unset, .unset] [])) := by
    intro TB hB lB ma mb va vb vc vd ve on ga gb gc gd ra la ka lb kb kn av ob XB eB NB ZB hma hmb hva hvb hvc hvd hve hon hga hgb hgc hgd OB CL Ba Bb kv ra0 rb0 hob
    refine own_iconst (n := 204) XB hx (1 : Int32) (hb hby at_203) rfl rfl ?_
    refine own_istore (n := 206) XB hx (hb hby at_204) (l' := #[.val (.int p1), .val (.int p2), .val (.int p3), .val (.int p4), .val (.int p5), .val (.int ma), .val (.int mb), .val (.int va), .val (.int vb), .val (.int vc), .val (.int vd), .val (.int ve), .val (.int (Nat.toInt32 on)), .val (.int (Nat.toInt32 on)), .val (.int ((Nat.toInt32 on) + (1 : Int32))), .val (.int ga), .val (.int gb), .val (.int gc), .val (.int gd), .val (.ref ra), .val (.int (1 : Int32)), .unset, .unset, .unset, .unset, .unset, .unset, .unset]) rfl rfl ?_
    refine own_iload (n := 208) XB hx (hb hby at_206) rfl rfl ?_
    by_cases c208 : ve = 0
    · refine own_ifYes (n := 294) XB hx (hb hby at_208) (Jvm.Free.XT.i0_eq_t c208) (by decide) (by decide) ?_
      show Ends p e below (EF s 72 320) (Q0 Z p1 p2 p3 p4 p5  h0 n0) (TB.setTop (mkF m 294 #[.val (.int p1), .val (.int p2), .val (.int p3), .val (.int p4), .val (.int p5), .val (.int ma), .val (.int mb), .val (.int va), .val (.int vb), .val (.int vc), .val (.int vd), .val (.int ve), .val (.int (Nat.toInt32 on)), .val (.int (Nat.toInt32 on)), .val (.int ((Nat.toInt32 on) + (1 : Int32))), .val (.int ga), .val (.int gb), .val (.int gc), .val (.int gd), .val (.ref ra), .val (.int (1 : Int32)), .unset, .unset, .unset, .unset, .unset, .unset, .unset] []))
      exact ku _ _ _ ma mb va vb vc vd ve on ga gb gc gd ra la ka lb kb kn av ob .unset .unset (own_more XB (by decide) (by decide)) eB NB ZB hma hmb hva hvb hvc hvd hve hon hga hgb hgc hgd OB CL Ba Bb kv ra0 rb0 hob (Or.inl rfl) (Or.inl rfl)
    · refine own_ifNo (n := 211) XB hx (hb hby at_208) (Jvm.Free.XT.i0_eq_f c208) rfl ?_
      refine own_aload (n := 213) XB hx (hb hby at_211) rfl rfl rfl ?_
      obtain ⟨lastf, chg, dsp, fs, pc, ps, S, hel, hec, ed, e1z, efs, epc, eps⟩ := CL
      have hA := own_alk hon ed e1z efs epc eps Ba Bb
      refine own_callV (n := 216) XB hx hZ hown (hw _ (List.mem_of_getElem? (i := 66) rfl)) (hw _ (List.mem_of_getElem? (i := 67) rfl)) (hw _ (List.mem_of_getElem? (i := 69) rfl)) (hw _ (List.mem_of_getElem? (i := 68) rfl)) (hw _ (List.mem_of_getElem? (i := 10) rfl)) (hw _ (List.mem_of_getElem? (i := 70) rfl)) (by decide) eB S.exa (rm9 l Z a0 hw [] ra (2 + on) lastf chg dsp fs pc ps kn av ob hB n0 ZB OB S (by omega) hA.1 kv.1 kv.2.1) (W := 0) (by decide) (by decide) (by decide) (by decide) (by rw [hml]; rfl) (argsL := []) (rest := []) pd_9 rfl (by rfl) (Nat.le_of_eq rfl) (hb hby at_213) rfl rfl ?_
      intro v13 T13 h13 L13 X13 e13 q13
      obtain ⟨r13, rfl, h0113, M13, OL13, S13, hka13, hkb13⟩ := q13
      have N13 := Fr.app NB M13
      have Z13 := own_oldz OL13
      have GD : GOOD la ka lb kb r13 := kv.1.elim (fun z w => hA.2 r13 w (hkb13 z)) (fun z => by rw [hka13 z]; exact kv.2.2 z)
      have CL13 : CRL Z h13 n0 ra on la ka lb kb 1 r13 ob := ⟨lastf, chg, dsp, fs, pc, ps, S13, hel, hec, ed, e1z, efs, epc, eps⟩
      have kv13 : KV 1 r13 la ka lb kb := ⟨Or.inr rfl, h0113, fun _ => GD⟩
      refine own_istore (n := 218) X13 hx (hb hby at_216) (l' := #[.val (.int p1), .val (.int p2), .val (.int p3), .val (.int p4), .val (.int p5), .val (.int ma), .val (.int mb), .val (.int va), .val (.int vb), .val (.int vc), .val (.int vd), .val (.int ve), .val (.int (Nat.toInt32 on)), .val (.int (Nat.toInt32 on)), .val (.int ((Nat.toInt32 on) + (1 : Int32))), .val (.int ga), .val (.int gb), .val (.int gc), .val (.int gd), .val (.ref ra), .val (.int (1 : Int32)), .val (.int r13), .unset, .unset, .unset, .unset, .unset, .unset]) rfl rfl ?_
      refine own_iload (n := 220) X13 hx (hb hby at_218) rfl rfl ?_
      refine own_iconst (n := 221) X13 hx (1 : Int32) (hb hby at_220) rfl rfl ?_
      by_cases c221 : ma < (1 : Int32)
      · refine own_icmpYes (n := 230) X13 hx (hb hby at_221) (Jvm.Free.XT.ii_lt_t c221) (by decide) (by decide) ?_
        refine own_ldc2_w (n := 233) X13 hx hZ hown (hw _ (List.mem_of_getElem? (i := 81) rfl)) (hb hby at_230) rfl ?_
        refine own_iload (n := 235) X13 hx (hb hby at_233) rfl rfl ?_
        refine own_iconst (n := 236) X13 hx (1 : Int32) (hb hby at_235) rfl rfl ?_
        refine own_icmpYes (n := 248) X13 hx (hb hby at_236) (Jvm.Free.XT.ii_lt_t c221) (by decide) (by decide) ?_
        refine own_lconst (n := 249) X13 hx (0 : Int64) (hb hby at_248) rfl rfl ?_
        refine own_iload (n := 251) X13 hx (hb hby at_249) rfl rfl ?_
        refine own_iconst (n := 252) X13 hx (1 : Int32) (hb hby at_251) rfl rfl ?_
        by_cases c252 : mb < (1 : Int32)
        · refine own_icmpYes (n := 261) X13 hx (hb hby at_252) (Jvm.Free.XT.ii_lt_t c252) (by decide) (by decide) ?_
          refine own_ldc2_w (n := 264) X13 hx hZ hown (hw _ (List.mem_of_getElem? (i := 81) rfl)) (hb hby at_261) rfl ?_
          refine own_iload (n := 266) X13 hx (hb hby at_264) rfl rfl ?_
          refine own_iconst (n := 267) X13 hx (1 : Int32) (hb hby at_266) rfl rfl ?_
          refine own_icmpYes (n := 279) X13 hx (hb hby at_267) (Jvm.Free.XT.ii_lt_t c252) (by decide) (by decide) ?_
          refine own_lconst (n := 280) X13 hx (0 : Int64) (hb hby at_279) rfl rfl ?_
          have hla : la = -1 := (ra0.resolve_right (fun z => z.1 c221)).2.1
          have hja : ((0 : Int64)).toInt = ka.toInt := by rw [(ra0.resolve_right (fun z => z.1 c221)).2.2]; rfl
          have hlb : lb = -1 := (rb0.resolve_right (fun z => z.1 c252)).2.1
          have hjb : ((0 : Int64)).toInt = kb.toInt := by rw [(rb0.resolve_right (fun z => z.1 c252)).2.2]; rfl
          have sa : SRC (-1 : Int64) (EA la) (XA la) (KA la) := by have q := own_src (l := la) Ba.1 Ba.2.1; rw [hla] at q ⊢; exact q
          have sb : SRC (-1 : Int64) (EA lb) (XA lb) (KA lb) := by have q := own_src (l := lb) Bb.1 Bb.2.1; rw [hlb] at q ⊢; exact q
          refine own_callS (n := 283) X13 hx hZ hown (hw _ (List.mem_of_getElem? (i := 82) rfl)) (hw _ (List.mem_of_getElem? (i := 83) rfl)) (hw _ (List.mem_of_getElem? (i := 2) rfl)) (hw _ (List.mem_of_getElem? (i := 84) rfl)) (by decide) e13 (rm11 l Z a0 hw [] (-1 : Int64) (0 : Int64) (-1 : Int64) (0 : Int64) ka.toInt.toNat kb.toInt.toNat (EA la) (EA lb) (XA la) (XA lb) (KA la) (KA lb) h13 n0 Z13 sa sb (own_nat Ba.2.2.1 hja) (own_nat Bb.2.2.1 hjb) (by have := Ba.2.2.2.1; omega) (by have := Bb.2.2.2.1; omega) (own_eab Ba) (own_eab Bb) (own_kaz Ba) (own_kaz Bb)) (W := 0) (by decide) (by decide) (by decide) (by decide) (by rw [hml]; rfl) (argsL := [(.long (-1 : Int64)), (.long (0 : Int64)), (.long (-1 : Int64)), (.long (0 : Int64))]) (rest := []) pd_11 rfl (by rfl) (Nat.le_of_eq rfl) (hb hby at_280) rfl rfl ?_
          intro v14 T14 h14 L14 X14 e14 q14
          obtain ⟨w14, rfl, wa14, wb14, M14, rfl⟩ := q14
          have N14 := Fr.app N13 M14
          refine own_istore (n := 285) X14 hx (hb hby at_283) (l' := #[.val (.int p1), .val (.int p2), .val (.int p3), .val (.int p4), .val (.int p5), .val (.int ma), .val (.int mb), .val (.int va), .val (.int vb), .val (.int vc), .val (.int vd), .val (.int ve), .val (.int (Nat.toInt32 on)), .val (.int (Nat.toInt32 on)), .val (.int ((Nat.toInt32 on) + (1 : Int32))), .val (.int ga), .val (.int gb), .val (.int gc), .val (.int gd), .val (.ref ra), .val (.int (1 : Int32)), .val (.int r13), .val (.int w14), .unset, .unset, .unset, .unset, .unset]) rfl rfl ?_
          refine own_iload (n := 287) X14 hx (hb hby at_285) rfl rfl ?_
          refine own_iload (n := 289) X14 hx (hb hby at_287) rfl rfl ?_
          refine own_callS (n := 292) X14 hx hZ hown (hw _ (List.mem_of_getElem? (i := 85) rfl)) (hw _ (List.mem_of_getElem? (i := 86) rfl)) (hw _ (List.mem_of_getElem? (i := 2) rfl)) (hw _ (List.mem_of_getElem? (i := 87) rfl)) (by decide) e14 (rm12 l Z a0 hw [] w14 r13 h13 n0 Z13 (GD _ wa14 wb14)) (W := 0) (by decide) (by decide) (by decide) (by decide) (by rw [hml]; rfl) (argsL := [(.int w14), (.int r13)]) (rest := []) pd_12 rfl (by rfl) (Nat.le_of_eq rfl) (hb hby at_289) rfl rfl ?_
          intro v15 T15 h15 L15 X15 e15 q15
          obtain ⟨rfl, M15, rfl⟩ := q15
          have N15 := Fr.app N14 M15
          refine own_istore (n := 294) X15 hx (hb hby at_292) (l' := #[.val (.int p1), .val (.int p2), .val (.int p3), .val (.int p4), .val (.int p5), .val (.int ma), .val (.int mb), .val (.int va), .val (.int vb), .val (.int vc), .val (.int vd), .val (.int ve), .val (.int (Nat.toInt32 on)), .val (.int (Nat.toInt32 on)), .val (.int ((Nat.toInt32 on) + (1 : Int32))), .val (.int ga), .val (.int gb), .val (.int gc), .val (.int gd), .val (.ref ra), .val (.int (1 : Int32)), .val (.int r13), .val (.int w14), .unset, .unset, .unset, .unset, .unset]) rfl rfl ?_
          show Ends p e below (EF s 72 320) (Q0 Z p1 p2 p3 p4 p5  h0 n0) (T15.setTop (mkF m 294 #[.val (.int p1), .val (.int p2), .val (.int p3), .val (.int p4), .val (.int p5), .val (.int ma), .val (.int mb), .val (.int va), .val (.int vb), .val (.int vc), .val (.int vd), .val (.int ve), .val (.int (Nat.toInt32 on)), .val (.int (Nat.toInt32 on)), .val (.int ((Nat.toInt32 on) + (1 : Int32))), .val (.int ga), .val (.int gb), .val (.int gc), .val (.int gd), .val (.ref ra), .val (.int (1 : Int32)), .val (.int r13), .val (.int w14), .unset, .unset, .unset, .unset, .unset] []))
          exact ku _ _ _ ma mb va vb vc vd ve on ga gb gc gd ra la ka lb kb 1 r13 ob (.val (.int r13)) (.val (.int w14)) (own_more X15 (by decide) (by decide)) e15 N15 Z13 hma hmb hva hvb hvc hvd hve hon hga hgb hgc hgd OL13 CL13 Ba Bb kv13 ra0 rb0 hob (One.val rfl) (One.val rfl)
        · refine own_icmpNo (n := 255) X13 hx (hb hby at_252) (Jvm.Free.XT.ii_lt_f c252) rfl ?_
          refine own_iload (n := 257) X13 hx (hb hby at_255) rfl rfl ?_
          refine own_i2l (n := 258) X13 hx (hb hby at_257) rfl ?_
          refine own_goto (n := 264) X13 hx (hb hby at_258) (by decide) (by decide) ?_
          refine own_iload (n := 266) X13 hx (hb hby at_264) rfl rfl ?_
          refine own_iconst (n := 267) X13 hx (1 : Int32) (hb hby at_266) rfl rfl ?_
          refine own_icmpNo (n := 270) X13 hx (hb hby at_267) (Jvm.Free.XT.ii_lt_f c252) rfl ?_
          refine own_iload (n := 272) X13 hx (hb hby at_270) rfl rfl ?_
          by_cases c272 : vc = 0
          · refine own_ifYes (n := 279) X13 hx (hb hby at_272) (Jvm.Free.XT.i0_eq_t c272) (by decide) (by decide) ?_
            refine own_lconst (n := 280) X13 hx (0 : Int64) (hb hby at_279) rfl rfl ?_
            have hla : la = -1 := (ra0.resolve_right (fun z => z.1 c221)).2.1
            have hja : ((0 : Int64)).toInt = ka.toInt := by rw [(ra0.resolve_right (fun z => z.1 c221)).2.2]; rfl
            have hlb : lb = gc := (rb0.resolve_left (fun z => c252 z.1)).2.1
            have hjb : ((0 : Int64)).toInt = kb.toInt := by rw [(rb0.resolve_left (fun z => c252 z.1)).2.2, c272]; rfl
            have sa : SRC (-1 : Int64) (EA la) (XA la) (KA la) := by have q := own_src (l := la) Ba.1 Ba.2.1; rw [hla] at q ⊢; exact q
            have sb : SRC (gc.toInt64) (EA lb) (XA lb) (KA lb) := by rw [← hlb]; exact own_src Bb.1 Bb.2.1
            refine own_callS (n := 283) X13 hx hZ hown (hw _ (List.mem_of_getElem? (i := 82) rfl)) (hw _ (List.mem_of_getElem? (i := 83) rfl)) (hw _ (List.mem_of_getElem? (i := 2) rfl)) (hw _ (List.mem_of_getElem? (i := 84) rfl)) (by decide) e13 (rm11 l Z a0 hw [] (-1 : Int64) (0 : Int64) (gc.toInt64) (0 : Int64) ka.toInt.toNat kb.toInt.toNat (EA la) (EA lb) (XA la) (XA lb) (KA la) (KA lb) h13 n0 Z13 sa sb (own_nat Ba.2.2.1 hja) (own_nat Bb.2.2.1 hjb) (by have := Ba.2.2.2.1; omega) (by have := Bb.2.2.2.1; omega) (own_eab Ba) (own_eab Bb) (own_kaz Ba) (own_kaz Bb)) (W := 0) (by decide) (by decide) (by decide) (by decide) (by rw [hml]; rfl) (argsL := [(.long (-1 : Int64)), (.long (0 : Int64)), (.long (gc.toInt64)), (.long (0 : Int64))]) (rest := []) pd_11 rfl (by rfl) (Nat.le_of_eq rfl) (hb hby at_280) rfl rfl ?_
            intro v16 T16 h16 L16 X16 e16 q16
            obtain ⟨w16, rfl, wa16, wb16, M16, rfl⟩ := q16
            have N16 := Fr.app N13 M16
            refine own_istore (n := 285) X16 hx (hb hby at_283) (l' := #[.val (.int p1), .val (.int p2), .val (.int p3), .val (.int p4), .val (.int p5), .val (.int ma), .val (.int mb), .val (.int va), .val (.int vb), .val (.int vc), .val (.int vd), .val (.int ve), .val (.int (Nat.toInt32 on)), .val (.int (Nat.toInt32 on)), .val (.int ((Nat.toInt32 on) + (1 : Int32))), .val (.int ga), .val (.int gb), .val (.int gc), .val (.int gd), .val (.ref ra), .val (.int (1 : Int32)), .val (.int r13), .val (.int w16), .unset, .unset, .unset, .unset, .unset]) rfl rfl ?_
            refine own_iload (n := 287) X16 hx (hb hby at_285) rfl rfl ?_
            refine own_iload (n := 289) X16 hx (hb hby at_287) rfl rfl ?_
            refine own_callS (n := 292) X16 hx hZ hown (hw _ (List.mem_of_getElem? (i := 85) rfl)) (hw _ (List.mem_of_getElem? (i := 86) rfl)) (hw _ (List.mem_of_getElem? (i := 2) rfl)) (hw _ (List.mem_of_getElem? (i := 87) rfl)) (by decide) e16 (rm12 l Z a0 hw [] w16 r13 h13 n0 Z13 (GD _ wa16 wb16)) (W := 0) (by decide) (by decide) (by decide) (by decide) (by rw [hml]; rfl) (argsL := [(.int w16), (.int r13)]) (rest := []) pd_12 rfl (by rfl) (Nat.le_of_eq rfl) (hb hby at_289) rfl rfl ?_
            intro v17 T17 h17 L17 X17 e17 q17
            obtain ⟨rfl, M17, rfl⟩ := q17
            have N17 := Fr.app N16 M17
            refine own_istore (n := 294) X17 hx (hb hby at_292) (l' := #[.val (.int p1), .val (.int p2), .val (.int p3), .val (.int p4), .val (.int p5), .val (.int ma), .val (.int mb), .val (.int va), .val (.int vb), .val (.int vc), .val (.int vd), .val (.int ve), .val (.int (Nat.toInt32 on)), .val (.int (Nat.toInt32 on)), .val (.int ((Nat.toInt32 on) + (1 : Int32))), .val (.int ga), .val (.int gb), .val (.int gc), .val (.int gd), .val (.ref ra), .val (.int (1 : Int32)), .val (.int r13), .val (.int w16), .unset, .unset, .unset, .unset, .unset]) rfl rfl ?_
            show Ends p e below (EF s 72 320) (Q0 Z p1 p2 p3 p4 p5  h0 n0) (T17.setTop (mkF m 294 #[.val (.int p1), .val (.int p2), .val (.int p3), .val (.int p4), .val (.int p5), .val (.int ma), .val (.int mb), .val (.int va), .val (.int vb), .val (.int vc), .val (.int vd), .val (.int ve), .val (.int (Nat.toInt32 on)), .val (.int (Nat.toInt32 on)), .val (.int ((Nat.toInt32 on) + (1 : Int32))), .val (.int ga), .val (.int gb), .val (.int gc), .val (.int gd), .val (.ref ra), .val (.int (1 : Int32)), .val (.int r13), .val (.int w16), .unset, .unset, .unset, .unset, .unset] []))
            exact ku _ _ _ ma mb va vb vc vd ve on ga gb gc gd ra la ka lb kb 1 r13 ob (.val (.int r13)) (.val (.int w16)) (own_more X17 (by decide) (by decide)) e17 N17 Z13 hma hmb hva hvb hvc hvd hve hon hga hgb hgc hgd OL13 CL13 Ba Bb kv13 ra0 rb0 hob (One.val rfl) (One.val rfl)
          · refine own_ifNo (n := 275) X13 hx (hb hby at_272) (Jvm.Free.XT.i0_eq_f c272) rfl ?_
            refine own_lconst (n := 276) X13 hx (1 : Int64) (hb hby at_275) rfl rfl ?_
            refine own_goto (n := 280) X13 hx (hb hby at_276) (by decide) (by decide) ?_
            have hla : la = -1 := (ra0.resolve_right (fun z => z.1 c221)).2.1
            have hja : ((0 : Int64)).toInt = ka.toInt := by rw [(ra0.resolve_right (fun z => z.1 c221)).2.2]; rfl
            have hlb : lb = gc := (rb0.resolve_left (fun z => c252 z.1)).2.1
            have hjb : ((1 : Int64)).toInt = kb.toInt := by rw [(rb0.resolve_left (fun z => c252 z.1)).2.2, (hvc.resolve_left c272)]; rfl
            have sa : SRC (-1 : Int64) (EA la) (XA la) (KA la) := by have q := own_src (l := la) Ba.1 Ba.2.1; rw [hla] at q ⊢; exact q
            have sb : SRC (gc.toInt64) (EA lb) (XA lb) (KA lb) := by rw [← hlb]; exact own_src Bb.1 Bb.2.1
            refine own_callS (n := 283) X13 hx hZ hown (hw _ (List.mem_of_getElem? (i := 82) rfl)) (hw _ (List.mem_of_getElem? (i := 83) rfl)) (hw _ (List.mem_of_getElem? (i := 2) rfl)) (hw _ (List.mem_of_getElem? (i := 84) rfl)) (by decide) e13 (rm11 l Z a0 hw [] (-1 : Int64) (0 : Int64) (gc.toInt64) (1 : Int64) ka.toInt.toNat kb.toInt.toNat (EA la) (EA lb) (XA la) (XA lb) (KA la) (KA lb) h13 n0 Z13 sa sb (own_nat Ba.2.2.1 hja) (own_nat Bb.2.2.1 hjb) (by have := Ba.2.2.2.1; omega) (by have := Bb.2.2.2.1; omega) (own_eab Ba) (own_eab Bb) (own_kaz Ba) (own_kaz Bb)) (W := 0) (by decide) (by decide) (by decide) (by decide) (by rw [hml]; rfl) (argsL := [(.long (-1 : Int64)), (.long (0 : Int64)), (.long (gc.toInt64)), (.long (1 : Int64))]) (rest := []) pd_11 rfl (by rfl) (Nat.le_of_eq rfl) (hb hby at_280) rfl rfl ?_
            intro v18 T18 h18 L18 X18 e18 q18
            obtain ⟨w18, rfl, wa18, wb18, M18, rfl⟩ := q18
            have N18 := Fr.app N13 M18
            refine own_istore (n := 285) X18 hx (hb hby at_283) (l' := #[.val (.int p1), .val (.int p2), .val (.int p3), .val (.int p4), .val (.int p5), .val (.int ma), .val (.int mb), .val (.int va), .val (.int vb), .val (.int vc), .val (.int vd), .val (.int ve), .val (.int (Nat.toInt32 on)), .val (.int (Nat.toInt32 on)), .val (.int ((Nat.toInt32 on) + (1 : Int32))), .val (.int ga), .val (.int gb), .val (.int gc), .val (.int gd), .val (.ref ra), .val (.int (1 : Int32)), .val (.int r13), .val (.int w18), .unset, .unset, .unset, .unset, .unset]) rfl rfl ?_
            refine own_iload (n := 287) X18 hx (hb hby at_285) rfl rfl ?_
            refine own_iload (n := 289) X18 hx (hb hby at_287) rfl rfl ?_
            refine own_callS (n := 292) X18 hx hZ hown (hw _ (List.mem_of_getElem? (i := 85) rfl)) (hw _ (List.mem_of_getElem? (i := 86) rfl)) (hw _ (List.mem_of_getElem? (i := 2) rfl)) (hw _ (List.mem_of_getElem? (i := 87) rfl)) (by decide) e18 (rm12 l Z a0 hw [] w18 r13 h13 n0 Z13 (GD _ wa18 wb18)) (W := 0) (by decide) (by decide) (by decide) (by decide) (by rw [hml]; rfl) (argsL := [(.int w18), (.int r13)]) (rest := []) pd_12 rfl (by rfl) (Nat.le_of_eq rfl) (hb hby at_289) rfl rfl ?_
            intro v19 T19 h19 L19 X19 e19 q19
            obtain ⟨rfl, M19, rfl⟩ := q19
            have N19 := Fr.app N18 M19
            refine own_istore (n := 294) X19 hx (hb hby at_292) (l' := #[.val (.int p1), .val (.int p2), .val (.int p3), .val (.int p4), .val (.int p5), .val (.int ma), .val (.int mb), .val (.int va), .val (.int vb), .val (.int vc), .val (.int vd), .val (.int ve), .val (.int (Nat.toInt32 on)), .val (.int (Nat.toInt32 on)), .val (.int ((Nat.toInt32 on) + (1 : Int32))), .val (.int ga), .val (.int gb), .val (.int gc), .val (.int gd), .val (.ref ra), .val (.int (1 : Int32)), .val (.int r13), .val (.int w18), .unset, .unset, .unset, .unset, .unset]) rfl rfl ?_
            show Ends p e below (EF s 72 320) (Q0 Z p1 p2 p3 p4 p5  h0 n0) (T19.setTop (mkF m 294 #[.val (.int p1), .val (.int p2), .val (.int p3), .val (.int p4), .val (.int p5), .val (.int ma), .val (.int mb), .val (.int va), .val (.int vb), .val (.int vc), .val (.int vd), .val (.int ve), .val (.int (Nat.toInt32 on)), .val (.int (Nat.toInt32 on)), .val (.int ((Nat.toInt32 on) + (1 : Int32))), .val (.int ga), .val (.int gb), .val (.int gc), .val (.int gd), .val (.ref ra), .val (.int (1 : Int32)), .val (.int r13), .val (.int w18), .unset, .unset, .unset, .unset, .unset] []))
            exact ku _ _ _ ma mb va vb vc vd ve on ga gb gc gd ra la ka lb kb 1 r13 ob (.val (.int r13)) (.val (.int w18)) (own_more X19 (by decide) (by decide)) e19 N19 Z13 hma hmb hva hvb hvc hvd hve hon hga hgb hgc hgd OL13 CL13 Ba Bb kv13 ra0 rb0 hob (One.val rfl) (One.val rfl)
      · refine own_icmpNo (n := 224) X13 hx (hb hby at_221) (Jvm.Free.XT.ii_lt_f c221) rfl ?_
        refine own_iload (n := 226) X13 hx (hb hby at_224) rfl rfl ?_
        refine own_i2l (n := 227) X13 hx (hb hby at_226) rfl ?_
        refine own_goto (n := 233) X13 hx (hb hby at_227) (by decide) (by decide) ?_
        refine own_iload (n := 235) X13 hx (hb hby at_233) rfl rfl ?_
        refine own_iconst (n := 236) X13 hx (1 : Int32) (hb hby at_235) rfl rfl ?_
        refine own_icmpNo (n := 239) X13 hx (hb hby at_236) (Jvm.Free.XT.ii_lt_f c221) rfl ?_
        refine own_iload (n := 241) X13 hx (hb hby at_239) rfl rfl ?_
        by_cases c241 : va = 0
        · refine own_ifYes (n := 248) X13 hx (hb hby at_241) (Jvm.Free.XT.i0_eq_t c241) (by decide) (by decide) ?_
          refine own_lconst (n := 249) X13 hx (0 : Int64) (hb hby at_248) rfl rfl ?_
          refine own_iload (n := 251) X13 hx (hb hby at_249) rfl rfl ?_
          refine own_iconst (n := 252) X13 hx (1 : Int32) (hb hby at_251) rfl rfl ?_
          by_cases c252 : mb < (1 : Int32)
          · refine own_icmpYes (n := 261) X13 hx (hb hby at_252) (Jvm.Free.XT.ii_lt_t c252) (by decide) (by decide) ?_
            refine own_ldc2_w (n := 264) X13 hx hZ hown (hw _ (List.mem_of_getElem? (i := 81) rfl)) (hb hby at_261) rfl ?_
            refine own_iload (n := 266) X13 hx (hb hby at_264) rfl rfl ?_
            refine own_iconst (n := 267) X13 hx (1 : Int32) (hb hby at_266) rfl rfl ?_
            refine own_icmpYes (n := 279) X13 hx (hb hby at_267) (Jvm.Free.XT.ii_lt_t c252) (by decide) (by decide) ?_
            refine own_lconst (n := 280) X13 hx (0 : Int64) (hb hby at_279) rfl rfl ?_
            have hla : la = ga := (ra0.resolve_left (fun z => c221 z.1)).2.1
            have hja : ((0 : Int64)).toInt = ka.toInt := by rw [(ra0.resolve_left (fun z => c221 z.1)).2.2, c241]; rfl
            have hlb : lb = -1 := (rb0.resolve_right (fun z => z.1 c252)).2.1
            have hjb : ((0 : Int64)).toInt = kb.toInt := by rw [(rb0.resolve_right (fun z => z.1 c252)).2.2]; rfl
            have sa : SRC (ga.toInt64) (EA la) (XA la) (KA la) := by rw [← hla]; exact own_src Ba.1 Ba.2.1
            have sb : SRC (-1 : Int64) (EA lb) (XA lb) (KA lb) := by have q := own_src (l := lb) Bb.1 Bb.2.1; rw [hlb] at q ⊢; exact q
            refine own_callS (n := 283) X13 hx hZ hown (hw _ (List.mem_of_getElem? (i := 82) rfl)) (hw _ (List.mem_of_getElem? (i := 83) rfl)) (hw _ (List.mem_of_getElem? (i := 2) rfl)) (hw _ (List.mem_of_getElem? (i := 84) rfl)) (by decide) e13 (rm11 l Z a0 hw [] (ga.toInt64) (0 : Int64) (-1 : Int64) (0 : Int64) ka.toInt.toNat kb.toInt.toNat (EA la) (EA lb) (XA la) (XA lb) (KA la) (KA lb) h13 n0 Z13 sa sb (own_nat Ba.2.2.1 hja) (own_nat Bb.2.2.1 hjb) (by have := Ba.2.2.2.1; omega) (by have := Bb.2.2.2.1; omega) (own_eab Ba) (own_eab Bb) (own_kaz Ba) (own_kaz Bb)) (W := 0) (by decide) (by decide) (by decide) (by decide) (by rw [hml]; rfl) (argsL := [(.long (ga.toInt64)), (.long (0 : Int64)), (.long (-1 : Int64)), (.long (0 : Int64))]) (rest := []) pd_11 rfl (by rfl) (Nat.le_of_eq rfl) (hb hby at_280) rfl rfl ?_
            intro v20 T20 h20 L20 X20 e20 q20
            obtain ⟨w20, rfl, wa20, wb20, M20, rfl⟩ := q20
            have N20 := Fr.app N13 M20
            refine own_istore (n := 285) X20 hx (hb hby at_283) (l' := #[.val (.int p1), .val (.int p2), .val (.int p3), .val (.int p4), .val (.int p5), .val (.int ma), .val (.int mb), .val (.int va), .val (.int vb), .val (.int vc), .val (.int vd), .val (.int ve), .val (.int (Nat.toInt32 on)), .val (.int (Nat.toInt32 on)), .val (.int ((Nat.toInt32 on) + (1 : Int32))), .val (.int ga), .val (.int gb), .val (.int gc), .val (.int gd), .val (.ref ra), .val (.int (1 : Int32)), .val (.int r13), .val (.int w20), .unset, .unset, .unset, .unset, .unset]) rfl rfl ?_
            refine own_iload (n := 287) X20 hx (hb hby at_285) rfl rfl ?_
            refine own_iload (n := 289) X20 hx (hb hby at_287) rfl rfl ?_
            refine own_callS (n := 292) X20 hx hZ hown (hw _ (List.mem_of_getElem? (i := 85) rfl)) (hw _ (List.mem_of_getElem? (i := 86) rfl)) (hw _ (List.mem_of_getElem? (i := 2) rfl)) (hw _ (List.mem_of_getElem? (i := 87) rfl)) (by decide) e20 (rm12 l Z a0 hw [] w20 r13 h13 n0 Z13 (GD _ wa20 wb20)) (W := 0) (by decide) (by decide) (by decide) (by decide) (by rw [hml]; rfl) (argsL := [(.int w20), (.int r13)]) (rest := []) pd_12 rfl (by rfl) (Nat.le_of_eq rfl) (hb hby at_289) rfl rfl ?_
            intro v21 T21 h21 L21 X21 e21 q21
            obtain ⟨rfl, M21, rfl⟩ := q21
            have N21 := Fr.app N20 M21
            refine own_istore (n := 294) X21 hx (hb hby at_292) (l' := #[.val (.int p1), .val (.int p2), .val (.int p3), .val (.int p4), .val (.int p5), .val (.int ma), .val (.int mb), .val (.int va), .val (.int vb), .val (.int vc), .val (.int vd), .val (.int ve), .val (.int (Nat.toInt32 on)), .val (.int (Nat.toInt32 on)), .val (.int ((Nat.toInt32 on) + (1 : Int32))), .val (.int ga), .val (.int gb), .val (.int gc), .val (.int gd), .val (.ref ra), .val (.int (1 : Int32)), .val (.int r13), .val (.int w20), .unset, .unset, .unset, .unset, .unset]) rfl rfl ?_
            show Ends p e below (EF s 72 320) (Q0 Z p1 p2 p3 p4 p5  h0 n0) (T21.setTop (mkF m 294 #[.val (.int p1), .val (.int p2), .val (.int p3), .val (.int p4), .val (.int p5), .val (.int ma), .val (.int mb), .val (.int va), .val (.int vb), .val (.int vc), .val (.int vd), .val (.int ve), .val (.int (Nat.toInt32 on)), .val (.int (Nat.toInt32 on)), .val (.int ((Nat.toInt32 on) + (1 : Int32))), .val (.int ga), .val (.int gb), .val (.int gc), .val (.int gd), .val (.ref ra), .val (.int (1 : Int32)), .val (.int r13), .val (.int w20), .unset, .unset, .unset, .unset, .unset] []))
            exact ku _ _ _ ma mb va vb vc vd ve on ga gb gc gd ra la ka lb kb 1 r13 ob (.val (.int r13)) (.val (.int w20)) (own_more X21 (by decide) (by decide)) e21 N21 Z13 hma hmb hva hvb hvc hvd hve hon hga hgb hgc hgd OL13 CL13 Ba Bb kv13 ra0 rb0 hob (One.val rfl) (One.val rfl)
          · refine own_icmpNo (n := 255) X13 hx (hb hby at_252) (Jvm.Free.XT.ii_lt_f c252) rfl ?_
            refine own_iload (n := 257) X13 hx (hb hby at_255) rfl rfl ?_
            refine own_i2l (n := 258) X13 hx (hb hby at_257) rfl ?_
            refine own_goto (n := 264) X13 hx (hb hby at_258) (by decide) (by decide) ?_
            refine own_iload (n := 266) X13 hx (hb hby at_264) rfl rfl ?_
            refine own_iconst (n := 267) X13 hx (1 : Int32) (hb hby at_266) rfl rfl ?_
            refine own_icmpNo (n := 270) X13 hx (hb hby at_267) (Jvm.Free.XT.ii_lt_f c252) rfl ?_
            refine own_iload (n := 272) X13 hx (hb hby at_270) rfl rfl ?_
            by_cases c272 : vc = 0
            · refine own_ifYes (n := 279) X13 hx (hb hby at_272) (Jvm.Free.XT.i0_eq_t c272) (by decide) (by decide) ?_
              refine own_lconst (n := 280) X13 hx (0 : Int64) (hb hby at_279) rfl rfl ?_
              have hla : la = ga := (ra0.resolve_left (fun z => c221 z.1)).2.1
              have hja : ((0 : Int64)).toInt = ka.toInt := by rw [(ra0.resolve_left (fun z => c221 z.1)).2.2, c241]; rfl
              have hlb : lb = gc := (rb0.resolve_left (fun z => c252 z.1)).2.1
              have hjb : ((0 : Int64)).toInt = kb.toInt := by rw [(rb0.resolve_left (fun z => c252 z.1)).2.2, c272]; rfl
              have sa : SRC (ga.toInt64) (EA la) (XA la) (KA la) := by rw [← hla]; exact own_src Ba.1 Ba.2.1
              have sb : SRC (gc.toInt64) (EA lb) (XA lb) (KA lb) := by rw [← hlb]; exact own_src Bb.1 Bb.2.1
              refine own_callS (n := 283) X13 hx hZ hown (hw _ (List.mem_of_getElem? (i := 82) rfl)) (hw _ (List.mem_of_getElem? (i := 83) rfl)) (hw _ (List.mem_of_getElem? (i := 2) rfl)) (hw _ (List.mem_of_getElem? (i := 84) rfl)) (by decide) e13 (rm11 l Z a0 hw [] (ga.toInt64) (0 : Int64) (gc.toInt64) (0 : Int64) ka.toInt.toNat kb.toInt.toNat (EA la) (EA lb) (XA la) (XA lb) (KA la) (KA lb) h13 n0 Z13 sa sb (own_nat Ba.2.2.1 hja) (own_nat Bb.2.2.1 hjb) (by have := Ba.2.2.2.1; omega) (by have := Bb.2.2.2.1; omega) (own_eab Ba) (own_eab Bb) (own_kaz Ba) (own_kaz Bb)) (W := 0) (by decide) (by decide) (by decide) (by decide) (by rw [hml]; rfl) (argsL := [(.long (ga.toInt64)), (.long (0 : Int64)), (.long (gc.toInt64)), (.long (0 : Int64))]) (rest := []) pd_11 rfl (by rfl) (Nat.le_of_eq rfl) (hb hby at_280) rfl rfl ?_
              intro v22 T22 h22 L22 X22 e22 q22
              obtain ⟨w22, rfl, wa22, wb22, M22, rfl⟩ := q22
              have N22 := Fr.app N13 M22
              refine own_istore (n := 285) X22 hx (hb hby at_283) (l' := #[.val (.int p1), .val (.int p2), .val (.int p3), .val (.int p4), .val (.int p5), .val (.int ma), .val (.int mb), .val (.int va), .val (.int vb), .val (.int vc), .val (.int vd), .val (.int ve), .val (.int (Nat.toInt32 on)), .val (.int (Nat.toInt32 on)), .val (.int ((Nat.toInt32 on) + (1 : Int32))), .val (.int ga), .val (.int gb), .val (.int gc), .val (.int gd), .val (.ref ra), .val (.int (1 : Int32)), .val (.int r13), .val (.int w22), .unset, .unset, .unset, .unset, .unset]) rfl rfl ?_
              refine own_iload (n := 287) X22 hx (hb hby at_285) rfl rfl ?_
              refine own_iload (n := 289) X22 hx (hb hby at_287) rfl rfl ?_
              refine own_callS (n := 292) X22 hx hZ hown (hw _ (List.mem_of_getElem? (i := 85) rfl)) (hw _ (List.mem_of_getElem? (i := 86) rfl)) (hw _ (List.mem_of_getElem? (i := 2) rfl)) (hw _ (List.mem_of_getElem? (i := 87) rfl)) (by decide) e22 (rm12 l Z a0 hw [] w22 r13 h13 n0 Z13 (GD _ wa22 wb22)) (W := 0) (by decide) (by decide) (by decide) (by decide) (by rw [hml]; rfl) (argsL := [(.int w22), (.int r13)]) (rest := []) pd_12 rfl (by rfl) (Nat.le_of_eq rfl) (hb hby at_289) rfl rfl ?_
              intro v23 T23 h23 L23 X23 e23 q23
              obtain ⟨rfl, M23, rfl⟩ := q23
              have N23 := Fr.app N22 M23
              refine own_istore (n := 294) X23 hx (hb hby at_292) (l' := #[.val (.int p1), .val (.int p2), .val (.int p3), .val (.int p4), .val (.int p5), .val (.int ma), .val (.int mb), .val (.int va), .val (.int vb), .val (.int vc), .val (.int vd), .val (.int ve), .val (.int (Nat.toInt32 on)), .val (.int (Nat.toInt32 on)), .val (.int ((Nat.toInt32 on) + (1 : Int32))), .val (.int ga), .val (.int gb), .val (.int gc), .val (.int gd), .val (.ref ra), .val (.int (1 : Int32)), .val (.int r13), .val (.int w22), .unset, .unset, .unset, .unset, .unset]) rfl rfl ?_
              show Ends p e below (EF s 72 320) (Q0 Z p1 p2 p3 p4 p5  h0 n0) (T23.setTop (mkF m 294 #[.val (.int p1), .val (.int p2), .val (.int p3), .val (.int p4), .val (.int p5), .val (.int ma), .val (.int mb), .val (.int va), .val (.int vb), .val (.int vc), .val (.int vd), .val (.int ve), .val (.int (Nat.toInt32 on)), .val (.int (Nat.toInt32 on)), .val (.int ((Nat.toInt32 on) + (1 : Int32))), .val (.int ga), .val (.int gb), .val (.int gc), .val (.int gd), .val (.ref ra), .val (.int (1 : Int32)), .val (.int r13), .val (.int w22), .unset, .unset, .unset, .unset, .unset] []))
              exact ku _ _ _ ma mb va vb vc vd ve on ga gb gc gd ra la ka lb kb 1 r13 ob (.val (.int r13)) (.val (.int w22)) (own_more X23 (by decide) (by decide)) e23 N23 Z13 hma hmb hva hvb hvc hvd hve hon hga hgb hgc hgd OL13 CL13 Ba Bb kv13 ra0 rb0 hob (One.val rfl) (One.val rfl)
            · refine own_ifNo (n := 275) X13 hx (hb hby at_272) (Jvm.Free.XT.i0_eq_f c272) rfl ?_
              refine own_lconst (n := 276) X13 hx (1 : Int64) (hb hby at_275) rfl rfl ?_
              refine own_goto (n := 280) X13 hx (hb hby at_276) (by decide) (by decide) ?_
              have hla : la = ga := (ra0.resolve_left (fun z => c221 z.1)).2.1
              have hja : ((0 : Int64)).toInt = ka.toInt := by rw [(ra0.resolve_left (fun z => c221 z.1)).2.2, c241]; rfl
              have hlb : lb = gc := (rb0.resolve_left (fun z => c252 z.1)).2.1
              have hjb : ((1 : Int64)).toInt = kb.toInt := by rw [(rb0.resolve_left (fun z => c252 z.1)).2.2, (hvc.resolve_left c272)]; rfl
              have sa : SRC (ga.toInt64) (EA la) (XA la) (KA la) := by rw [← hla]; exact own_src Ba.1 Ba.2.1
              have sb : SRC (gc.toInt64) (EA lb) (XA lb) (KA lb) := by rw [← hlb]; exact own_src Bb.1 Bb.2.1
              refine own_callS (n := 283) X13 hx hZ hown (hw _ (List.mem_of_getElem? (i := 82) rfl)) (hw _ (List.mem_of_getElem? (i := 83) rfl)) (hw _ (List.mem_of_getElem? (i := 2) rfl)) (hw _ (List.mem_of_getElem? (i := 84) rfl)) (by decide) e13 (rm11 l Z a0 hw [] (ga.toInt64) (0 : Int64) (gc.toInt64) (1 : Int64) ka.toInt.toNat kb.toInt.toNat (EA la) (EA lb) (XA la) (XA lb) (KA la) (KA lb) h13 n0 Z13 sa sb (own_nat Ba.2.2.1 hja) (own_nat Bb.2.2.1 hjb) (by have := Ba.2.2.2.1; omega) (by have := Bb.2.2.2.1; omega) (own_eab Ba) (own_eab Bb) (own_kaz Ba) (own_kaz Bb)) (W := 0) (by decide) (by decide) (by decide) (by decide) (by rw [hml]; rfl) (argsL := [(.long (ga.toInt64)), (.long (0 : Int64)), (.long (gc.toInt64)), (.long (1 : Int64))]) (rest := []) pd_11 rfl (by rfl) (Nat.le_of_eq rfl) (hb hby at_280) rfl rfl ?_
              intro v24 T24 h24 L24 X24 e24 q24
              obtain ⟨w24, rfl, wa24, wb24, M24, rfl⟩ := q24
              have N24 := Fr.app N13 M24
              refine own_istore (n := 285) X24 hx (hb hby at_283) (l' := #[.val (.int p1), .val (.int p2), .val (.int p3), .val (.int p4), .val (.int p5), .val (.int ma), .val (.int mb), .val (.int va), .val (.int vb), .val (.int vc), .val (.int vd), .val (.int ve), .val (.int (Nat.toInt32 on)), .val (.int (Nat.toInt32 on)), .val (.int ((Nat.toInt32 on) + (1 : Int32))), .val (.int ga), .val (.int gb), .val (.int gc), .val (.int gd), .val (.ref ra), .val (.int (1 : Int32)), .val (.int r13), .val (.int w24), .unset, .unset, .unset, .unset, .unset]) rfl rfl ?_
              refine own_iload (n := 287) X24 hx (hb hby at_285) rfl rfl ?_
              refine own_iload (n := 289) X24 hx (hb hby at_287) rfl rfl ?_
              refine own_callS (n := 292) X24 hx hZ hown (hw _ (List.mem_of_getElem? (i := 85) rfl)) (hw _ (List.mem_of_getElem? (i := 86) rfl)) (hw _ (List.mem_of_getElem? (i := 2) rfl)) (hw _ (List.mem_of_getElem? (i := 87) rfl)) (by decide) e24 (rm12 l Z a0 hw [] w24 r13 h13 n0 Z13 (GD _ wa24 wb24)) (W := 0) (by decide) (by decide) (by decide) (by decide) (by rw [hml]; rfl) (argsL := [(.int w24), (.int r13)]) (rest := []) pd_12 rfl (by rfl) (Nat.le_of_eq rfl) (hb hby at_289) rfl rfl ?_
              intro v25 T25 h25 L25 X25 e25 q25
              obtain ⟨rfl, M25, rfl⟩ := q25
              have N25 := Fr.app N24 M25
              refine own_istore (n := 294) X25 hx (hb hby at_292) (l' := #[.val (.int p1), .val (.int p2), .val (.int p3), .val (.int p4), .val (.int p5), .val (.int ma), .val (.int mb), .val (.int va), .val (.int vb), .val (.int vc), .val (.int vd), .val (.int ve), .val (.int (Nat.toInt32 on)), .val (.int (Nat.toInt32 on)), .val (.int ((Nat.toInt32 on) + (1 : Int32))), .val (.int ga), .val (.int gb), .val (.int gc), .val (.int gd), .val (.ref ra), .val (.int (1 : Int32)), .val (.int r13), .val (.int w24), .unset, .unset, .unset, .unset, .unset]) rfl rfl ?_
              show Ends p e below (EF s 72 320) (Q0 Z p1 p2 p3 p4 p5  h0 n0) (T25.setTop (mkF m 294 #[.val (.int p1), .val (.int p2), .val (.int p3), .val (.int p4), .val (.int p5), .val (.int ma), .val (.int mb), .val (.int va), .val (.int vb), .val (.int vc), .val (.int vd), .val (.int ve), .val (.int (Nat.toInt32 on)), .val (.int (Nat.toInt32 on)), .val (.int ((Nat.toInt32 on) + (1 : Int32))), .val (.int ga), .val (.int gb), .val (.int gc), .val (.int gd), .val (.ref ra), .val (.int (1 : Int32)), .val (.int r13), .val (.int w24), .unset, .unset, .unset, .unset, .unset] []))
              exact ku _ _ _ ma mb va vb vc vd ve on ga gb gc gd ra la ka lb kb 1 r13 ob (.val (.int r13)) (.val (.int w24)) (own_more X25 (by decide) (by decide)) e25 N25 Z13 hma hmb hva hvb hvc hvd hve hon hga hgb hgc hgd OL13 CL13 Ba Bb kv13 ra0 rb0 hob (One.val rfl) (One.val rfl)
        · refine own_ifNo (n := 244) X13 hx (hb hby at_241) (Jvm.Free.XT.i0_eq_f c241) rfl ?_
          refine own_lconst (n := 245) X13 hx (1 : Int64) (hb hby at_244) rfl rfl ?_
          refine own_goto (n := 249) X13 hx (hb hby at_245) (by decide) (by decide) ?_
          refine own_iload (n := 251) X13 hx (hb hby at_249) rfl rfl ?_
          refine own_iconst (n := 252) X13 hx (1 : Int32) (hb hby at_251) rfl rfl ?_
          by_cases c252 : mb < (1 : Int32)
          · refine own_icmpYes (n := 261) X13 hx (hb hby at_252) (Jvm.Free.XT.ii_lt_t c252) (by decide) (by decide) ?_
            refine own_ldc2_w (n := 264) X13 hx hZ hown (hw _ (List.mem_of_getElem? (i := 81) rfl)) (hb hby at_261) rfl ?_
            refine own_iload (n := 266) X13 hx (hb hby at_264) rfl rfl ?_
            refine own_iconst (n := 267) X13 hx (1 : Int32) (hb hby at_266) rfl rfl ?_
            refine own_icmpYes (n := 279) X13 hx (hb hby at_267) (Jvm.Free.XT.ii_lt_t c252) (by decide) (by decide) ?_
            refine own_lconst (n := 280) X13 hx (0 : Int64) (hb hby at_279) rfl rfl ?_
            have hla : la = ga := (ra0.resolve_left (fun z => c221 z.1)).2.1
            have hja : ((1 : Int64)).toInt = ka.toInt := by rw [(ra0.resolve_left (fun z => c221 z.1)).2.2, (hva.resolve_left c241)]; rfl
            have hlb : lb = -1 := (rb0.resolve_right (fun z => z.1 c252)).2.1
            have hjb : ((0 : Int64)).toInt = kb.toInt := by rw [(rb0.resolve_right (fun z => z.1 c252)).2.2]; rfl
            have sa : SRC (ga.toInt64) (EA la) (XA la) (KA la) := by rw [← hla]; exact own_src Ba.1 Ba.2.1
            have sb : SRC (-1 : Int64) (EA lb) (XA lb) (KA lb) := by have q := own_src (l := lb) Bb.1 Bb.2.1; rw [hlb] at q ⊢; exact q
            refine own_callS (n := 283) X13 hx hZ hown (hw _ (List.mem_of_getElem? (i := 82) rfl)) (hw _ (List.mem_of_getElem? (i := 83) rfl)) (hw _ (List.mem_of_getElem? (i := 2) rfl)) (hw _ (List.mem_of_getElem? (i := 84) rfl)) (by decide) e13 (rm11 l Z a0 hw [] (ga.toInt64) (1 : Int64) (-1 : Int64) (0 : Int64) ka.toInt.toNat kb.toInt.toNat (EA la) (EA lb) (XA la) (XA lb) (KA la) (KA lb) h13 n0 Z13 sa sb (own_nat Ba.2.2.1 hja) (own_nat Bb.2.2.1 hjb) (by have := Ba.2.2.2.1; omega) (by have := Bb.2.2.2.1; omega) (own_eab Ba) (own_eab Bb) (own_kaz Ba) (own_kaz Bb)) (W := 0) (by decide) (by decide) (by decide) (by decide) (by rw [hml]; rfl) (argsL := [(.long (ga.toInt64)), (.long (1 : Int64)), (.long (-1 : Int64)), (.long (0 : Int64))]) (rest := []) pd_11 rfl (by rfl) (Nat.le_of_eq rfl) (hb hby at_280) rfl rfl ?_
            intro v26 T26 h26 L26 X26 e26 q26
            obtain ⟨w26, rfl, wa26, wb26, M26, rfl⟩ := q26
            have N26 := Fr.app N13 M26
            refine own_istore (n := 285) X26 hx (hb hby at_283) (l' := #[.val (.int p1), .val (.int p2), .val (.int p3), .val (.int p4), .val (.int p5), .val (.int ma), .val (.int mb), .val (.int va), .val (.int vb), .val (.int vc), .val (.int vd), .val (.int ve), .val (.int (Nat.toInt32 on)), .val (.int (Nat.toInt32 on)), .val (.int ((Nat.toInt32 on) + (1 : Int32))), .val (.int ga), .val (.int gb), .val (.int gc), .val (.int gd), .val (.ref ra), .val (.int (1 : Int32)), .val (.int r13), .val (.int w26), .unset, .unset, .unset, .unset, .unset]) rfl rfl ?_
            refine own_iload (n := 287) X26 hx (hb hby at_285) rfl rfl ?_
            refine own_iload (n := 289) X26 hx (hb hby at_287) rfl rfl ?_
            refine own_callS (n := 292) X26 hx hZ hown (hw _ (List.mem_of_getElem? (i := 85) rfl)) (hw _ (List.mem_of_getElem? (i := 86) rfl)) (hw _ (List.mem_of_getElem? (i := 2) rfl)) (hw _ (List.mem_of_getElem? (i := 87) rfl)) (by decide) e26 (rm12 l Z a0 hw [] w26 r13 h13 n0 Z13 (GD _ wa26 wb26)) (W := 0) (by decide) (by decide) (by decide) (by decide) (by rw [hml]; rfl) (argsL := [(.int w26), (.int r13)]) (rest := []) pd_12 rfl (by rfl) (Nat.le_of_eq rfl) (hb hby at_289) rfl rfl ?_
            intro v27 T27 h27 L27 X27 e27 q27
            obtain ⟨rfl, M27, rfl⟩ := q27
            have N27 := Fr.app N26 M27
            refine own_istore (n := 294) X27 hx (hb hby at_292) (l' := #[.val (.int p1), .val (.int p2), .val (.int p3), .val (.int p4), .val (.int p5), .val (.int ma), .val (.int mb), .val (.int va), .val (.int vb), .val (.int vc), .val (.int vd), .val (.int ve), .val (.int (Nat.toInt32 on)), .val (.int (Nat.toInt32 on)), .val (.int ((Nat.toInt32 on) + (1 : Int32))), .val (.int ga), .val (.int gb), .val (.int gc), .val (.int gd), .val (.ref ra), .val (.int (1 : Int32)), .val (.int r13), .val (.int w26), .unset, .unset, .unset, .unset, .unset]) rfl rfl ?_
            show Ends p e below (EF s 72 320) (Q0 Z p1 p2 p3 p4 p5  h0 n0) (T27.setTop (mkF m 294 #[.val (.int p1), .val (.int p2), .val (.int p3), .val (.int p4), .val (.int p5), .val (.int ma), .val (.int mb), .val (.int va), .val (.int vb), .val (.int vc), .val (.int vd), .val (.int ve), .val (.int (Nat.toInt32 on)), .val (.int (Nat.toInt32 on)), .val (.int ((Nat.toInt32 on) + (1 : Int32))), .val (.int ga), .val (.int gb), .val (.int gc), .val (.int gd), .val (.ref ra), .val (.int (1 : Int32)), .val (.int r13), .val (.int w26), .unset, .unset, .unset, .unset, .unset] []))
            exact ku _ _ _ ma mb va vb vc vd ve on ga gb gc gd ra la ka lb kb 1 r13 ob (.val (.int r13)) (.val (.int w26)) (own_more X27 (by decide) (by decide)) e27 N27 Z13 hma hmb hva hvb hvc hvd hve hon hga hgb hgc hgd OL13 CL13 Ba Bb kv13 ra0 rb0 hob (One.val rfl) (One.val rfl)
          · refine own_icmpNo (n := 255) X13 hx (hb hby at_252) (Jvm.Free.XT.ii_lt_f c252) rfl ?_
            refine own_iload (n := 257) X13 hx (hb hby at_255) rfl rfl ?_
            refine own_i2l (n := 258) X13 hx (hb hby at_257) rfl ?_
            refine own_goto (n := 264) X13 hx (hb hby at_258) (by decide) (by decide) ?_
            refine own_iload (n := 266) X13 hx (hb hby at_264) rfl rfl ?_
            refine own_iconst (n := 267) X13 hx (1 : Int32) (hb hby at_266) rfl rfl ?_
            refine own_icmpNo (n := 270) X13 hx (hb hby at_267) (Jvm.Free.XT.ii_lt_f c252) rfl ?_
            refine own_iload (n := 272) X13 hx (hb hby at_270) rfl rfl ?_
            by_cases c272 : vc = 0
            · refine own_ifYes (n := 279) X13 hx (hb hby at_272) (Jvm.Free.XT.i0_eq_t c272) (by decide) (by decide) ?_
              refine own_lconst (n := 280) X13 hx (0 : Int64) (hb hby at_279) rfl rfl ?_
              have hla : la = ga := (ra0.resolve_left (fun z => c221 z.1)).2.1
              have hja : ((1 : Int64)).toInt = ka.toInt := by rw [(ra0.resolve_left (fun z => c221 z.1)).2.2, (hva.resolve_left c241)]; rfl
              have hlb : lb = gc := (rb0.resolve_left (fun z => c252 z.1)).2.1
              have hjb : ((0 : Int64)).toInt = kb.toInt := by rw [(rb0.resolve_left (fun z => c252 z.1)).2.2, c272]; rfl
              have sa : SRC (ga.toInt64) (EA la) (XA la) (KA la) := by rw [← hla]; exact own_src Ba.1 Ba.2.1
              have sb : SRC (gc.toInt64) (EA lb) (XA lb) (KA lb) := by rw [← hlb]; exact own_src Bb.1 Bb.2.1
              refine own_callS (n := 283) X13 hx hZ hown (hw _ (List.mem_of_getElem? (i := 82) rfl)) (hw _ (List.mem_of_getElem? (i := 83) rfl)) (hw _ (List.mem_of_getElem? (i := 2) rfl)) (hw _ (List.mem_of_getElem? (i := 84) rfl)) (by decide) e13 (rm11 l Z a0 hw [] (ga.toInt64) (1 : Int64) (gc.toInt64) (0 : Int64) ka.toInt.toNat kb.toInt.toNat (EA la) (EA lb) (XA la) (XA lb) (KA la) (KA lb) h13 n0 Z13 sa sb (own_nat Ba.2.2.1 hja) (own_nat Bb.2.2.1 hjb) (by have := Ba.2.2.2.1; omega) (by have := Bb.2.2.2.1; omega) (own_eab Ba) (own_eab Bb) (own_kaz Ba) (own_kaz Bb)) (W := 0) (by decide) (by decide) (by decide) (by decide) (by rw [hml]; rfl) (argsL := [(.long (ga.toInt64)), (.long (1 : Int64)), (.long (gc.toInt64)), (.long (0 : Int64))]) (rest := []) pd_11 rfl (by rfl) (Nat.le_of_eq rfl) (hb hby at_280) rfl rfl ?_
              intro v28 T28 h28 L28 X28 e28 q28
              obtain ⟨w28, rfl, wa28, wb28, M28, rfl⟩ := q28
              have N28 := Fr.app N13 M28
              refine own_istore (n := 285) X28 hx (hb hby at_283) (l' := #[.val (.int p1), .val (.int p2), .val (.int p3), .val (.int p4), .val (.int p5), .val (.int ma), .val (.int mb), .val (.int va), .val (.int vb), .val (.int vc), .val (.int vd), .val (.int ve), .val (.int (Nat.toInt32 on)), .val (.int (Nat.toInt32 on)), .val (.int ((Nat.toInt32 on) + (1 : Int32))), .val (.int ga), .val (.int gb), .val (.int gc), .val (.int gd), .val (.ref ra), .val (.int (1 : Int32)), .val (.int r13), .val (.int w28), .unset, .unset, .unset, .unset, .unset]) rfl rfl ?_
              refine own_iload (n := 287) X28 hx (hb hby at_285) rfl rfl ?_
              refine own_iload (n := 289) X28 hx (hb hby at_287) rfl rfl ?_
              refine own_callS (n := 292) X28 hx hZ hown (hw _ (List.mem_of_getElem? (i := 85) rfl)) (hw _ (List.mem_of_getElem? (i := 86) rfl)) (hw _ (List.mem_of_getElem? (i := 2) rfl)) (hw _ (List.mem_of_getElem? (i := 87) rfl)) (by decide) e28 (rm12 l Z a0 hw [] w28 r13 h13 n0 Z13 (GD _ wa28 wb28)) (W := 0) (by decide) (by decide) (by decide) (by decide) (by rw [hml]; rfl) (argsL := [(.int w28), (.int r13)]) (rest := []) pd_12 rfl (by rfl) (Nat.le_of_eq rfl) (hb hby at_289) rfl rfl ?_
              intro v29 T29 h29 L29 X29 e29 q29
              obtain ⟨rfl, M29, rfl⟩ := q29
              have N29 := Fr.app N28 M29
              refine own_istore (n := 294) X29 hx (hb hby at_292) (l' := #[.val (.int p1), .val (.int p2), .val (.int p3), .val (.int p4), .val (.int p5), .val (.int ma), .val (.int mb), .val (.int va), .val (.int vb), .val (.int vc), .val (.int vd), .val (.int ve), .val (.int (Nat.toInt32 on)), .val (.int (Nat.toInt32 on)), .val (.int ((Nat.toInt32 on) + (1 : Int32))), .val (.int ga), .val (.int gb), .val (.int gc), .val (.int gd), .val (.ref ra), .val (.int (1 : Int32)), .val (.int r13), .val (.int w28), .unset, .unset, .unset, .unset, .unset]) rfl rfl ?_
              show Ends p e below (EF s 72 320) (Q0 Z p1 p2 p3 p4 p5  h0 n0) (T29.setTop (mkF m 294 #[.val (.int p1), .val (.int p2), .val (.int p3), .val (.int p4), .val (.int p5), .val (.int ma), .val (.int mb), .val (.int va), .val (.int vb), .val (.int vc), .val (.int vd), .val (.int ve), .val (.int (Nat.toInt32 on)), .val (.int (Nat.toInt32 on)), .val (.int ((Nat.toInt32 on) + (1 : Int32))), .val (.int ga), .val (.int gb), .val (.int gc), .val (.int gd), .val (.ref ra), .val (.int (1 : Int32)), .val (.int r13), .val (.int w28), .unset, .unset, .unset, .unset, .unset] []))
              exact ku _ _ _ ma mb va vb vc vd ve on ga gb gc gd ra la ka lb kb 1 r13 ob (.val (.int r13)) (.val (.int w28)) (own_more X29 (by decide) (by decide)) e29 N29 Z13 hma hmb hva hvb hvc hvd hve hon hga hgb hgc hgd OL13 CL13 Ba Bb kv13 ra0 rb0 hob (One.val rfl) (One.val rfl)
            · refine own_ifNo (n := 275) X13 hx (hb hby at_272) (Jvm.Free.XT.i0_eq_f c272) rfl ?_
              refine own_lconst (n := 276) X13 hx (1 : Int64) (hb hby at_275) rfl rfl ?_
              refine own_goto (n := 280) X13 hx (hb hby at_276) (by decide) (by decide) ?_
              have hla : la = ga := (ra0.resolve_left (fun z => c221 z.1)).2.1
              have hja : ((1 : Int64)).toInt = ka.toInt := by rw [(ra0.resolve_left (fun z => c221 z.1)).2.2, (hva.resolve_left c241)]; rfl
              have hlb : lb = gc := (rb0.resolve_left (fun z => c252 z.1)).2.1
              have hjb : ((1 : Int64)).toInt = kb.toInt := by rw [(rb0.resolve_left (fun z => c252 z.1)).2.2, (hvc.resolve_left c272)]; rfl
              have sa : SRC (ga.toInt64) (EA la) (XA la) (KA la) := by rw [← hla]; exact own_src Ba.1 Ba.2.1
              have sb : SRC (gc.toInt64) (EA lb) (XA lb) (KA lb) := by rw [← hlb]; exact own_src Bb.1 Bb.2.1
              refine own_callS (n := 283) X13 hx hZ hown (hw _ (List.mem_of_getElem? (i := 82) rfl)) (hw _ (List.mem_of_getElem? (i := 83) rfl)) (hw _ (List.mem_of_getElem? (i := 2) rfl)) (hw _ (List.mem_of_getElem? (i := 84) rfl)) (by decide) e13 (rm11 l Z a0 hw [] (ga.toInt64) (1 : Int64) (gc.toInt64) (1 : Int64) ka.toInt.toNat kb.toInt.toNat (EA la) (EA lb) (XA la) (XA lb) (KA la) (KA lb) h13 n0 Z13 sa sb (own_nat Ba.2.2.1 hja) (own_nat Bb.2.2.1 hjb) (by have := Ba.2.2.2.1; omega) (by have := Bb.2.2.2.1; omega) (own_eab Ba) (own_eab Bb) (own_kaz Ba) (own_kaz Bb)) (W := 0) (by decide) (by decide) (by decide) (by decide) (by rw [hml]; rfl) (argsL := [(.long (ga.toInt64)), (.long (1 : Int64)), (.long (gc.toInt64)), (.long (1 : Int64))]) (rest := []) pd_11 rfl (by rfl) (Nat.le_of_eq rfl) (hb hby at_280) rfl rfl ?_
              intro v30 T30 h30 L30 X30 e30 q30
              obtain ⟨w30, rfl, wa30, wb30, M30, rfl⟩ := q30
              have N30 := Fr.app N13 M30
              refine own_istore (n := 285) X30 hx (hb hby at_283) (l' := #[.val (.int p1), .val (.int p2), .val (.int p3), .val (.int p4), .val (.int p5), .val (.int ma), .val (.int mb), .val (.int va), .val (.int vb), .val (.int vc), .val (.int vd), .val (.int ve), .val (.int (Nat.toInt32 on)), .val (.int (Nat.toInt32 on)), .val (.int ((Nat.toInt32 on) + (1 : Int32))), .val (.int ga), .val (.int gb), .val (.int gc), .val (.int gd), .val (.ref ra), .val (.int (1 : Int32)), .val (.int r13), .val (.int w30), .unset, .unset, .unset, .unset, .unset]) rfl rfl ?_
              refine own_iload (n := 287) X30 hx (hb hby at_285) rfl rfl ?_
              refine own_iload (n := 289) X30 hx (hb hby at_287) rfl rfl ?_
              refine own_callS (n := 292) X30 hx hZ hown (hw _ (List.mem_of_getElem? (i := 85) rfl)) (hw _ (List.mem_of_getElem? (i := 86) rfl)) (hw _ (List.mem_of_getElem? (i := 2) rfl)) (hw _ (List.mem_of_getElem? (i := 87) rfl)) (by decide) e30 (rm12 l Z a0 hw [] w30 r13 h13 n0 Z13 (GD _ wa30 wb30)) (W := 0) (by decide) (by decide) (by decide) (by decide) (by rw [hml]; rfl) (argsL := [(.int w30), (.int r13)]) (rest := []) pd_12 rfl (by rfl) (Nat.le_of_eq rfl) (hb hby at_289) rfl rfl ?_
              intro v31 T31 h31 L31 X31 e31 q31
              obtain ⟨rfl, M31, rfl⟩ := q31
              have N31 := Fr.app N30 M31
              refine own_istore (n := 294) X31 hx (hb hby at_292) (l' := #[.val (.int p1), .val (.int p2), .val (.int p3), .val (.int p4), .val (.int p5), .val (.int ma), .val (.int mb), .val (.int va), .val (.int vb), .val (.int vc), .val (.int vd), .val (.int ve), .val (.int (Nat.toInt32 on)), .val (.int (Nat.toInt32 on)), .val (.int ((Nat.toInt32 on) + (1 : Int32))), .val (.int ga), .val (.int gb), .val (.int gc), .val (.int gd), .val (.ref ra), .val (.int (1 : Int32)), .val (.int r13), .val (.int w30), .unset, .unset, .unset, .unset, .unset]) rfl rfl ?_
              show Ends p e below (EF s 72 320) (Q0 Z p1 p2 p3 p4 p5  h0 n0) (T31.setTop (mkF m 294 #[.val (.int p1), .val (.int p2), .val (.int p3), .val (.int p4), .val (.int p5), .val (.int ma), .val (.int mb), .val (.int va), .val (.int vb), .val (.int vc), .val (.int vd), .val (.int ve), .val (.int (Nat.toInt32 on)), .val (.int (Nat.toInt32 on)), .val (.int ((Nat.toInt32 on) + (1 : Int32))), .val (.int ga), .val (.int gb), .val (.int gc), .val (.int gd), .val (.ref ra), .val (.int (1 : Int32)), .val (.int r13), .val (.int w30), .unset, .unset, .unset, .unset, .unset] []))
              exact ku _ _ _ ma mb va vb vc vd ve on ga gb gc gd ra la ka lb kb 1 r13 ob (.val (.int r13)) (.val (.int w30)) (own_more X31 (by decide) (by decide)) e31 N31 Z13 hma hmb hva hvb hvc hvd hve hon hga hgb hgc hgd OL13 CL13 Ba Bb kv13 ra0 rb0 hob (One.val rfl) (One.val rfl)
  have ks : ∀ (TB : State) (hB : Heap) (lB : List Loc) (ma : Int32) (mb : Int32) (va : Int32) (vb : Int32) (vc : Int32) (vd : Int32) (ve : Int32) (on : Nat) (ga : Int32) (gb : Int32) (gc : Int32) (gd : Int32) (ra : Addr) (la : Int32) (ka : Int32) (lb : Int32) (kb : Int32) (kn : Int32) (av : Int32) (ob : Nat) (XB : Stand p l e room_1 s m #[(.int p1), (.int p2), (.int p3), (.int p4), (.int p5)] below meth c TB lB (22) (94)) (eB : TB.heap = hB) (NB : Fr n0 lB) (ZB : n0 ≤ hB.size) (hma : 0 ≤ ma.toInt ∧ ma.toInt ≤ 2) (hmb : 0 ≤ mb.toInt ∧ mb.toInt ≤ 2) (hva : va = 0 ∨ va = 1) (hvb : vb = 0 ∨ vb = 1) (hvc : vc = 0 ∨ vc = 1) (hvd : vd = 0 ∨ vd = 1) (hve : ve = 0 ∨ ve = 1) (hon : on < 2) (hga : 0 ≤ ga.toInt ∧ ga.toInt < 536870912) (hgb : 0 ≤ gb.toInt ∧ gb.toInt < 536870912 ∧ (ma = 2 → ga.toInt < gb.toInt) ∧ (¬ ma = 2 → gb = ga)) (hgc : 0 ≤ gc.toInt ∧ gc.toInt < 536870912) (hgd : 0 ≤ gd.toInt ∧ gd.toInt < 536870912 ∧ (mb = 2 → gc.toInt < gd.toInt) ∧ (¬ mb = 2 → gd = gc)) (OB : Old Z n0 hB) (CL : CRL Z hB n0 ra on la ka lb kb kn av ob) (Ba : BND la ka) (Bb : BND lb kb) (kv : KV kn av la ka lb kb) (ra0 : (ma < 1 ∧ la = -1 ∧ ka.toInt = 0) ∨ (¬ ma < 1 ∧ la = ga ∧ ka.toInt = va.toInt)) (elb : lb = -1) (ekb : kb = 0) (hob : ob ≤ 1), Ends p e below (EF s 72 320) (Q0 Z p1 p2 p3 p4 p5  h0 n0) (TB.setTop (mkF m 186 #[.val (.int p1), .val (.int p2), .val (.int p3), .val (.int p4), .val (.int p5), .val (.int ma), .val (.int mb), .val (.int va), .val (.int vb), .val (.int vc), .val (.int vd), .val (.int ve), .val (.int (Nat.toInt32 on)), .val (.int (Nat.toInt32 on)), .val (.int ((Nat.toInt32 on) + (1 : Int32))), .val (.int ga), .val (.int gb), .val (.int gc), .val (.int gd), .val (.ref ra), .unset, .unset, .unset, .unset, .unset, .unset, .unset, .unset] [])) := by
    intro TB hB lB ma mb va vb vc vd ve on ga gb gc gd ra la ka lb kb kn av ob XB eB NB ZB hma hmb hva hvb hvc hvd hve hon hga hgb hgc hgd OB CL Ba Bb kv ra0 elb ekb hob
    refine own_iload (n := 188) XB hx (hb hby at_186) rfl rfl ?_
    refine own_iconst (n := 189) XB hx (1 : Int32) (hb hby at_188) rfl rfl ?_
    by_cases c189 : mb < (1 : Int32)
    · refine own_icmpYes (n := 203) XB hx (hb hby at_189) (Jvm.Free.XT.ii_lt_t c189) (by decide) (by decide) ?_
      have cz : kb.toInt = 0 := by rw [ekb]; rfl
      show Ends p e below (EF s 72 320) (Q0 Z p1 p2 p3 p4 p5  h0 n0) (TB.setTop (mkF m 203 #[.val (.int p1), .val (.int p2), .val (.int p3), .val (.int p4), .val (.int p5), .val (.int ma), .val (.int mb), .val (.int va), .val (.int vb), .val (.int vc), .val (.int vd), .val (.int ve), .val (.int (Nat.toInt32 on)), .val (.int (Nat.toInt32 on)), .val (.int ((Nat.toInt32 on) + (1 : Int32))), .val (.int ga), .val (.int gb), .val (.int gc), .val (.int gd), .val (.ref ra), .unset, .unset, .unset, .unset, .unset, .unset, .unset, .unset] []))
      exact kt _ _ _ ma mb va vb vc vd ve on ga gb gc gd ra la ka lb kb kn av ob (own_more XB (by decide) (by decide)) eB NB ZB hma hmb hva hvb hvc hvd hve hon hga hgb hgc hgd OB CL Ba Bb kv ra0 (Or.inl ⟨c189, elb, cz⟩) (by omega)
    · refine own_icmpNo (n := 192) XB hx (hb hby at_189) (Jvm.Free.XT.ii_lt_f c189) rfl ?_
      refine own_aload (n := 194) XB hx (hb hby at_192) rfl rfl rfl ?_
      refine own_iload (n := 196) XB hx (hb hby at_194) rfl rfl ?_
      refine own_iload (n := 198) XB hx (hb hby at_196) rfl rfl ?_
      refine own_iload (n := 200) XB hx (hb hby at_198) rfl rfl ?_
      obtain ⟨lastf, chg, dsp, fs, pc, ps, S, hel, hec, ed, e1z, efs, epc, eps⟩ := CL
      have hlt : lb < gc := by rw [Int32.lt_iff_toInt_lt, elb]; have q := hgc.1; have o : (-1 : Int32).toInt = -1 := rfl; omega
      have hck : 0 ≤ kb.toInt ∧ kb.toInt ≤ 1 := by rw [ekb]; decide
      refine own_callV (n := 203) XB hx hZ hown (hw _ (List.mem_of_getElem? (i := 88) rfl)) (hw _ (List.mem_of_getElem? (i := 89) rfl)) (hw _ (List.mem_of_getElem? (i := 91) rfl)) (hw _ (List.mem_of_getElem? (i := 90) rfl)) (hw _ (List.mem_of_getElem? (i := 10) rfl)) (hw _ (List.mem_of_getElem? (i := 92) rfl)) (by decide) eB S.exa (rm13 l Z a0 hw [] ra gc ((Nat.toInt32 on) + (1 : Int32)) vc (2 + on) lastf chg dsp fs pc ps kn av ob (on + 1) hB n0 ZB OB S (by omega) (own_add1 (len_toInt (by omega)) (by omega)) (by omega) (by omega) (by rw [hel.2]; exact hlt) (fun z => by have q := hgc; rw [z] at q; have o : (2147483647 : Int32).toInt = 2147483647 := rfl; omega) hgc.1 (by rw [hec.2]; exact hck.1) (by rw [hec.2]; exact hck.2)) (W := 0) (by decide) (by decide) (by decide) (by decide) (by rw [hml]; rfl) (argsL := [(.int gc), (.int ((Nat.toInt32 on) + (1 : Int32))), (.int vc)]) (rest := []) pd_13 rfl (by rfl) (Nat.le_of_eq rfl) (hb hby at_200) rfl rfl ?_
      intro v32 T32 h32 L32 X32 e32 q32
      obtain ⟨rfl, M32, OL32, R32⟩ := q32
      have N32 := Fr.app NB M32
      have Z32 := own_oldz OL32
      have CN := own_ob1 R32 hel hec ed e1z efs epc eps Ba Bb hck.2 hgc.1 hgc.2
      have cv := own_cv hvc hck.1 hck.2
      have f3 := own_ob3 hvc
      have cz : kb.toInt = 0 := by rw [ekb]; rfl
      show Ends p e below (EF s 72 320) (Q0 Z p1 p2 p3 p4 p5  h0 n0) (T32.setTop (mkF m 203 #[.val (.int p1), .val (.int p2), .val (.int p3), .val (.int p4), .val (.int p5), .val (.int ma), .val (.int mb), .val (.int va), .val (.int vb), .val (.int vc), .val (.int vd), .val (.int ve), .val (.int (Nat.toInt32 on)), .val (.int (Nat.toInt32 on)), .val (.int ((Nat.toInt32 on) + (1 : Int32))), .val (.int ga), .val (.int gb), .val (.int gc), .val (.int gd), .val (.ref ra), .unset, .unset, .unset, .unset, .unset, .unset, .unset, .unset] []))
      exact kt _ _ _ ma mb va vb vc vd ve on ga gb gc gd ra la ka gc (if vc = 0 then kb else kb + 1) 0 av (ob + 1) (own_more X32 (by decide) (by decide)) e32 N32 Z32 hma hmb hva hvb hvc hvd hve hon hga hgb hgc hgd OL32 CN Ba ⟨by have := hgc.1; omega, hgc.2, by rw [cv]; omega, by rw [cv]; omega, fun z => by have := hgc.1; omega⟩ ⟨Or.inl rfl, kv.2.1, fun z => absurd z (by decide)⟩ ra0 (Or.inr ⟨c189, rfl, by rw [cv]; omega⟩) (by omega)
  have kr : ∀ (TB : State) (hB : Heap) (lB : List Loc) (ma : Int32) (mb : Int32) (va : Int32) (vb : Int32) (vc : Int32) (vd : Int32) (ve : Int32) (on : Nat) (ga : Int32) (gb : Int32) (gc : Int32) (gd : Int32) (ra : Addr) (la : Int32) (ka : Int32) (lb : Int32) (kb : Int32) (kn : Int32) (av : Int32) (ob : Nat) (XB : Stand p l e room_1 s m #[(.int p1), (.int p2), (.int p3), (.int p4), (.int p5)] below meth c TB lB (18) (62)) (eB : TB.heap = hB) (NB : Fr n0 lB) (ZB : n0 ≤ hB.size) (hma : 0 ≤ ma.toInt ∧ ma.toInt ≤ 2) (hmb : 0 ≤ mb.toInt ∧ mb.toInt ≤ 2) (hva : va = 0 ∨ va = 1) (hvb : vb = 0 ∨ vb = 1) (hvc : vc = 0 ∨ vc = 1) (hvd : vd = 0 ∨ vd = 1) (hve : ve = 0 ∨ ve = 1) (hon : on < 2) (hga : 0 ≤ ga.toInt ∧ ga.toInt < 536870912) (hgb : 0 ≤ gb.toInt ∧ gb.toInt < 536870912 ∧ (ma = 2 → ga.toInt < gb.toInt) ∧ (¬ ma = 2 → gb = ga)) (hgc : 0 ≤ gc.toInt ∧ gc.toInt < 536870912) (hgd : 0 ≤ gd.toInt ∧ gd.toInt < 536870912 ∧ (mb = 2 → gc.toInt < gd.toInt) ∧ (¬ mb = 2 → gd = gc)) (OB : Old Z n0 hB) (CL : CRL Z hB n0 ra on la ka lb kb kn av ob) (Ba : BND la ka) (Bb : BND lb kb) (kv : KV kn av la ka lb kb) (ela : la = -1) (eka : ka = 0) (elb : lb = -1) (ekb : kb = 0) (hob : ob ≤ 0), Ends p e below (EF s 72 320) (Q0 Z p1 p2 p3 p4 p5  h0 n0) (TB.setTop (mkF m 169 #[.val (.int p1), .val (.int p2), .val (.int p3), .val (.int p4), .val (.int p5), .val (.int ma), .val (.int mb), .val (.int va), .val (.int vb), .val (.int vc), .val (.int vd), .val (.int ve), .val (.int (Nat.toInt32 on)), .val (.int (Nat.toInt32 on)), .val (.int ((Nat.toInt32 on) + (1 : Int32))), .val (.int ga), .val (.int gb), .val (.int gc), .val (.int gd), .val (.ref ra), .unset, .unset, .unset, .unset, .unset, .unset, .unset, .unset] [])) := by
    intro TB hB lB ma mb va vb vc vd ve on ga gb gc gd ra la ka lb kb kn av ob XB eB NB ZB hma hmb hva hvb hvc hvd hve hon hga hgb hgc hgd OB CL Ba Bb kv ela eka elb ekb hob
    refine own_iload (n := 171) XB hx (hb hby at_169) rfl rfl ?_
    refine own_iconst (n := 172) XB hx (1 : Int32) (hb hby at_171) rfl rfl ?_
    by_cases c172 : ma < (1 : Int32)
    · refine own_icmpYes (n := 186) XB hx (hb hby at_172) (Jvm.Free.XT.ii_lt_t c172) (by decide) (by decide) ?_
      have cz : ka.toInt = 0 := by rw [eka]; rfl
      show Ends p e below (EF s 72 320) (Q0 Z p1 p2 p3 p4 p5  h0 n0) (TB.setTop (mkF m 186 #[.val (.int p1), .val (.int p2), .val (.int p3), .val (.int p4), .val (.int p5), .val (.int ma), .val (.int mb), .val (.int va), .val (.int vb), .val (.int vc), .val (.int vd), .val (.int ve), .val (.int (Nat.toInt32 on)), .val (.int (Nat.toInt32 on)), .val (.int ((Nat.toInt32 on) + (1 : Int32))), .val (.int ga), .val (.int gb), .val (.int gc), .val (.int gd), .val (.ref ra), .unset, .unset, .unset, .unset, .unset, .unset, .unset, .unset] []))
      exact ks _ _ _ ma mb va vb vc vd ve on ga gb gc gd ra la ka lb kb kn av ob (own_more XB (by decide) (by decide)) eB NB ZB hma hmb hva hvb hvc hvd hve hon hga hgb hgc hgd OB CL Ba Bb kv (Or.inl ⟨c172, ela, cz⟩) elb ekb (by omega)
    · refine own_icmpNo (n := 175) XB hx (hb hby at_172) (Jvm.Free.XT.ii_lt_f c172) rfl ?_
      refine own_aload (n := 177) XB hx (hb hby at_175) rfl rfl rfl ?_
      refine own_iload (n := 179) XB hx (hb hby at_177) rfl rfl ?_
      refine own_iload (n := 181) XB hx (hb hby at_179) rfl rfl ?_
      refine own_iload (n := 183) XB hx (hb hby at_181) rfl rfl ?_
      obtain ⟨lastf, chg, dsp, fs, pc, ps, S, hel, hec, ed, e1z, efs, epc, eps⟩ := CL
      have hlt : la < ga := by rw [Int32.lt_iff_toInt_lt, ela]; have q := hga.1; have o : (-1 : Int32).toInt = -1 := rfl; omega
      have hck : 0 ≤ ka.toInt ∧ ka.toInt ≤ 1 := by rw [eka]; decide
      refine own_callV (n := 186) XB hx hZ hown (hw _ (List.mem_of_getElem? (i := 88) rfl)) (hw _ (List.mem_of_getElem? (i := 89) rfl)) (hw _ (List.mem_of_getElem? (i := 91) rfl)) (hw _ (List.mem_of_getElem? (i := 90) rfl)) (hw _ (List.mem_of_getElem? (i := 10) rfl)) (hw _ (List.mem_of_getElem? (i := 92) rfl)) (by decide) eB S.exa (rm13 l Z a0 hw [] ra ga (Nat.toInt32 on) va (2 + on) lastf chg dsp fs pc ps kn av ob on hB n0 ZB OB S (by omega) (len_toInt (by omega)) (by omega) (by omega) (by rw [hel.1]; exact hlt) (fun z => by have q := hga; rw [z] at q; have o : (2147483647 : Int32).toInt = 2147483647 := rfl; omega) hga.1 (by rw [hec.1]; exact hck.1) (by rw [hec.1]; exact hck.2)) (W := 0) (by decide) (by decide) (by decide) (by decide) (by rw [hml]; rfl) (argsL := [(.int ga), (.int (Nat.toInt32 on)), (.int va)]) (rest := []) pd_13 rfl (by rfl) (Nat.le_of_eq rfl) (hb hby at_183) rfl rfl ?_
      intro v33 T33 h33 L33 X33 e33 q33
      obtain ⟨rfl, M33, OL33, R33⟩ := q33
      have N33 := Fr.app NB M33
      have Z33 := own_oldz OL33
      have CN := own_ob0 R33 hel hec ed e1z efs epc eps Ba Bb hck.2 hga.1 hga.2
      have cv := own_cv hva hck.1 hck.2
      have f3 := own_ob3 hva
      have cz : ka.toInt = 0 := by rw [eka]; rfl
      show Ends p e below (EF s 72 320) (Q0 Z p1 p2 p3 p4 p5  h0 n0) (T33.setTop (mkF m 186 #[.val (.int p1), .val (.int p2), .val (.int p3), .val (.int p4), .val (.int p5), .val (.int ma), .val (.int mb), .val (.int va), .val (.int vb), .val (.int vc), .val (.int vd), .val (.int ve), .val (.int (Nat.toInt32 on)), .val (.int (Nat.toInt32 on)), .val (.int ((Nat.toInt32 on) + (1 : Int32))), .val (.int ga), .val (.int gb), .val (.int gc), .val (.int gd), .val (.ref ra), .unset, .unset, .unset, .unset, .unset, .unset, .unset, .unset] []))
      exact ks _ _ _ ma mb va vb vc vd ve on ga gb gc gd ra ga (if va = 0 then ka else ka + 1) lb kb 0 av (ob + 1) (own_more X33 (by decide) (by decide)) e33 N33 Z33 hma hmb hva hvb hvc hvd hve hon hga hgb hgc hgd OL33 CN ⟨by have := hga.1; omega, hga.2, by rw [cv]; omega, by rw [cv]; omega, fun z => by have := hga.1; omega⟩ Bb ⟨Or.inl rfl, kv.2.1, fun z => absurd z (by decide)⟩ (Or.inr ⟨c172, rfl, by rw [cv]; omega⟩) elb ekb (by omega)
  have ke : ∀ (TB : State) (hB : Heap) (lB : List Loc) (ma : Int32) (mb : Int32) (va : Int32) (vb : Int32) (vc : Int32) (vd : Int32) (ve : Int32) (XB : Stand p l e room_1 s m #[(.int p1), (.int p2), (.int p3), (.int p4), (.int p5)] below meth c TB lB (0) (0)) (eB : TB.heap = hB) (NB : Fr n0 lB) (ZB : n0 ≤ hB.size) (hma : 0 ≤ ma.toInt ∧ ma.toInt ≤ 2) (hmb : 0 ≤ mb.toInt ∧ mb.toInt ≤ 2) (hva : va = 0 ∨ va = 1) (hvb : vb = 0 ∨ vb = 1) (hvc : vc = 0 ∨ vc = 1) (hvd : vd = 0 ∨ vd = 1) (hve : ve = 0 ∨ ve = 1) (OB : Old Z n0 hB), Ends p e below (EF s 72 320) (Q0 Z p1 p2 p3 p4 p5  h0 n0) (TB.setTop (mkF m 101 #[.val (.int p1), .val (.int p2), .val (.int p3), .val (.int p4), .val (.int p5), .val (.int ma), .val (.int mb), .val (.int va), .val (.int vb), .val (.int vc), .val (.int vd), .val (.int ve), .unset, .unset, .unset, .unset, .unset, .unset, .unset, .unset, .unset, .unset, .unset, .unset, .unset, .unset, .unset, .unset] [])) := by
    intro TB hB lB ma mb va vb vc vd ve XB eB NB ZB hma hmb hva hvb hvc hvd hve OB
    refine own_iload (n := 103) XB hx (hb hby at_101) rfl rfl ?_
    refine own_bipush (n := 105) XB hx (9 : Int32) (hb hby at_103) rfl rfl ?_
    refine own_iushr (n := 106) XB hx (hb hby at_105) rfl ?_
    refine own_iconst (n := 107) XB hx (1 : Int32) (hb hby at_106) rfl rfl ?_
    refine own_iand (n := 108) XB hx (hb hby at_107) rfl ?_
    refine own_istore (n := 110) XB hx (hb hby at_108) (l' := #[.val (.int p1), .val (.int p2), .val (.int p3), .val (.int p4), .val (.int p5), .val (.int ma), .val (.int mb), .val (.int va), .val (.int vb), .val (.int vc), .val (.int vd), .val (.int ve), .val (.int (((p5.toUInt32 >>> ((9 : Int32) &&& 31).toUInt32).toInt32) &&& (1 : Int32))), .unset, .unset, .unset, .unset, .unset, .unset, .unset, .unset, .unset, .unset, .unset, .unset, .unset, .unset, .unset]) rfl rfl ?_
    show Ends p e below (EF s 72 320) (Q0 Z p1 p2 p3 p4 p5  h0 n0) (TB.setTop (mkF m 110 #[.val (.int p1), .val (.int p2), .val (.int p3), .val (.int p4), .val (.int p5), .val (.int ma), .val (.int mb), .val (.int va), .val (.int vb), .val (.int vc), .val (.int vd), .val (.int ve), .val (.int (((p5.toUInt32 >>> ((9 : Int32) &&& 31).toUInt32).toInt32) &&& (1 : Int32))), .unset, .unset, .unset, .unset, .unset, .unset, .unset, .unset, .unset, .unset, .unset, .unset, .unset, .unset, .unset] []))
    generalize g_of : (((p5.toUInt32 >>> ((9 : Int32) &&& 31).toUInt32).toInt32) &&& (1 : Int32)) = of
    obtain ⟨on, hon, rfl⟩ : ∃ on : Nat, on < 2 ∧ of = Nat.toInt32 on := by
      have q : 0 ≤ of.toInt ∧ of.toInt ≤ (1 : Int32).toInt := g_of ▸ c_and _ 1 (by decide)
      have o : (1 : Int32).toInt = 1 := rfl
      exact ⟨of.toInt.toNat, by omega, own_inj (by rw [len_toInt (by omega)]; omega)⟩
    refine own_iload (n := 112) XB hx (hb hby at_110) rfl rfl ?_
    refine own_istore (n := 114) XB hx (hb hby at_112) (l' := #[.val (.int p1), .val (.int p2), .val (.int p3), .val (.int p4), .val (.int p5), .val (.int ma), .val (.int mb), .val (.int va), .val (.int vb), .val (.int vc), .val (.int vd), .val (.int ve), .val (.int (Nat.toInt32 on)), .val (.int (Nat.toInt32 on)), .unset, .unset, .unset, .unset, .unset, .unset, .unset, .unset, .unset, .unset, .unset, .unset, .unset, .unset]) rfl rfl ?_
    refine own_iload (n := 116) XB hx (hb hby at_114) rfl rfl ?_
    refine own_iconst (n := 117) XB hx (1 : Int32) (hb hby at_116) rfl rfl ?_
    refine own_iadd (n := 118) XB hx (hb hby at_117) rfl ?_
    refine own_istore (n := 120) XB hx (hb hby at_118) (l' := #[.val (.int p1), .val (.int p2), .val (.int p3), .val (.int p4), .val (.int p5), .val (.int ma), .val (.int mb), .val (.int va), .val (.int vb), .val (.int vc), .val (.int vd), .val (.int ve), .val (.int (Nat.toInt32 on)), .val (.int (Nat.toInt32 on)), .val (.int ((Nat.toInt32 on) + (1 : Int32))), .unset, .unset, .unset, .unset, .unset, .unset, .unset, .unset, .unset, .unset, .unset, .unset, .unset]) rfl rfl ?_
    refine own_iload (n := 122) XB hx (hb hby at_120) rfl rfl ?_
    refine own_iloadN (n := 123) XB hx (hb hby at_122) rfl rfl ?_
    refine own_iloadN (n := 124) XB hx (hb hby at_123) rfl rfl ?_
    refine own_callS (n := 127) XB hx hZ hown (hw _ (List.mem_of_getElem? (i := 0) rfl)) (hw _ (List.mem_of_getElem? (i := 1) rfl)) (hw _ (List.mem_of_getElem? (i := 2) rfl)) (hw _ (List.mem_of_getElem? (i := 3) rfl)) (by decide) eB (rm1 l Z a0 hw [] ma p1 p2 hB n0 ZB ) (W := 0) (by decide) (by decide) (by decide) (by decide) (by rw [hml]; rfl) (argsL := [(.int ma), (.int p1), (.int p2)]) (rest := []) pd_1 rfl (by rfl) (Nat.le_of_eq rfl) (hb hby at_124) rfl rfl ?_
    intro v34 T34 h34 L34 X34 e34 q34
    obtain ⟨rfl, M34, rfl⟩ := q34
    have N34 := Fr.app NB M34
    refine own_istore (n := 129) X34 hx (hb hby at_127) (l' := #[.val (.int p1), .val (.int p2), .val (.int p3), .val (.int p4), .val (.int p5), .val (.int ma), .val (.int mb), .val (.int va), .val (.int vb), .val (.int vc), .val (.int vd), .val (.int ve), .val (.int (Nat.toInt32 on)), .val (.int (Nat.toInt32 on)), .val (.int ((Nat.toInt32 on) + (1 : Int32))), .val (.int (if ma = 2 then p2 &&& 268435455 else p1 &&& 536870911)), .unset, .unset, .unset, .unset, .unset, .unset, .unset, .unset, .unset, .unset, .unset, .unset]) rfl rfl ?_
    show Ends p e below (EF s 72 320) (Q0 Z p1 p2 p3 p4 p5  h0 n0) (T34.setTop (mkF m 129 #[.val (.int p1), .val (.int p2), .val (.int p3), .val (.int p4), .val (.int p5), .val (.int ma), .val (.int mb), .val (.int va), .val (.int vb), .val (.int vc), .val (.int vd), .val (.int ve), .val (.int (Nat.toInt32 on)), .val (.int (Nat.toInt32 on)), .val (.int ((Nat.toInt32 on) + (1 : Int32))), .val (.int (if ma = 2 then p2 &&& 268435455 else p1 &&& 536870911)), .unset, .unset, .unset, .unset, .unset, .unset, .unset, .unset, .unset, .unset, .unset, .unset] []))
    generalize g_ga : (if ma = 2 then p2 &&& 268435455 else p1 &&& 536870911) = ga
    refine own_iload (n := 131) X34 hx (hb hby at_129) rfl rfl ?_
    refine own_iloadN (n := 132) X34 hx (hb hby at_131) rfl rfl ?_
    refine own_iloadN (n := 133) X34 hx (hb hby at_132) rfl rfl ?_
    refine own_callS (n := 136) X34 hx hZ hown (hw _ (List.mem_of_getElem? (i := 5) rfl)) (hw _ (List.mem_of_getElem? (i := 6) rfl)) (hw _ (List.mem_of_getElem? (i := 2) rfl)) (hw _ (List.mem_of_getElem? (i := 7) rfl)) (by decide) e34 (rm2 l Z a0 hw [] ma p1 p2 hB n0 ZB ) (W := 0) (by decide) (by decide) (by decide) (by decide) (by rw [hml]; rfl) (argsL := [(.int ma), (.int p1), (.int p2)]) (rest := []) pd_2 rfl (by rfl) (Nat.le_of_eq rfl) (hb hby at_133) rfl rfl ?_
    intro v35 T35 h35 L35 X35 e35 q35
    obtain ⟨rfl, M35, rfl⟩ := q35
    have N35 := Fr.app N34 M35
    refine own_istore (n := 138) X35 hx (hb hby at_136) (l' := #[.val (.int p1), .val (.int p2), .val (.int p3), .val (.int p4), .val (.int p5), .val (.int ma), .val (.int mb), .val (.int va), .val (.int vb), .val (.int vc), .val (.int vd), .val (.int ve), .val (.int (Nat.toInt32 on)), .val (.int (Nat.toInt32 on)), .val (.int ((Nat.toInt32 on) + (1 : Int32))), .val (.int ga), .val (.int (if ma = 2 then (p2 &&& 268435455) + 1 + (p1 &&& 268435455) else p1 &&& 536870911)), .unset, .unset, .unset, .unset, .unset, .unset, .unset, .unset, .unset, .unset, .unset]) rfl rfl ?_
    show Ends p e below (EF s 72 320) (Q0 Z p1 p2 p3 p4 p5  h0 n0) (T35.setTop (mkF m 138 #[.val (.int p1), .val (.int p2), .val (.int p3), .val (.int p4), .val (.int p5), .val (.int ma), .val (.int mb), .val (.int va), .val (.int vb), .val (.int vc), .val (.int vd), .val (.int ve), .val (.int (Nat.toInt32 on)), .val (.int (Nat.toInt32 on)), .val (.int ((Nat.toInt32 on) + (1 : Int32))), .val (.int ga), .val (.int (if ma = 2 then (p2 &&& 268435455) + 1 + (p1 &&& 268435455) else p1 &&& 536870911)), .unset, .unset, .unset, .unset, .unset, .unset, .unset, .unset, .unset, .unset, .unset] []))
    generalize g_gb : (if ma = 2 then (p2 &&& 268435455) + 1 + (p1 &&& 268435455) else p1 &&& 536870911) = gb
    refine own_iload (n := 140) X35 hx (hb hby at_138) rfl rfl ?_
    refine own_iloadN (n := 141) X35 hx (hb hby at_140) rfl rfl ?_
    refine own_iloadN (n := 142) X35 hx (hb hby at_141) rfl rfl ?_
    refine own_callS (n := 145) X35 hx hZ hown (hw _ (List.mem_of_getElem? (i := 0) rfl)) (hw _ (List.mem_of_getElem? (i := 1) rfl)) (hw _ (List.mem_of_getElem? (i := 2) rfl)) (hw _ (List.mem_of_getElem? (i := 3) rfl)) (by decide) e35 (rm1 l Z a0 hw [] mb p3 p4 hB n0 ZB ) (W := 0) (by decide) (by decide) (by decide) (by decide) (by rw [hml]; rfl) (argsL := [(.int mb), (.int p3), (.int p4)]) (rest := []) pd_1 rfl (by rfl) (Nat.le_of_eq rfl) (hb hby at_142) rfl rfl ?_
    intro v36 T36 h36 L36 X36 e36 q36
    obtain ⟨rfl, M36, rfl⟩ := q36
    have N36 := Fr.app N35 M36
    refine own_istore (n := 147) X36 hx (hb hby at_145) (l' := #[.val (.int p1), .val (.int p2), .val (.int p3), .val (.int p4), .val (.int p5), .val (.int ma), .val (.int mb), .val (.int va), .val (.int vb), .val (.int vc), .val (.int vd), .val (.int ve), .val (.int (Nat.toInt32 on)), .val (.int (Nat.toInt32 on)), .val (.int ((Nat.toInt32 on) + (1 : Int32))), .val (.int ga), .val (.int gb), .val (.int (if mb = 2 then p4 &&& 268435455 else p3 &&& 536870911)), .unset, .unset, .unset, .unset, .unset, .unset, .unset, .unset, .unset, .unset]) rfl rfl ?_
    show Ends p e below (EF s 72 320) (Q0 Z p1 p2 p3 p4 p5  h0 n0) (T36.setTop (mkF m 147 #[.val (.int p1), .val (.int p2), .val (.int p3), .val (.int p4), .val (.int p5), .val (.int ma), .val (.int mb), .val (.int va), .val (.int vb), .val (.int vc), .val (.int vd), .val (.int ve), .val (.int (Nat.toInt32 on)), .val (.int (Nat.toInt32 on)), .val (.int ((Nat.toInt32 on) + (1 : Int32))), .val (.int ga), .val (.int gb), .val (.int (if mb = 2 then p4 &&& 268435455 else p3 &&& 536870911)), .unset, .unset, .unset, .unset, .unset, .unset, .unset, .unset, .unset, .unset] []))
    generalize g_gc : (if mb = 2 then p4 &&& 268435455 else p3 &&& 536870911) = gc
    refine own_iload (n := 149) X36 hx (hb hby at_147) rfl rfl ?_
    refine own_iloadN (n := 150) X36 hx (hb hby at_149) rfl rfl ?_
    refine own_iloadN (n := 151) X36 hx (hb hby at_150) rfl rfl ?_
    refine own_callS (n := 154) X36 hx hZ hown (hw _ (List.mem_of_getElem? (i := 5) rfl)) (hw _ (List.mem_of_getElem? (i := 6) rfl)) (hw _ (List.mem_of_getElem? (i := 2) rfl)) (hw _ (List.mem_of_getElem? (i := 7) rfl)) (by decide) e36 (rm2 l Z a0 hw [] mb p3 p4 hB n0 ZB ) (W := 0) (by decide) (by decide) (by decide) (by decide) (by rw [hml]; rfl) (argsL := [(.int mb), (.int p3), (.int p4)]) (rest := []) pd_2 rfl (by rfl) (Nat.le_of_eq rfl) (hb hby at_151) rfl rfl ?_
    intro v37 T37 h37 L37 X37 e37 q37
    obtain ⟨rfl, M37, rfl⟩ := q37
    have N37 := Fr.app N36 M37
    refine own_istore (n := 156) X37 hx (hb hby at_154) (l' := #[.val (.int p1), .val (.int p2), .val (.int p3), .val (.int p4), .val (.int p5), .val (.int ma), .val (.int mb), .val (.int va), .val (.int vb), .val (.int vc), .val (.int vd), .val (.int ve), .val (.int (Nat.toInt32 on)), .val (.int (Nat.toInt32 on)), .val (.int ((Nat.toInt32 on) + (1 : Int32))), .val (.int ga), .val (.int gb), .val (.int gc), .val (.int (if mb = 2 then (p4 &&& 268435455) + 1 + (p3 &&& 268435455) else p3 &&& 536870911)), .unset, .unset, .unset, .unset, .unset, .unset, .unset, .unset, .unset]) rfl rfl ?_
    show Ends p e below (EF s 72 320) (Q0 Z p1 p2 p3 p4 p5  h0 n0) (T37.setTop (mkF m 156 #[.val (.int p1), .val (.int p2), .val (.int p3), .val (.int p4), .val (.int p5), .val (.int ma), .val (.int mb), .val (.int va), .val (.int vb), .val (.int vc), .val (.int vd), .val (.int ve), .val (.int (Nat.toInt32 on)), .val (.int (Nat.toInt32 on)), .val (.int ((Nat.toInt32 on) + (1 : Int32))), .val (.int ga), .val (.int gb), .val (.int gc), .val (.int (if mb = 2 then (p4 &&& 268435455) + 1 + (p3 &&& 268435455) else p3 &&& 536870911)), .unset, .unset, .unset, .unset, .unset, .unset, .unset, .unset, .unset] []))
    generalize g_gd : (if mb = 2 then (p4 &&& 268435455) + 1 + (p3 &&& 268435455) else p3 &&& 536870911) = gd
    refine own_newO (n := 159) X37 hx hZ hown (hw _ (List.mem_of_getElem? (i := 8) rfl)) (hw _ (List.mem_of_getElem? (i := 9) rfl)) (hw _ (List.mem_of_getElem? (i := 10) rfl)) e37 (by decide) (by decide) (hb hby at_156) rfl ?_
    intro T38 h38 b38 X38 e38 g38 E38 A38 D38
    have Z38 : n0 ≤ h38.size := Nat.le_trans ZB E38.1
    have nb_b38 : n0 ≤ b38 := Nat.le_trans ZB (Nat.le_of_eq g38.symm)
    have OL38 := OB.ext E38
    have N38_b38 : CR Z h38 b38 (.null) (.null) (.null) (.null) (.null) (.null) (0) (0) (0) (0) (0) := ⟨A38, D38 (Or.inr (hw _ (List.mem_of_getElem? (i := 48) rfl))) (ty := (.array .int)) (by decide), D38 (Or.inr (hw _ (List.mem_of_getElem? (i := 54) rfl))) (ty := (.array .int)) (by decide), D38 (Or.inr (hw _ (List.mem_of_getElem? (i := 56) rfl))) (ty := (.array .int)) (by decide), D38 (Or.inr (hw _ (List.mem_of_getElem? (i := 59) rfl))) (ty := (.array (.object "com/example/revisit/revisit/policy/RateLikelihood"))) (by decide), D38 (Or.inr (hw _ (List.mem_of_getElem? (i := 61) rfl))) (ty := (.object "com/example/revisit/revisit/policy/RateLikelihood")) (by decide), D38 (Or.inr (hw _ (List.mem_of_getElem? (i := 64) rfl))) (ty := (.array .double)) (by decide), D38 (Or.inl (hw _ (List.mem_of_getElem? (i := 103) rfl))) (ty := .int) (by decide), D38 (Or.inl (hw _ (List.mem_of_getElem? (i := 78) rfl))) (ty := .long) (by decide), D38 (Or.inl (hw _ (List.mem_of_getElem? (i := 105) rfl))) (ty := .long) (by decide), D38 (Or.inl (hw _ (List.mem_of_getElem? (i := 72) rfl))) (ty := .boolean) (by decide), D38 (Or.inl (hw _ (List.mem_of_getElem? (i := 80) rfl))) (ty := .boolean) (by decide)⟩
    refine own_dup (n := 160) X38 hx (hb hby at_159) rfl rfl ?_
    refine own_iconst (n := 161) X38 hx (2 : Int32) (hb hby at_160) rfl rfl ?_
    refine own_iload (n := 163) X38 hx (hb hby at_161) rfl rfl ?_
    refine own_iadd (n := 164) X38 hx (hb hby at_163) rfl ?_
    refine own_callN (n := 167) X38 hx hZ rfl hown (hw _ (List.mem_of_getElem? (i := 11) rfl)) (hw _ (List.mem_of_getElem? (i := 12) rfl)) (hw _ (List.mem_of_getElem? (i := 10) rfl)) (hw _ (List.mem_of_getElem? (i := 13) rfl)) (by decide) e38 (rm3 l Z a0 hw [] b38 ((2 : Int32) + (Nat.toInt32 on)) (2 + on) h38 n0 Z38 OL38 N38_b38 nb_b38 (by have q := c_iadd 2 (Nat.toInt32 on); have r := rng32 (2 + Nat.toInt32 on); have l := len_toInt (n := on) (by omega); have o : (2 : Int32).toInt = 2 := rfl; omega) (by omega)) (W := 1) (by decide) (by decide) (by decide) (by decide) (by rw [hml]; rfl) (argsL := [(.int ((2 : Int32) + (Nat.toInt32 on)))]) (rest := [(.ref b38)]) pd_3 rfl (a := b38) (by rfl) (Nat.le_of_eq rfl) (hb hby at_164) rfl rfl ?_
    intro v39 T39 h39 L39 X39 e39 q39
    obtain ⟨rfl, M39, OL39, R39⟩ := q39
    have N39 := Fr.app N37 M39
    have Z39 := own_oldz OL39
    refine own_astore (n := 169) X39 hx (hb hby at_167) rfl (l' := #[.val (.int p1), .val (.int p2), .val (.int p3), .val (.int p4), .val (.int p5), .val (.int ma), .val (.int mb), .val (.int va), .val (.int vb), .val (.int vc), .val (.int vd), .val (.int ve), .val (.int (Nat.toInt32 on)), .val (.int (Nat.toInt32 on)), .val (.int ((Nat.toInt32 on) + (1 : Int32))), .val (.int ga), .val (.int gb), .val (.int gc), .val (.int gd), .val (.ref b38), .unset, .unset, .unset, .unset, .unset, .unset, .unset, .unset]) rfl rfl ?_
    show Ends p e below (EF s 72 320) (Q0 Z p1 p2 p3 p4 p5  h0 n0) (T39.setTop (mkF m 169 #[.val (.int p1), .val (.int p2), .val (.int p3), .val (.int p4), .val (.int p5), .val (.int ma), .val (.int mb), .val (.int va), .val (.int vb), .val (.int vc), .val (.int vd), .val (.int ve), .val (.int (Nat.toInt32 on)), .val (.int (Nat.toInt32 on)), .val (.int ((Nat.toInt32 on) + (1 : Int32))), .val (.int ga), .val (.int gb), .val (.int gc), .val (.int gd), .val (.ref b38), .unset, .unset, .unset, .unset, .unset, .unset, .unset, .unset] []))
    exact kr _ _ _ ma mb va vb vc vd ve on ga gb gc gd b38 (-1) 0 (-1) 0 0 0 0 (own_more X39 (by decide) (by decide)) e39 N39 Z39 hma hmb hva hvb hvc hvd hve hon ⟨(own_fst g_ga).1, (own_fst g_ga).2.1⟩ (own_lst g_ga g_gb) ⟨(own_fst g_gc).1, (own_fst g_gc).2.1⟩ (own_lst g_gc g_gd) OL39 (own_crl0 R39) ⟨by decide, by decide, by decide, by decide, fun _ => rfl⟩ ⟨by decide, by decide, by decide, by decide, fun _ => rfl⟩ ⟨Or.inl rfl, Or.inl rfl, fun z => absurd z (by decide)⟩ rfl rfl rfl rfl (by decide)
  have kfd : ∀ (TB : State) (hB : Heap) (lB : List Loc) (ma : Int32) (mb : Int32) (va : Int32) (vb : Int32) (vc : Int32) (vd : Int32) (XB : Stand p l e room_1 s m #[(.int p1), (.int p2), (.int p3), (.int p4), (.int p5)] below meth c TB lB (0) (0)) (eB : TB.heap = hB) (NB : Fr n0 lB) (ZB : n0 ≤ hB.size) (hma : 0 ≤ ma.toInt ∧ ma.toInt ≤ 2) (hmb : 0 ≤ mb.toInt ∧ mb.toInt ≤ 2) (hva : va = 0 ∨ va = 1) (hvb : vb = 0 ∨ vb = 1) (hvc : vc = 0 ∨ vc = 1) (hvd : vd = 0 ∨ vd = 1) (OB : Old Z n0 hB), Ends p e below (EF s 72 320) (Q0 Z p1 p2 p3 p4 p5  h0 n0) (TB.setTop (mkF m 84 #[.val (.int p1), .val (.int p2), .val (.int p3), .val (.int p4), .val (.int p5), .val (.int ma), .val (.int mb), .val (.int va), .val (.int vb), .val (.int vc), .val (.int vd), .unset, .unset, .unset, .unset, .unset, .unset, .unset, .unset, .unset, .unset, .unset, .unset, .unset, .unset, .unset, .unset, .unset] [])) := by
    intro TB hB lB ma mb va vb vc vd XB eB NB ZB hma hmb hva hvb hvc hvd OB
    refine own_iload (n := 86) XB hx (hb hby at_84) rfl rfl ?_
    refine own_bipush (n := 88) XB hx (8 : Int32) (hb hby at_86) rfl rfl ?_
    refine own_iushr (n := 89) XB hx (hb hby at_88) rfl ?_
    refine own_iconst (n := 90) XB hx (1 : Int32) (hb hby at_89) rfl rfl ?_
    refine own_iand (n := 91) XB hx (hb hby at_90) rfl ?_
    by_cases c91 : (((p5.toUInt32 >>> ((8 : Int32) &&& 31).toUInt32).toInt32) &&& (1 : Int32)) = 0
    · refine own_ifYes (n := 98) XB hx (hb hby at_91) (Jvm.Free.XT.i0_eq_t c91) (by decide) (by decide) ?_
      refine own_iconst (n := 99) XB hx (0 : Int32) (hb hby at_98) rfl rfl ?_
      refine own_istore (n := 101) XB hx (hb hby at_99) (l' := #[.val (.int p1), .val (.int p2), .val (.int p3), .val (.int p4), .val (.int p5), .val (.int ma), .val (.int mb), .val (.int va), .val (.int vb), .val (.int vc), .val (.int vd), .val (.int (0 : Int32)), .unset, .unset, .unset, .unset, .unset, .unset, .unset, .unset, .unset, .unset, .unset, .unset, .unset, .unset, .unset, .unset]) rfl rfl ?_
      show Ends p e below (EF s 72 320) (Q0 Z p1 p2 p3 p4 p5  h0 n0) (TB.setTop (mkF m 101 #[.val (.int p1), .val (.int p2), .val (.int p3), .val (.int p4), .val (.int p5), .val (.int ma), .val (.int mb), .val (.int va), .val (.int vb), .val (.int vc), .val (.int vd), .val (.int (0 : Int32)), .unset, .unset, .unset, .unset, .unset, .unset, .unset, .unset, .unset, .unset, .unset, .unset, .unset, .unset, .unset, .unset] []))
      exact ke _ _ _ ma mb va vb vc vd (0 : Int32) XB eB NB ZB hma hmb hva hvb hvc hvd (Or.inl rfl) OB
    · refine own_ifNo (n := 94) XB hx (hb hby at_91) (Jvm.Free.XT.i0_eq_f c91) rfl ?_
      refine own_iconst (n := 95) XB hx (1 : Int32) (hb hby at_94) rfl rfl ?_
      refine own_goto (n := 99) XB hx (hb hby at_95) (by decide) (by decide) ?_
      refine own_istore (n := 101) XB hx (hb hby at_99) (l' := #[.val (.int p1), .val (.int p2), .val (.int p3), .val (.int p4), .val (.int p5), .val (.int ma), .val (.int mb), .val (.int va), .val (.int vb), .val (.int vc), .val (.int vd), .val (.int (1 : Int32)), .unset, .unset, .unset, .unset, .unset, .unset, .unset, .unset, .unset, .unset, .unset, .unset, .unset, .unset, .unset, .unset]) rfl rfl ?_
      show Ends p e below (EF s 72 320) (Q0 Z p1 p2 p3 p4 p5  h0 n0) (TB.setTop (mkF m 101 #[.val (.int p1), .val (.int p2), .val (.int p3), .val (.int p4), .val (.int p5), .val (.int ma), .val (.int mb), .val (.int va), .val (.int vb), .val (.int vc), .val (.int vd), .val (.int (1 : Int32)), .unset, .unset, .unset, .unset, .unset, .unset, .unset, .unset, .unset, .unset, .unset, .unset, .unset, .unset, .unset, .unset] []))
      exact ke _ _ _ ma mb va vb vc vd (1 : Int32) XB eB NB ZB hma hmb hva hvb hvc hvd (Or.inr rfl) OB
  have kfc : ∀ (TB : State) (hB : Heap) (lB : List Loc) (ma : Int32) (mb : Int32) (va : Int32) (vb : Int32) (vc : Int32) (XB : Stand p l e room_1 s m #[(.int p1), (.int p2), (.int p3), (.int p4), (.int p5)] below meth c TB lB (0) (0)) (eB : TB.heap = hB) (NB : Fr n0 lB) (ZB : n0 ≤ hB.size) (hma : 0 ≤ ma.toInt ∧ ma.toInt ≤ 2) (hmb : 0 ≤ mb.toInt ∧ mb.toInt ≤ 2) (hva : va = 0 ∨ va = 1) (hvb : vb = 0 ∨ vb = 1) (hvc : vc = 0 ∨ vc = 1) (OB : Old Z n0 hB), Ends p e below (EF s 72 320) (Q0 Z p1 p2 p3 p4 p5  h0 n0) (TB.setTop (mkF m 67 #[.val (.int p1), .val (.int p2), .val (.int p3), .val (.int p4), .val (.int p5), .val (.int ma), .val (.int mb), .val (.int va), .val (.int vb), .val (.int vc), .unset, .unset, .unset, .unset, .unset, .unset, .unset, .unset, .unset, .unset, .unset, .unset, .unset, .unset, .unset, .unset, .unset, .unset] [])) := by
    intro TB hB lB ma mb va vb vc XB eB NB ZB hma hmb hva hvb hvc OB
    refine own_iload (n := 69) XB hx (hb hby at_67) rfl rfl ?_
    refine own_bipush (n := 71) XB hx (7 : Int32) (hb hby at_69) rfl rfl ?_
    refine own_iushr (n := 72) XB hx (hb hby at_71) rfl ?_
    refine own_iconst (n := 73) XB hx (1 : Int32) (hb hby at_72) rfl rfl ?_
    refine own_iand (n := 74) XB hx (hb hby at_73) rfl ?_
    by_cases c74 : (((p5.toUInt32 >>> ((7 : Int32) &&& 31).toUInt32).toInt32) &&& (1 : Int32)) = 0
    · refine own_ifYes (n := 81) XB hx (hb hby at_74) (Jvm.Free.XT.i0_eq_t c74) (by decide) (by decide) ?_
      refine own_iconst (n := 82) XB hx (0 : Int32) (hb hby at_81) rfl rfl ?_
      refine own_istore (n := 84) XB hx (hb hby at_82) (l' := #[.val (.int p1), .val (.int p2), .val (.int p3), .val (.int p4), .val (.int p5), .val (.int ma), .val (.int mb), .val (.int va), .val (.int vb), .val (.int vc), .val (.int (0 : Int32)), .unset, .unset, .unset, .unset, .unset, .unset, .unset, .unset, .unset, .unset, .unset, .unset, .unset, .unset, .unset, .unset, .unset]) rfl rfl ?_
      show Ends p e below (EF s 72 320) (Q0 Z p1 p2 p3 p4 p5  h0 n0) (TB.setTop (mkF m 84 #[.val (.int p1), .val (.int p2), .val (.int p3), .val (.int p4), .val (.int p5), .val (.int ma), .val (.int mb), .val (.int va), .val (.int vb), .val (.int vc), .val (.int (0 : Int32)), .unset, .unset, .unset, .unset, .unset, .unset, .unset, .unset, .unset, .unset, .unset, .unset, .unset, .unset, .unset, .unset, .unset] []))
      exact kfd _ _ _ ma mb va vb vc (0 : Int32) XB eB NB ZB hma hmb hva hvb hvc (Or.inl rfl) OB
    · refine own_ifNo (n := 77) XB hx (hb hby at_74) (Jvm.Free.XT.i0_eq_f c74) rfl ?_
      refine own_iconst (n := 78) XB hx (1 : Int32) (hb hby at_77) rfl rfl ?_
      refine own_goto (n := 82) XB hx (hb hby at_78) (by decide) (by decide) ?_
      refine own_istore (n := 84) XB hx (hb hby at_82) (l' := #[.val (.int p1), .val (.int p2), .val (.int p3), .val (.int p4), .val (.int p5), .val (.int ma), .val (.int mb), .val (.int va), .val (.int vb), .val (.int vc), .val (.int (1 : Int32)), .unset, .unset, .unset, .unset, .unset, .unset, .unset, .unset, .unset, .unset, .unset, .unset, .unset, .unset, .unset, .unset, .unset]) rfl rfl ?_
      show Ends p e below (EF s 72 320) (Q0 Z p1 p2 p3 p4 p5  h0 n0) (TB.setTop (mkF m 84 #[.val (.int p1), .val (.int p2), .val (.int p3), .val (.int p4), .val (.int p5), .val (.int ma), .val (.int mb), .val (.int va), .val (.int vb), .val (.int vc), .val (.int (1 : Int32)), .unset, .unset, .unset, .unset, .unset, .unset, .unset, .unset, .unset, .unset, .unset, .unset, .unset, .unset, .unset, .unset, .unset] []))
      exact kfd _ _ _ ma mb va vb vc (1 : Int32) XB eB NB ZB hma hmb hva hvb hvc (Or.inr rfl) OB
  have kfb : ∀ (TB : State) (hB : Heap) (lB : List Loc) (ma : Int32) (mb : Int32) (va : Int32) (vb : Int32) (XB : Stand p l e room_1 s m #[(.int p1), (.int p2), (.int p3), (.int p4), (.int p5)] below meth c TB lB (0) (0)) (eB : TB.heap = hB) (NB : Fr n0 lB) (ZB : n0 ≤ hB.size) (hma : 0 ≤ ma.toInt ∧ ma.toInt ≤ 2) (hmb : 0 ≤ mb.toInt ∧ mb.toInt ≤ 2) (hva : va = 0 ∨ va = 1) (hvb : vb = 0 ∨ vb = 1) (OB : Old Z n0 hB), Ends p e below (EF s 72 320) (Q0 Z p1 p2 p3 p4 p5  h0 n0) (TB.setTop (mkF m 50 #[.val (.int p1), .val (.int p2), .val (.int p3), .val (.int p4), .val (.int p5), .val (.int ma), .val (.int mb), .val (.int va), .val (.int vb), .unset, .unset, .unset, .unset, .unset, .unset, .unset, .unset, .unset, .unset, .unset, .unset, .unset, .unset, .unset, .unset, .unset, .unset, .unset] [])) := by
    intro TB hB lB ma mb va vb XB eB NB ZB hma hmb hva hvb OB
    refine own_iload (n := 52) XB hx (hb hby at_50) rfl rfl ?_
    refine own_bipush (n := 54) XB hx (6 : Int32) (hb hby at_52) rfl rfl ?_
    refine own_iushr (n := 55) XB hx (hb hby at_54) rfl ?_
    refine own_iconst (n := 56) XB hx (1 : Int32) (hb hby at_55) rfl rfl ?_
    refine own_iand (n := 57) XB hx (hb hby at_56) rfl ?_
    by_cases c57 : (((p5.toUInt32 >>> ((6 : Int32) &&& 31).toUInt32).toInt32) &&& (1 : Int32)) = 0
    · refine own_ifYes (n := 64) XB hx (hb hby at_57) (Jvm.Free.XT.i0_eq_t c57) (by decide) (by decide) ?_
      refine own_iconst (n := 65) XB hx (0 : Int32) (hb hby at_64) rfl rfl ?_
      refine own_istore (n := 67) XB hx (hb hby at_65) (l' := #[.val (.int p1), .val (.int p2), .val (.int p3), .val (.int p4), .val (.int p5), .val (.int ma), .val (.int mb), .val (.int va), .val (.int vb), .val (.int (0 : Int32)), .unset, .unset, .unset, .unset, .unset, .unset, .unset, .unset, .unset, .unset, .unset, .unset, .unset, .unset, .unset, .unset, .unset, .unset]) rfl rfl ?_
      show Ends p e below (EF s 72 320) (Q0 Z p1 p2 p3 p4 p5  h0 n0) (TB.setTop (mkF m 67 #[.val (.int p1), .val (.int p2), .val (.int p3), .val (.int p4), .val (.int p5), .val (.int ma), .val (.int mb), .val (.int va), .val (.int vb), .val (.int (0 : Int32)), .unset, .unset, .unset, .unset, .unset, .unset, .unset, .unset, .unset, .unset, .unset, .unset, .unset, .unset, .unset, .unset, .unset, .unset] []))
      exact kfc _ _ _ ma mb va vb (0 : Int32) XB eB NB ZB hma hmb hva hvb (Or.inl rfl) OB
    · refine own_ifNo (n := 60) XB hx (hb hby at_57) (Jvm.Free.XT.i0_eq_f c57) rfl ?_
      refine own_iconst (n := 61) XB hx (1 : Int32) (hb hby at_60) rfl rfl ?_
      refine own_goto (n := 65) XB hx (hb hby at_61) (by decide) (by decide) ?_
      refine own_istore (n := 67) XB hx (hb hby at_65) (l' := #[.val (.int p1), .val (.int p2), .val (.int p3), .val (.int p4), .val (.int p5), .val (.int ma), .val (.int mb), .val (.int va), .val (.int vb), .val (.int (1 : Int32)), .unset, .unset, .unset, .unset, .unset, .unset, .unset, .unset, .unset, .unset, .unset, .unset, .unset, .unset, .unset, .unset, .unset, .unset]) rfl rfl ?_
      show Ends p e below (EF s 72 320) (Q0 Z p1 p2 p3 p4 p5  h0 n0) (TB.setTop (mkF m 67 #[.val (.int p1), .val (.int p2), .val (.int p3), .val (.int p4), .val (.int p5), .val (.int ma), .val (.int mb), .val (.int va), .val (.int vb), .val (.int (1 : Int32)), .unset, .unset, .unset, .unset, .unset, .unset, .unset, .unset, .unset, .unset, .unset, .unset, .unset, .unset, .unset, .unset, .unset, .unset] []))
      exact kfc _ _ _ ma mb va vb (1 : Int32) XB eB NB ZB hma hmb hva hvb (Or.inr rfl) OB
  have kfa : ∀ (TB : State) (hB : Heap) (lB : List Loc) (ma : Int32) (mb : Int32) (va : Int32) (XB : Stand p l e room_1 s m #[(.int p1), (.int p2), (.int p3), (.int p4), (.int p5)] below meth c TB lB (0) (0)) (eB : TB.heap = hB) (NB : Fr n0 lB) (ZB : n0 ≤ hB.size) (hma : 0 ≤ ma.toInt ∧ ma.toInt ≤ 2) (hmb : 0 ≤ mb.toInt ∧ mb.toInt ≤ 2) (hva : va = 0 ∨ va = 1) (OB : Old Z n0 hB), Ends p e below (EF s 72 320) (Q0 Z p1 p2 p3 p4 p5  h0 n0) (TB.setTop (mkF m 34 #[.val (.int p1), .val (.int p2), .val (.int p3), .val (.int p4), .val (.int p5), .val (.int ma), .val (.int mb), .val (.int va), .unset, .unset, .unset, .unset, .unset, .unset, .unset, .unset, .unset, .unset, .unset, .unset, .unset, .unset, .unset, .unset, .unset, .unset, .unset, .unset] [])) := by
    intro TB hB lB ma mb va XB eB NB ZB hma hmb hva OB
    refine own_iload (n := 36) XB hx (hb hby at_34) rfl rfl ?_
    refine own_iconst (n := 37) XB hx (5 : Int32) (hb hby at_36) rfl rfl ?_
    refine own_iushr (n := 38) XB hx (hb hby at_37) rfl ?_
    refine own_iconst (n := 39) XB hx (1 : Int32) (hb hby at_38) rfl rfl ?_
    refine own_iand (n := 40) XB hx (hb hby at_39) rfl ?_
    by_cases c40 : (((p5.toUInt32 >>> ((5 : Int32) &&& 31).toUInt32).toInt32) &&& (1 : Int32)) = 0
    · refine own_ifYes (n := 47) XB hx (hb hby at_40) (Jvm.Free.XT.i0_eq_t c40) (by decide) (by decide) ?_
      refine own_iconst (n := 48) XB hx (0 : Int32) (hb hby at_47) rfl rfl ?_
      refine own_istore (n := 50) XB hx (hb hby at_48) (l' := #[.val (.int p1), .val (.int p2), .val (.int p3), .val (.int p4), .val (.int p5), .val (.int ma), .val (.int mb), .val (.int va), .val (.int (0 : Int32)), .unset, .unset, .unset, .unset, .unset, .unset, .unset, .unset, .unset, .unset, .unset, .unset, .unset, .unset, .unset, .unset, .unset, .unset, .unset]) rfl rfl ?_
      show Ends p e below (EF s 72 320) (Q0 Z p1 p2 p3 p4 p5  h0 n0) (TB.setTop (mkF m 50 #[.val (.int p1), .val (.int p2), .val (.int p3), .val (.int p4), .val (.int p5), .val (.int ma), .val (.int mb), .val (.int va), .val (.int (0 : Int32)), .unset, .unset, .unset, .unset, .unset, .unset, .unset, .unset, .unset, .unset, .unset, .unset, .unset, .unset, .unset, .unset, .unset, .unset, .unset] []))
      exact kfb _ _ _ ma mb va (0 : Int32) XB eB NB ZB hma hmb hva (Or.inl rfl) OB
    · refine own_ifNo (n := 43) XB hx (hb hby at_40) (Jvm.Free.XT.i0_eq_f c40) rfl ?_
      refine own_iconst (n := 44) XB hx (1 : Int32) (hb hby at_43) rfl rfl ?_
      refine own_goto (n := 48) XB hx (hb hby at_44) (by decide) (by decide) ?_
      refine own_istore (n := 50) XB hx (hb hby at_48) (l' := #[.val (.int p1), .val (.int p2), .val (.int p3), .val (.int p4), .val (.int p5), .val (.int ma), .val (.int mb), .val (.int va), .val (.int (1 : Int32)), .unset, .unset, .unset, .unset, .unset, .unset, .unset, .unset, .unset, .unset, .unset, .unset, .unset, .unset, .unset, .unset, .unset, .unset, .unset]) rfl rfl ?_
      show Ends p e below (EF s 72 320) (Q0 Z p1 p2 p3 p4 p5  h0 n0) (TB.setTop (mkF m 50 #[.val (.int p1), .val (.int p2), .val (.int p3), .val (.int p4), .val (.int p5), .val (.int ma), .val (.int mb), .val (.int va), .val (.int (1 : Int32)), .unset, .unset, .unset, .unset, .unset, .unset, .unset, .unset, .unset, .unset, .unset, .unset, .unset, .unset, .unset, .unset, .unset, .unset, .unset] []))
      exact kfb _ _ _ ma mb va (1 : Int32) XB eB NB ZB hma hmb hva (Or.inr rfl) OB
  refine own_iload (n := 2) X0 hx (hb hby at_0) rfl rfl ?_
  refine own_iconst (n := 3) X0 hx (3 : Int32) (hb hby at_2) rfl rfl ?_
  refine own_iand (n := 4) X0 hx (hb hby at_3) rfl ?_
  refine own_iconst (n := 5) X0 hx (3 : Int32) (hb hby at_4) rfl rfl ?_
  refine own_irem (n := 6) X0 hx (hb hby at_5) (by decide) rfl ?_
  refine own_istore (n := 8) X0 hx (hb hby at_6) (l' := #[.val (.int p1), .val (.int p2), .val (.int p3), .val (.int p4), .val (.int p5), .val (.int ((p5 &&& (3 : Int32)) % (3 : Int32))), .unset, .unset, .unset, .unset, .unset, .unset, .unset, .unset, .unset, .unset, .unset, .unset, .unset, .unset, .unset, .unset, .unset, .unset, .unset, .unset, .unset, .unset]) rfl rfl ?_
  show Ends p e below (EF s 72 320) (Q0 Z p1 p2 p3 p4 p5  h0 n0) (s₁.setTop (mkF m 8 #[.val (.int p1), .val (.int p2), .val (.int p3), .val (.int p4), .val (.int p5), .val (.int ((p5 &&& (3 : Int32)) % (3 : Int32))), .unset, .unset, .unset, .unset, .unset, .unset, .unset, .unset, .unset, .unset, .unset, .unset, .unset, .unset, .unset, .unset, .unset, .unset, .unset, .unset, .unset, .unset] []))
  generalize g_ma : ((p5 &&& (3 : Int32)) % (3 : Int32)) = ma
  refine own_iload (n := 10) X0 hx (hb hby at_8) rfl rfl ?_
  refine own_iconst (n := 11) X0 hx (2 : Int32) (hb hby at_10) rfl rfl ?_
  refine own_iushr (n := 12) X0 hx (hb hby at_11) rfl ?_
  refine own_iconst (n := 13) X0 hx (3 : Int32) (hb hby at_12) rfl rfl ?_
  refine own_iand (n := 14) X0 hx (hb hby at_13) rfl ?_
  refine own_iconst (n := 15) X0 hx (3 : Int32) (hb hby at_14) rfl rfl ?_
  refine own_irem (n := 16) X0 hx (hb hby at_15) (by decide) rfl ?_
  refine own_istore (n := 18) X0 hx (hb hby at_16) (l' := #[.val (.int p1), .val (.int p2), .val (.int p3), .val (.int p4), .val (.int p5), .val (.int ma), .val (.int ((((p5.toUInt32 >>> ((2 : Int32) &&& 31).toUInt32).toInt32) &&& (3 : Int32)) % (3 : Int32))), .unset, .unset, .unset, .unset, .unset, .unset, .unset, .unset, .unset, .unset, .unset, .unset, .unset, .unset, .unset, .unset, .unset, .unset, .unset, .unset, .unset]) rfl rfl ?_
  show Ends p e below (EF s 72 320) (Q0 Z p1 p2 p3 p4 p5  h0 n0) (s₁.setTop (mkF m 18 #[.val (.int p1), .val (.int p2), .val (.int p3), .val (.int p4), .val (.int p5), .val (.int ma), .val (.int ((((p5.toUInt32 >>> ((2 : Int32) &&& 31).toUInt32).toInt32) &&& (3 : Int32)) % (3 : Int32))), .unset, .unset, .unset, .unset, .unset, .unset, .unset, .unset, .unset, .unset, .unset, .unset, .unset, .unset, .unset, .unset, .unset, .unset, .unset, .unset, .unset] []))
  generalize g_mb : ((((p5.toUInt32 >>> ((2 : Int32) &&& 31).toUInt32).toInt32) &&& (3 : Int32)) % (3 : Int32)) = mb
  refine own_iload (n := 20) X0 hx (hb hby at_18) rfl rfl ?_
  refine own_iconst (n := 21) X0 hx (4 : Int32) (hb hby at_20) rfl rfl ?_
  refine own_iushr (n := 22) X0 hx (hb hby at_21) rfl ?_
  refine own_iconst (n := 23) X0 hx (1 : Int32) (hb hby at_22) rfl rfl ?_
  refine own_iand (n := 24) X0 hx (hb hby at_23) rfl ?_
  by_cases c24 : (((p5.toUInt32 >>> ((4 : Int32) &&& 31).toUInt32).toInt32) &&& (1 : Int32)) = 0
  · refine own_ifYes (n := 31) X0 hx (hb hby at_24) (Jvm.Free.XT.i0_eq_t c24) (by decide) (by decide) ?_
    refine own_iconst (n := 32) X0 hx (0 : Int32) (hb hby at_31) rfl rfl ?_
    refine own_istore (n := 34) X0 hx (hb hby at_32) (l' := #[.val (.int p1), .val (.int p2), .val (.int p3), .val (.int p4), .val (.int p5), .val (.int ma), .val (.int mb), .val (.int (0 : Int32)), .unset, .unset, .unset, .unset, .unset, .unset, .unset, .unset, .unset, .unset, .unset, .unset, .unset, .unset, .unset, .unset, .unset, .unset, .unset, .unset]) rfl rfl ?_
    show Ends p e below (EF s 72 320) (Q0 Z p1 p2 p3 p4 p5  h0 n0) (s₁.setTop (mkF m 34 #[.val (.int p1), .val (.int p2), .val (.int p3), .val (.int p4), .val (.int p5), .val (.int ma), .val (.int mb), .val (.int (0 : Int32)), .unset, .unset, .unset, .unset, .unset, .unset, .unset, .unset, .unset, .unset, .unset, .unset, .unset, .unset, .unset, .unset, .unset, .unset, .unset, .unset] []))
    exact kfa _ _ _ ma mb (0 : Int32) X0 e0 N0 Z0 (own_m3 g_ma) (own_m3 g_mb) (Or.inl rfl) OL
  · refine own_ifNo (n := 27) X0 hx (hb hby at_24) (Jvm.Free.XT.i0_eq_f c24) rfl ?_
    refine own_iconst (n := 28) X0 hx (1 : Int32) (hb hby at_27) rfl rfl ?_
    refine own_goto (n := 32) X0 hx (hb hby at_28) (by decide) (by decide) ?_
    refine own_istore (n := 34) X0 hx (hb hby at_32) (l' := #[.val (.int p1), .val (.int p2), .val (.int p3), .val (.int p4), .val (.int p5), .val (.int ma), .val (.int mb), .val (.int (1 : Int32)), .unset, .unset, .unset, .unset, .unset, .unset, .unset, .unset, .unset, .unset, .unset, .unset, .unset, .unset, .unset, .unset, .unset, .unset, .unset, .unset]) rfl rfl ?_
    show Ends p e below (EF s 72 320) (Q0 Z p1 p2 p3 p4 p5  h0 n0) (s₁.setTop (mkF m 34 #[.val (.int p1), .val (.int p2), .val (.int p3), .val (.int p4), .val (.int p5), .val (.int ma), .val (.int mb), .val (.int (1 : Int32)), .unset, .unset, .unset, .unset, .unset, .unset, .unset, .unset, .unset, .unset, .unset, .unset, .unset, .unset, .unset, .unset, .unset, .unset, .unset, .unset] []))
    exact kfa _ _ _ ma mb (1 : Int32) X0 e0 N0 Z0 (own_m3 g_ma) (own_m3 g_mb) (Or.inr rfl) OL
theorem comes_1 {Post : Tables → Env → Array Value → State → Outcome → State → Prop} (hpost : ∀ tb e args s v u, (limb_1_1.after args s (.returned v) u = true ∧ limb_1_2.after args s (.returned v) u = true ∧ True) → FrameEnd s (.returned v) u (Jvm.fieldLocs frame_1_writes args s ++ Jvm.arrayLocs frame_1_arrays args s ++ Jvm.staticLocs frame_1_statics s) 72 320 → Post tb e args s (.returned v) u) :
    ArmFor flags0 classFile x code maxLocals ret World_1 tables_1 room_1 Calls_1 rest_1 Pre_1 Post := by
  intro l hfl _ _ p e ha hc hk s m args below hf hA hF happ hP
  obtain ⟨hcalls, hrest, hpre⟩ := hP
  obtain ⟨-, -, -, hnamed, -, -, -, hat⟩ := (Spec.applies_iff hf).mp happ
  obtain ⟨hg, hn⟩ := and_e (Cond.before_iff.mp (show (Jvm.Cond.and given_1 narrow_1).before args s = true from hpre))
  obtain ⟨hcount, hg0⟩ := and_e hg
  obtain ⟨hi0, hg1⟩ := and_e hg0
  obtain ⟨hi1, hg2⟩ := and_e hg1
  obtain ⟨hi2, hg3⟩ := and_e hg2
  obtain ⟨hi3, hg4⟩ := and_e hg3
  obtain ⟨w0, w1, w2, w3, w4, rfl⟩ : ∃ w0 w1 w2 w3 w4 : Value, args = #[w0, w1, w2, w3, w4] := by
    have hs : args.size = 5 := by simpa [Cond.value, given_1] using hcount
    obtain ⟨L⟩ := args
    match L, hs with
    | [w0, w1, w2, w3, w4], _ => exact ⟨w0, w1, w2, w3, w4, rfl⟩
  have hw := fun d (hd : d ∈ tables_1) => atoms_spec (ws := Jvm.Cond.code x code maxLocals ret :: tables_1) hat d (List.mem_cons_of_mem _ hd)
  have hfit : Fit s := fun {y c} hc i hi => by
    obtain ⟨ha, rfl⟩ := Array.getElem?_eq_some_iff.mp hc
    have q := List.all_eq_true.mp ((Array.all_eq_true_iff_forall_mem.mp hF) _ (Array.getElem_mem ha)) i (List.mem_range.mpr hi)
    simpa [Array.getElem?_eq_getElem hi] using q
  obtain ⟨i0, j0⟩ := is_v hi0
  obtain rfl : w0 = (.int i0) := Option.some.inj j0
  obtain ⟨i1, j1⟩ := is_v hi1
  obtain rfl : w1 = (.int i1) := Option.some.inj j1
  obtain ⟨i2, j2⟩ := is_v hi2
  obtain rfl : w2 = (.int i2) := Option.some.inj j2
  obtain ⟨i3, j3⟩ := is_v hi3
  obtain rfl : w3 = (.int i3) := Option.some.inj j3
  obtain ⟨i4, j4⟩ := is_v hg4
  obtain rfl : w4 = (.int i4) := Option.some.inj j4
  obtain ⟨n, o, h1, h2, h3, _, L, rfl, ⟨rfl, N⟩, hq⟩ := rm0 l s _ hw tables_1 i0 i1 i2 i3 i4  s.heap s.heap.size (Nat.le_refl _) (Old.start s) p e ha hc hk s m _ below hf ((Spec.applies_iff_loose hf).mp happ).1 ⟨rfl, State.Warmed39.refl s, rfl⟩ trivial
  refine ⟨n, _, h1, h2, h3, hpost _ _ _ _ _ _ ⟨Cond.after_iff.mpr rfl, Cond.after_iff.mpr (eq_i res_at (Term.int_eval (1)) rfl), trivial⟩ ⟨hq.1, hq.2.1, (hq.2.2.sift fun y hy => Or.inr (N y hy)).mono (by decide) (by decide)⟩⟩
theorem main_1_1 : Claimed_1_1 := comes_1 fun _ _ _ _ _ _ h hF => ⟨h.1, hF⟩
theorem main_1_2 : Claimed_1_2 := comes_1 fun _ _ _ _ _ _ h hF => ⟨h.2.1, hF⟩
end Jvm.Pilot.@@N@@
namespace Jvm.Pilot.@@N@@
open Jvm Jvm.ClassFile Sem Op Lib Jvm.Free Jvm.Stand Jvm.Pilot.@@N@@.Jvm.D
/-! MADE BY PROGRAM (witnessworld.py) out of the Statement's table words and the real class files: 18 classes; the members and pool entries that the words name. The judged class is class 1, her method 1. -/
namespace start1
open Jvm.ClassFile
def u (s : String) : CpInfo := .utf8 (stringToUtf16 s)
/-- a pool by its gaps: so many unusable entries, then the entry; so many at the end -/
def gap : Nat → List CpInfo → List CpInfo
  | 0, r => r
  | n + 1, r => .unusable :: gap n r
def poolList (es : List (Nat × CpInfo)) (last : Nat) : List CpInfo := es.foldr (fun e r => gap e.1 (e.2 :: r)) (gap last [])
def pool (es : List (Nat × CpInfo)) (last : Nat) : Array CpInfo := ⟨poolList es last⟩
def fileOf (pool : Array CpInfo) (this : Nat) (attrs : Array Attribute := #[]) (ms : Array MethodInfo := #[]) (fl : Nat := 33) (sup : Nat := 0) (ifs : Array Nat := #[]) (fds : Array FieldInfo := #[]) : ClassFile where
  minorVersion := 0
  majorVersion := 65
  constantPool := pool
  accessFlags := fl
  thisClass := this
  superClass := sup
  interfaces := ifs
  fields := fds
  methods := ms
  attributes := attrs
def plain (name : String) (sup : Option ClassId) : Class where
  name := name
  kind := .ordinary
  loader := none
  accessFlags := 33
  super := sup
  interfaces := #[]
  cf := none
  fields := #[]
  methods := #[]
  instanceTypes := #[]
  staticTypes := #[]
  resolved := #[]
  callSites := []
  init := .initialized
  statics := none
  mirror := none

def pool0 : Array CpInfo := pool [(5, u "<init>"), (0, u "()V"), (1, .class_ 10), (1, u "java/lang/Object")] 113

def k0c0 : Code := { maxStack := 0, maxLocals := 1, code := object_method_1_code, exceptionTable := #[], attributes := #[] }
def k0m0 : Method := { name := "<init>", desc := "()V", sig := { parameters := [], returnType := none }, accessFlags := 1, code := some k0c0 }
/-- java/lang/Object -/
def k0 : Class := { plain "java/lang/Object" none with
  accessFlags := 33
  interfaces := #[]
  cf := some (fileOf pool0 8 #[] #[{ accessFlags := 1, nameIndex := 5, descriptorIndex := 6, attributes := #[] }] 33 0 #[] #[])
  fields := #[]
  methods := #[k0m0]
  instanceTypes := #[]
  staticTypes := #[]
  resolved := Array.replicate 124 none
  statics := none }

def pool1 : Array CpInfo := pool [(2, .class_ 4), (1, u "java/lang/Object"), (0, u "<init>"), (0, u "()V"), (0, .methodref 8 9), (0, .class_ 10), (0, .nameAndType 11 12), (0, u "com/example/revisit/revisit/policy/ChangeRatesAlikePinLaw"), (0, u "firstSlot"), (0, u "(III)I"), (0, .methodref 8 14), (0, .nameAndType 15 12), (0, u "lastSlot"), (0, .class_ 17), (0, u "com/example/revisit/revisit/policy/ChangeRates"), (0, .methodref 16 19), (0, .nameAndType 5 20), (0, u "(I)V"), (0, .methodref 16 22), (0, .nameAndType 23 24), (0, u "observe"), (0, u "(IIZ)V"), (0, .methodref 16 26), (0, .nameAndType 27 28), (0, u "alike"), (0, u "()Z"), (0, .long 18446744073709551615), (1, .methodref 8 32), (0, .nameAndType 33 34), (0, u "expect"), (0, u "(JJJJ)I"), (0, .methodref 8 36), (0, .nameAndType 37 38), (0, u "agrees"), (0, u "(IZ)Z"), (0, .integer 268435455), (0, .integer 536870911), (0, .long 2), (1, .methodref 8 44), (0, .nameAndType 45 46), (0, u "pow2"), (0, u "(J)Z"), (0, .methodref 48 49), (0, .class_ 50), (0, .nameAndType 51 52), (0, u "java/lang/Math"), (0, u "abs"), (0, u "(J)J"), (2, u "law"), (0, u "(IIIII)Z")] 3

def k1m0 : Method := { name := "<init>", desc := "()V", sig := { parameters := [], returnType := none }, accessFlags := 1, code := none }
def k1c1 : Code := { maxStack := 8, maxLocals := 28, code := code, exceptionTable := #[], attributes := #[] }
def k1m1 : Method := { name := "law", desc := "(IIIII)Z", sig := { parameters := [.int, .int, .int, .int, .int], returnType := some .boolean }, accessFlags := 9, code := some k1c1 }
def k1c2 : Code := { maxStack := 2, maxLocals := 3, code := method_3_code, exceptionTable := #[], attributes := #[] }
def k1m2 : Method := { name := "firstSlot", desc := "(III)I", sig := { parameters := [.int, .int, .int], returnType := some .int }, accessFlags := 10, code := some k1c2 }
def k1c3 : Code := { maxStack := 3, maxLocals := 3, code := method_4_code, exceptionTable := #[], attributes := #[] }
def k1m3 : Method := { name := "lastSlot", desc := "(III)I", sig := { parameters := [.int, .int, .int], returnType := some .int }, accessFlags := 10, code := some k1c3 }
def k1c4 : Code := { maxStack := 2, maxLocals := 2, code := method_5_code, exceptionTable := #[], attributes := #[] }
def k1m4 : Method := { name := "agrees", desc := "(IZ)Z", sig := { parameters := [.int, .boolean], returnType := some .boolean }, accessFlags := 10, code := some k1c4 }
def k1c5 : Code := { maxStack := 6, maxLocals := 2, code := method_6_code, exceptionTable := #[], attributes := #[] }
def k1m5 : Method := { name := "pow2", desc := "(J)Z", sig := { parameters := [.long], returnType := some .boolean }, accessFlags := 10, code := some k1c5 }
def k1c6 : Code := { maxStack := 8, maxLocals := 24, code := method_7_code, exceptionTable := #[], attributes := #[] }
def k1m6 : Method := { name := "expect", desc := "(JJJJ)I", sig := { parameters := [.long, .long, .long, .long], returnType := some .int }, accessFlags := 10, code := some k1c6 }
/-- com/example/revisit/revisit/policy/ChangeRatesAlikePinLaw -/
def k1 : Class := { plain "com/example/revisit/revisit/policy/ChangeRatesAlikePinLaw" (some 0) with
  accessFlags := 49
  interfaces := #[]
  cf := some (fileOf pool1 8 #[] #[{ accessFlags := 1, nameIndex := 5, descriptorIndex := 6, attributes := #[] }, { accessFlags := 9, nameIndex := 55, descriptorIndex := 56, attributes := #[] }, { accessFlags := 10, nameIndex := 11, descriptorIndex := 12, attributes := #[] }, { accessFlags := 10, nameIndex := 15, descriptorIndex := 12, attributes := #[] }, { accessFlags := 10, nameIndex := 37, descriptorIndex := 38, attributes := #[] }, { accessFlags := 10, nameIndex := 45, descriptorIndex := 46, attributes := #[] }, { accessFlags := 10, nameIndex := 33, descriptorIndex := 34, attributes := #[] }] 49 2 #[] #[])
  fields := #[]
  methods := #[k1m0, k1m1, k1m2, k1m3, k1m4, k1m5, k1m6]
  instanceTypes := #[]
  staticTypes := #[]
  resolved := Array.replicate 60 none
  statics := none }

def pool2 : Array CpInfo := pool [(1, .methodref 2 3), (0, .class_ 4), (0, .nameAndType 5 6), (0, u "com/example/revisit/revisit/policy/ChangeRates"), (0, u "checkedCount"), (0, u "(I)I"), (0, .class_ 8), (0, u "com/example/revisit/revisit/policy/RateLikelihood"), (0, .methodref 7 10), (0, .nameAndType 11 12), (0, u "<init>"), (0, u "()V"), (0, .methodref 2 14), (0, .nameAndType 11 15), (0, u "(ILcom/example/revisit/revisit/policy/RateLikelihood;)V"), (0, .fieldref 2 17), (0, .nameAndType 18 19), (0, u "likelihoods"), (0, u "[Lcom/example/revisit/revisit/policy/RateLikelihood;"), (0, .methodref 21 10), (0, .class_ 22), (0, u "java/lang/Object"), (0, .fieldref 2 24), (0, .nameAndType 25 26), (0, u "lastFetches"), (0, u "[I"), (0, .methodref 28 29), (0, .class_ 30), (0, .nameAndType 31 32), (0, u "java/util/Arrays"), (0, u "fill"), (0, u "([II)V"), (0, .fieldref 2 34), (0, .nameAndType 35 26), (0, u "fetches"), (0, .fieldref 2 37), (0, .nameAndType 38 26), (0, u "changedFetches"), (0, .fieldref 2 40), (0, .nameAndType 41 42), (0, u "pooled"), (0, u "Lcom/example/revisit/revisit/policy/RateLikelihood;"), (0, .fieldref 2 44), (0, .nameAndType 45 46), (0, u "dispersionTerms"), (0, u "[D"), (20, .fieldref 2 68), (0, .nameAndType 69 70), (0, u "fetchedSources"), (0, u "I"), (0, .fieldref 2 72), (0, .nameAndType 73 74), (0, u "pooledChangedFetches"), (0, u "J"), (0, .fieldref 2 76), (0, .nameAndType 77 74), (0, u "pooledSlots"), (3, .fieldref 2 82), (0, .nameAndType 83 84), (0, u "alikeKnown"), (0, u "Z"), (0, .fieldref 2 86), (0, .nameAndType 87 84), (0, u "alike"), (41, .methodref 130 131), (0, .class_ 132), (0, .nameAndType 133 134), (0, u "java/util/Objects"), (0, u "checkIndex"), (0, u "(II)I"), (2, .integer 2147483647), (3, .methodref 7 142), (0, .nameAndType 143 144), (0, u "add"), (0, u "(IZ)V"), (10, .methodref 2 156), (0, .nameAndType 157 158), (0, u "solveAlike"), (0, u "()Z"), (0, .double 4611686018427387904), (1, u "(I)V"), (11, u "observe"), (0, u "(IIZ)V")] 27

def k2c0 : Code := { maxStack := 4, maxLocals := 3, code := prog_35_method_1_code, exceptionTable := #[], attributes := #[] }
def k2m0 : Method := { name := "<init>", desc := "(I)V", sig := { parameters := [.int], returnType := none }, accessFlags := 1, code := some k2c0 }
def k2c1 : Code := { maxStack := 2, maxLocals := 3, code := prog_35_method_2_code, exceptionTable := #[], attributes := #[] }
def k2m1 : Method := { name := "<init>", desc := "(ILcom/example/revisit/revisit/policy/RateLikelihood;)V", sig := { parameters := [.int, (.object "com/example/revisit/revisit/policy/RateLikelihood")], returnType := none }, accessFlags := 2, code := some k2c1 }
def k2c2 : Code := { maxStack := 3, maxLocals := 1, code := prog_35_method_3_code, exceptionTable := #[], attributes := #[] }
def k2m2 : Method := { name := "checkedCount", desc := "(I)I", sig := { parameters := [.int], returnType := some .int }, accessFlags := 10, code := some k2c2 }
def k2c3 : Code := { maxStack := 8, maxLocals := 7, code := prog_35_method_10_code, exceptionTable := #[], attributes := #[] }
def k2m3 : Method := { name := "observe", desc := "(IIZ)V", sig := { parameters := [.int, .int, .boolean], returnType := none }, accessFlags := 1, code := some k2c3 }
def k2c4 : Code := { maxStack := 2, maxLocals := 1, code := prog_35_method_15_code, exceptionTable := #[], attributes := #[] }
def k2m4 : Method := { name := "alike", desc := "()Z", sig := { parameters := [], returnType := some .boolean }, accessFlags := 0, code := some k2c4 }
def k2c5 : Code := { maxStack := 6, maxLocals := 8, code := prog_35_method_16_code, exceptionTable := #[], attributes := #[] }
def k2m5 : Method := { name := "solveAlike", desc := "()Z", sig := { parameters := [], returnType := some .boolean }, accessFlags := 2, code := some k2c5 }
/-- com/example/revisit/revisit/policy/ChangeRates -/
def k2 : Class := { plain "com/example/revisit/revisit/policy/ChangeRates" (some 0) with
  accessFlags := 49
  interfaces := #[]
  cf := some (fileOf pool2 2 #[] #[{ accessFlags := 1, nameIndex := 11, descriptorIndex := 161, attributes := #[] }, { accessFlags := 2, nameIndex := 11, descriptorIndex := 15, attributes := #[] }, { accessFlags := 10, nameIndex := 5, descriptorIndex := 6, attributes := #[] }, { accessFlags := 1, nameIndex := 173, descriptorIndex := 174, attributes := #[] }, { accessFlags := 0, nameIndex := 87, descriptorIndex := 158, attributes := #[] }, { accessFlags := 2, nameIndex := 157, descriptorIndex := 158, attributes := #[] }] 49 21 #[] #[{ accessFlags := 18, nameIndex := 25, descriptorIndex := 26, attributes := #[] }, { accessFlags := 18, nameIndex := 35, descriptorIndex := 26, attributes := #[] }, { accessFlags := 18, nameIndex := 38, descriptorIndex := 26, attributes := #[] }, { accessFlags := 18, nameIndex := 18, descriptorIndex := 19, attributes := #[] }, { accessFlags := 18, nameIndex := 41, descriptorIndex := 42, attributes := #[] }, { accessFlags := 2, nameIndex := 69, descriptorIndex := 70, attributes := #[] }, { accessFlags := 2, nameIndex := 73, descriptorIndex := 74, attributes := #[] }, { accessFlags := 2, nameIndex := 77, descriptorIndex := 74, attributes := #[] }, { accessFlags := 18, nameIndex := 45, descriptorIndex := 46, attributes := #[] }, { accessFlags := 2, nameIndex := 83, descriptorIndex := 84, attributes := #[] }, { accessFlags := 2, nameIndex := 87, descriptorIndex := 84, attributes := #[] }])
  fields := #[{ name := "lastFetches", type := (.array .int), accessFlags := 18, slot := 0, constantValue := 0 }, { name := "fetches", type := (.array .int), accessFlags := 18, slot := 1, constantValue := 0 }, { name := "changedFetches", type := (.array .int), accessFlags := 18, slot := 2, constantValue := 0 }, { name := "likelihoods", type := (.array (.object "com/example/revisit/revisit/policy/RateLikelihood")), accessFlags := 18, slot := 3, constantValue := 0 }, { name := "pooled", type := (.object "com/example/revisit/revisit/policy/RateLikelihood"), accessFlags := 18, slot := 4, constantValue := 0 }, { name := "fetchedSources", type := .int, accessFlags := 2, slot := 5, constantValue := 0 }, { name := "pooledChangedFetches", type := .long, accessFlags := 2, slot := 6, constantValue := 0 }, { name := "pooledSlots", type := .long, accessFlags := 2, slot := 7, constantValue := 0 }, { name := "dispersionTerms", type := (.array .double), accessFlags := 18, slot := 8, constantValue := 0 }, { name := "alikeKnown", type := .boolean, accessFlags := 2, slot := 9, constantValue := 0 }, { name := "alike", type := .boolean, accessFlags := 2, slot := 10, constantValue := 0 }]
  methods := #[k2m0, k2m1, k2m2, k2m3, k2m4, k2m5]
  instanceTypes := #[(.array .int), (.array .int), (.array .int), (.array (.object "com/example/revisit/revisit/policy/RateLikelihood")), (.object "com/example/revisit/revisit/policy/RateLikelihood"), .int, .long, .long, (.array .double), .boolean, .boolean]
  staticTypes := #[]
  resolved := Array.replicate 202 none
  statics := none }

def pool3 : Array CpInfo := pool [(1, .methodref 2 3), (0, .class_ 4), (0, .nameAndType 5 6), (0, u "java/lang/Object"), (0, u "<init>"), (0, u "()V"), (2, .double 9221120237041090560), (1, .fieldref 12 13), (0, .class_ 14), (0, .nameAndType 15 16), (0, u "com/example/revisit/revisit/policy/RateLikelihood"), (0, u "rate"), (0, u "D"), (0, .fieldref 12 18), (0, .nameAndType 19 16), (0, u "lowRate"), (0, .fieldref 12 21), (0, .nameAndType 22 16), (0, u "highRate"), (0, .fieldref 12 24), (0, .nameAndType 25 26), (0, u "changedLengths"), (0, u "[I"), (0, .fieldref 12 28), (0, .nameAndType 29 30), (0, u "changedCounts"), (0, u "[J"), (0, .fieldref 12 32), (0, .nameAndType 33 34), (0, u "distinctLengths"), (0, u "I"), (0, .fieldref 12 36), (0, .nameAndType 37 38), (0, u "unchangedLength"), (0, u "J"), (30, .methodref 70 71), (0, .class_ 72), (0, .nameAndType 73 74), (0, u "java/util/Arrays"), (0, u "copyOf"), (0, u "([II)[I"), (0, .methodref 70 76), (0, .nameAndType 73 77), (0, u "([JI)[J"), (11, .methodref 12 90), (0, .nameAndType 91 92), (0, u "addChangedLength"), (0, u "(I)V"), (27, .methodref 70 121), (0, .nameAndType 122 123), (0, u "binarySearch"), (0, u "([IIII)I"), (0, .methodref 125 126), (0, .class_ 127), (0, .nameAndType 128 129), (0, u "java/lang/System"), (0, u "arraycopy"), (0, u "(Ljava/lang/Object;ILjava/lang/Object;II)V"), (19, u "LIKELIHOOD_DROP"), (11, u "add"), (0, u "(IZ)V")] 20

def k3c0 : Code := { maxStack := 6, maxLocals := 1, code := prog_54_method_1_code, exceptionTable := #[], attributes := #[] }
def k3m0 : Method := { name := "<init>", desc := "()V", sig := { parameters := [], returnType := none }, accessFlags := 0, code := some k3c0 }
def k3c1 : Code := { maxStack := 5, maxLocals := 3, code := prog_54_method_6_code, exceptionTable := #[], attributes := #[] }
def k3m1 : Method := { name := "add", desc := "(IZ)V", sig := { parameters := [.int, .boolean], returnType := none }, accessFlags := 0, code := some k3c1 }
def k3c2 : Code := { maxStack := 6, maxLocals := 3, code := prog_54_method_11_code, exceptionTable := #[], attributes := #[] }
def k3m2 : Method := { name := "addChangedLength", desc := "(I)V", sig := { parameters := [.int], returnType := none }, accessFlags := 2, code := some k3c2 }
/-- com/example/revisit/revisit/policy/RateLikelihood -/
def k3 : Class := { plain "com/example/revisit/revisit/policy/RateLikelihood" (some 0) with
  accessFlags := 48
  interfaces := #[]
  cf := some (fileOf pool3 12 #[] #[{ accessFlags := 0, nameIndex := 5, descriptorIndex := 6, attributes := #[] }, { accessFlags := 0, nameIndex := 161, descriptorIndex := 162, attributes := #[] }, { accessFlags := 2, nameIndex := 91, descriptorIndex := 92, attributes := #[] }] 48 2 #[] #[{ accessFlags := 26, nameIndex := 149, descriptorIndex := 16, attributes := #[] }, { accessFlags := 2, nameIndex := 25, descriptorIndex := 26, attributes := #[] }, { accessFlags := 2, nameIndex := 29, descriptorIndex := 30, attributes := #[] }, { accessFlags := 2, nameIndex := 33, descriptorIndex := 34, attributes := #[] }, { accessFlags := 2, nameIndex := 37, descriptorIndex := 38, attributes := #[] }, { accessFlags := 2, nameIndex := 15, descriptorIndex := 16, attributes := #[] }, { accessFlags := 2, nameIndex := 19, descriptorIndex := 16, attributes := #[] }, { accessFlags := 2, nameIndex := 22, descriptorIndex := 16, attributes := #[] }])
  fields := #[{ name := "LIKELIHOOD_DROP", type := .double, accessFlags := 26, slot := 0, constantValue := 0 }, { name := "changedLengths", type := (.array .int), accessFlags := 2, slot := 0, constantValue := 0 }, { name := "changedCounts", type := (.array .long), accessFlags := 2, slot := 1, constantValue := 0 }, { name := "distinctLengths", type := .int, accessFlags := 2, slot := 2, constantValue := 0 }, { name := "unchangedLength", type := .long, accessFlags := 2, slot := 3, constantValue := 0 }, { name := "rate", type := .double, accessFlags := 2, slot := 4, constantValue := 0 }, { name := "lowRate", type := .double, accessFlags := 2, slot := 5, constantValue := 0 }, { name := "highRate", type := .double, accessFlags := 2, slot := 6, constantValue := 0 }]
  methods := #[k3m0, k3m1, k3m2]
  instanceTypes := #[(.array .int), (.array .long), .int, .long, .double, .double, .double]
  staticTypes := #[.double]
  resolved := Array.replicate 183 none
  statics := none }

def pool4 : Array CpInfo := pool [(2, .class_ 4), (1, u "java/lang/Object"), (0, u "<init>"), (0, u "()V"), (6, .methodref 14 15), (0, .class_ 16), (0, .nameAndType 17 18), (0, u "java/util/Arrays"), (0, u "rangeCheck"), (0, u "(III)V"), (55, .class_ 76), (1, u "java/util/Arrays$NaturalOrder"), (36, .class_ 115), (1, u "java/util/Arrays$LegacyMergeSort"), (1, u "Z"), (32, .methodref 151 152), (0, .class_ 153), (0, .nameAndType 154 155), (0, u "java/lang/System"), (0, u "arraycopy"), (0, u "(Ljava/lang/Object;ILjava/lang/Object;II)V"), (51, u "binarySearch0"), (1, .methodref 14 210), (0, .nameAndType 207 211), (0, u "([IIII)I"), (90, u "copyOf"), (1, .methodref 305 306), (0, .class_ 307), (0, .nameAndType 308 309), (0, u "java/lang/Math"), (0, u "min"), (0, u "(II)I"), (65, .class_ 376), (0, u "java/util/Arrays$ArrayList"), (68, u "$assertionsDisabled"), (269, u "MIN_ARRAY_SORT_GRAN"), (0, u "I"), (2, u "INSERTIONSORT_THRESHOLD"), (74, u "binarySearch"), (45, u "fill"), (4, u "([II)V"), (25, u "([II)[I"), (0, u "([JI)[J"), (102, .class_ 976), (0, u "java/util/Arrays$ArrayItr")] 52

def k4m0 : Method := { name := "<init>", desc := "()V", sig := { parameters := [], returnType := none }, accessFlags := 2, code := none }
def k4c1 : Code := { maxStack := 4, maxLocals := 3, code := jdk_65_method_30_code, exceptionTable := #[], attributes := #[] }
def k4m1 : Method := { name := "rangeCheck", desc := "(III)V", sig := { parameters := [.int, .int, .int], returnType := none }, accessFlags := 8, code := some k4c1 }
def k4c2 : Code := { maxStack := 4, maxLocals := 4, code := jdk_65_method_58_code, exceptionTable := #[], attributes := #[] }
def k4m2 : Method := { name := "binarySearch", desc := "([IIII)I", sig := { parameters := [(.array .int), .int, .int, .int], returnType := some .int }, accessFlags := 9, code := some k4c2 }
def k4c3 : Code := { maxStack := 2, maxLocals := 8, code := jdk_65_method_59_code, exceptionTable := #[], attributes := #[] }
def k4m3 : Method := { name := "binarySearch0", desc := "([IIII)I", sig := { parameters := [(.array .int), .int, .int, .int], returnType := some .int }, accessFlags := 10, code := some k4c3 }
def k4c4 : Code := { maxStack := 3, maxLocals := 4, code := jdk_65_method_103_code, exceptionTable := #[], attributes := #[] }
def k4m4 : Method := { name := "fill", desc := "([II)V", sig := { parameters := [(.array .int), .int], returnType := none }, accessFlags := 9, code := some k4c4 }
def k4c5 : Code := { maxStack := 6, maxLocals := 3, code := jdk_65_method_123_code, exceptionTable := #[], attributes := #[] }
def k4m5 : Method := { name := "copyOf", desc := "([II)[I", sig := { parameters := [(.array .int), .int], returnType := some (.array .int) }, accessFlags := 9, code := some k4c5 }
def k4c6 : Code := { maxStack := 6, maxLocals := 3, code := jdk_65_method_124_code, exceptionTable := #[], attributes := #[] }
def k4m6 : Method := { name := "copyOf", desc := "([JI)[J", sig := { parameters := [(.array .long), .int], returnType := some (.array .long) }, accessFlags := 9, code := some k4c6 }
/-- java/util/Arrays -/
def k4 : Class := { plain "java/util/Arrays" (some 0) with
  accessFlags := 49
  interfaces := #[]
  cf := some (fileOf pool4 14 #[.nestMembers #[975, 375, 113, 74]] #[{ accessFlags := 2, nameIndex := 5, descriptorIndex := 6, attributes := #[] }, { accessFlags := 8, nameIndex := 17, descriptorIndex := 18, attributes := #[] }, { accessFlags := 9, nameIndex := 794, descriptorIndex := 211, attributes := #[] }, { accessFlags := 10, nameIndex := 207, descriptorIndex := 211, attributes := #[] }, { accessFlags := 9, nameIndex := 840, descriptorIndex := 845, attributes := #[] }, { accessFlags := 9, nameIndex := 302, descriptorIndex := 871, attributes := #[] }, { accessFlags := 9, nameIndex := 302, descriptorIndex := 872, attributes := #[] }] 49 2 #[] #[{ accessFlags := 26, nameIndex := 715, descriptorIndex := 716, attributes := #[] }, { accessFlags := 26, nameIndex := 719, descriptorIndex := 716, attributes := #[] }, { accessFlags := 4120, nameIndex := 445, descriptorIndex := 117, attributes := #[] }])
  fields := #[{ name := "MIN_ARRAY_SORT_GRAN", type := .int, accessFlags := 26, slot := 0, constantValue := 0 }, { name := "INSERTIONSORT_THRESHOLD", type := .int, accessFlags := 26, slot := 1, constantValue := 0 }, { name := "$assertionsDisabled", type := .boolean, accessFlags := 4120, slot := 2, constantValue := 0 }]
  methods := #[k4m0, k4m1, k4m2, k4m3, k4m4, k4m5, k4m6]
  instanceTypes := #[]
  staticTypes := #[.int, .int, .boolean]
  resolved := Array.replicate 1029 none
  statics := none }

def pool5 : Array CpInfo := pool [(2, .class_ 4), (1, u "java/lang/Object"), (0, u "<init>"), (0, u "()V"), (35, .class_ 44), (1, u "java/util/Objects"), (60, .methodref 106 107), (0, .class_ 108), (0, .nameAndType 109 110), (0, u "jdk/internal/util/Preconditions"), (0, u "checkIndex"), (0, u "(IILjava/util/function/BiFunction;)I"), (60, u "(II)I")] 12

def k5m0 : Method := { name := "<init>", desc := "()V", sig := { parameters := [], returnType := none }, accessFlags := 2, code := none }
def k5c1 : Code := { maxStack := 3, maxLocals := 2, code := jdk_31_method_17_code, exceptionTable := #[], attributes := #[] }
def k5m1 : Method := { name := "checkIndex", desc := "(II)I", sig := { parameters := [.int, .int], returnType := some .int }, accessFlags := 9, code := some k5c1 }
/-- java/util/Objects -/
def k5 : Class := { plain "java/util/Objects" (some 0) with
  accessFlags := 49
  interfaces := #[]
  cf := some (fileOf pool5 42 #[] #[{ accessFlags := 2, nameIndex := 5, descriptorIndex := 6, attributes := #[] }, { accessFlags := 9, nameIndex := 109, descriptorIndex := 171, attributes := #[] }] 49 2 #[] #[])
  fields := #[]
  methods := #[k5m0, k5m1]
  instanceTypes := #[]
  staticTypes := #[]
  resolved := Array.replicate 184 none
  statics := none }

def pool6 : Array CpInfo := pool [(2, .class_ 4), (1, u "java/lang/Object"), (0, u "<init>"), (0, u "()V"), (17, .class_ 26), (1, u "jdk/internal/util/Preconditions"), (6, u "checkIndex"), (21, .class_ 56), (0, u "jdk/internal/util/Preconditions$4"), (57, .class_ 115), (0, u "jdk/internal/util/Preconditions$1"), (7, u "SIOOBE_FORMATTER"), (0, u "Ljava/util/function/BiFunction;"), (0, .class_ 126), (0, u "jdk/internal/util/Preconditions$2"), (3, u "AIOOBE_FORMATTER"), (0, .class_ 132), (0, u "jdk/internal/util/Preconditions$3"), (3, u "IOOBE_FORMATTER"), (41, u "(IILjava/util/function/BiFunction;)I")] 15

def k6m0 : Method := { name := "<init>", desc := "()V", sig := { parameters := [], returnType := none }, accessFlags := 1, code := none }
def k6c1 : Code := { maxStack := 3, maxLocals := 3, code := jdk_41_method_11_code, exceptionTable := #[], attributes := #[] }
def k6m1 : Method := { name := "checkIndex", desc := "(IILjava/util/function/BiFunction;)I", sig := { parameters := [.int, .int, (.object "java/util/function/BiFunction")], returnType := some .int }, accessFlags := 9, code := some k6c1 }
/-- jdk/internal/util/Preconditions -/
def k6 : Class := { plain "jdk/internal/util/Preconditions" (some 0) with
  accessFlags := 33
  interfaces := #[]
  cf := some (fileOf pool6 24 #[.nestMembers #[55, 131, 125, 114]] #[{ accessFlags := 1, nameIndex := 5, descriptorIndex := 6, attributes := #[] }, { accessFlags := 9, nameIndex := 33, descriptorIndex := 178, attributes := #[] }] 33 2 #[] #[{ accessFlags := 25, nameIndex := 123, descriptorIndex := 124, attributes := #[] }, { accessFlags := 25, nameIndex := 130, descriptorIndex := 124, attributes := #[] }, { accessFlags := 25, nameIndex := 136, descriptorIndex := 124, attributes := #[] }])
  fields := #[{ name := "SIOOBE_FORMATTER", type := (.object "java/util/function/BiFunction"), accessFlags := 25, slot := 0, constantValue := 0 }, { name := "AIOOBE_FORMATTER", type := (.object "java/util/function/BiFunction"), accessFlags := 25, slot := 1, constantValue := 0 }, { name := "IOOBE_FORMATTER", type := (.object "java/util/function/BiFunction"), accessFlags := 25, slot := 2, constantValue := 0 }]
  methods := #[k6m0, k6m1]
  instanceTypes := #[]
  staticTypes := #[(.object "java/util/function/BiFunction"), (.object "java/util/function/BiFunction"), (.object "java/util/function/BiFunction")]
  resolved := Array.replicate 194 none
  statics := none }

def pool7 : Array CpInfo := pool [(1, .class_ 2), (0, u "java/lang/Math"), (1, .class_ 6), (1, u "java/lang/Object"), (0, u "<init>"), (0, u "()V"), (89, .class_ 100), (1, u "java/lang/Math$RandomNumberGeneratorHolder"), (23, u "abs"), (0, u "(J)J"), (46, u "negativeZeroFloatBits"), (0, u "J"), (2, u "negativeZeroDoubleBits"), (24, u "min"), (43, u "$assertionsDisabled"), (0, u "Z"), (88, u "(II)I"), (2, u "twoToTheDoubleScaleDown"), (0, u "D"), (4, u "twoToTheDoubleScaleUp"), (9, u "E"), (3, u "PI"), (2, u "TAU"), (2, u "DEGREES_TO_RADIANS"), (0, u "RADIANS_TO_DEGREES")] 94

def k7m0 : Method := { name := "<init>", desc := "()V", sig := { parameters := [], returnType := none }, accessFlags := 2, code := none }
def k7c1 : Code := { maxStack := 4, maxLocals := 2, code := jdk_29_method_61_code, exceptionTable := #[], attributes := #[] }
def k7m1 : Method := { name := "abs", desc := "(J)J", sig := { parameters := [.long], returnType := some .long }, accessFlags := 9, code := some k7c1 }
def k7c2 : Code := { maxStack := 2, maxLocals := 2, code := jdk_29_method_69_code, exceptionTable := #[], attributes := #[] }
def k7m2 : Method := { name := "min", desc := "(II)I", sig := { parameters := [.int, .int], returnType := some .int }, accessFlags := 9, code := some k7c2 }
/-- java/lang/Math -/
def k7 : Class := { plain "java/lang/Math" (some 0) with
  accessFlags := 49
  interfaces := #[]
  cf := some (fileOf pool7 1 #[.nestMembers #[98]] #[{ accessFlags := 2, nameIndex := 7, descriptorIndex := 8, attributes := #[] }, { accessFlags := 9, nameIndex := 124, descriptorIndex := 125, attributes := #[] }, { accessFlags := 9, nameIndex := 201, descriptorIndex := 335, attributes := #[] }] 49 4 #[] #[{ accessFlags := 25, nameIndex := 354, descriptorIndex := 339, attributes := #[] }, { accessFlags := 25, nameIndex := 358, descriptorIndex := 339, attributes := #[] }, { accessFlags := 25, nameIndex := 361, descriptorIndex := 339, attributes := #[] }, { accessFlags := 26, nameIndex := 364, descriptorIndex := 339, attributes := #[] }, { accessFlags := 26, nameIndex := 365, descriptorIndex := 339, attributes := #[] }, { accessFlags := 26, nameIndex := 172, descriptorIndex := 173, attributes := #[] }, { accessFlags := 26, nameIndex := 176, descriptorIndex := 173, attributes := #[] }, { accessFlags := 8, nameIndex := 344, descriptorIndex := 339, attributes := #[] }, { accessFlags := 8, nameIndex := 338, descriptorIndex := 339, attributes := #[] }, { accessFlags := 4120, nameIndex := 245, descriptorIndex := 246, attributes := #[] }])
  fields := #[{ name := "E", type := .double, accessFlags := 25, slot := 0, constantValue := 0 }, { name := "PI", type := .double, accessFlags := 25, slot := 1, constantValue := 0 }, { name := "TAU", type := .double, accessFlags := 25, slot := 2, constantValue := 0 }, { name := "DEGREES_TO_RADIANS", type := .double, accessFlags := 26, slot := 3, constantValue := 0 }, { name := "RADIANS_TO_DEGREES", type := .double, accessFlags := 26, slot := 4, constantValue := 0 }, { name := "negativeZeroFloatBits", type := .long, accessFlags := 26, slot := 5, constantValue := 0 }, { name := "negativeZeroDoubleBits", type := .long, accessFlags := 26, slot := 6, constantValue := 0 }, { name := "twoToTheDoubleScaleUp", type := .double, accessFlags := 8, slot := 7, constantValue := 0 }, { name := "twoToTheDoubleScaleDown", type := .double, accessFlags := 8, slot := 8, constantValue := 0 }, { name := "$assertionsDisabled", type := .boolean, accessFlags := 4120, slot := 9, constantValue := 0 }]
  methods := #[k7m0, k7m1, k7m2]
  instanceTypes := #[]
  staticTypes := #[.double, .double, .double, .double, .double, .long, .long, .double, .double, .boolean]
  resolved := Array.replicate 460 none
  statics := none }

def pool8 : Array CpInfo := pool [(2, .class_ 4), (1, u "java/lang/Object"), (0, u "<init>"), (0, u "()V"), (1, .class_ 10), (1, u "java/lang/System"), (0, u "allowSecurityManager"), (0, u "I"), (16, u "cons"), (0, u "Ljava/io/Console;"), (77, .class_ 110), (1, u "java/lang/System$CallersHolder"), (43, u "initialErrStream"), (0, u "Ljava/io/PrintStream;"), (19, u "security"), (0, u "Ljava/lang/SecurityManager;"), (31, .class_ 209), (0, u "java/lang/System$1"), (7, u "props"), (0, u "Ljava/util/Properties;"), (2, u "lineSeparator"), (0, u "Ljava/lang/String;"), (96, .class_ 321), (1, u "java/lang/System$LoggerFinder"), (5, .class_ 328), (0, u "java/lang/System$Logger"), (67, u "err"), (2, u "out"), (91, u "notSupportedJnuEncoding"), (15, u "in"), (17, u "initialIn"), (0, u "Ljava/io/InputStream;"), (35, u "bootLayer"), (0, u "Ljava/lang/ModuleLayer;"), (99, .class_ 664), (0, u "java/lang/System$2"), (9, u "NEVER"), (2, u "MAYBE"), (49, u "arraycopy"), (0, u "(Ljava/lang/Object;ILjava/lang/Object;II)V"), (72, .class_ 802), (0, u "java/lang/System$Logger$Level")] 31

def k8m0 : Method := { name := "<init>", desc := "()V", sig := { parameters := [], returnType := none }, accessFlags := 2, code := none }
def k8m1 : Method := { name := "arraycopy", desc := "(Ljava/lang/Object;ILjava/lang/Object;II)V", sig := { parameters := [(.object "java/lang/Object"), .int, (.object "java/lang/Object"), .int, .int], returnType := none }, accessFlags := 265, code := none }
/-- java/lang/System -/
def k8 : Class := { plain "java/lang/System" (some 0) with
  accessFlags := 49
  interfaces := #[]
  cf := some (fileOf pool8 8 #[.nestMembers #[319, 327, 801, 108, 663, 208]] #[{ accessFlags := 2, nameIndex := 5, descriptorIndex := 6, attributes := #[] }, { accessFlags := 265, nameIndex := 727, descriptorIndex := 728, attributes := #[] }] 49 2 #[] #[{ accessFlags := 25, nameIndex := 507, descriptorIndex := 526, attributes := #[] }, { accessFlags := 25, nameIndex := 399, descriptorIndex := 155, attributes := #[] }, { accessFlags := 25, nameIndex := 396, descriptorIndex := 155, attributes := #[] }, { accessFlags := 10, nameIndex := 525, descriptorIndex := 526, attributes := #[] }, { accessFlags := 26, nameIndex := 674, descriptorIndex := 12, attributes := #[] }, { accessFlags := 26, nameIndex := 677, descriptorIndex := 12, attributes := #[] }, { accessFlags := 10, nameIndex := 11, descriptorIndex := 12, attributes := #[] }, { accessFlags := 74, nameIndex := 175, descriptorIndex := 176, attributes := #[] }, { accessFlags := 10, nameIndex := 491, descriptorIndex := 222, attributes := #[] }, { accessFlags := 74, nameIndex := 29, descriptorIndex := 30, attributes := #[] }, { accessFlags := 74, nameIndex := 154, descriptorIndex := 155, attributes := #[] }, { accessFlags := 10, nameIndex := 217, descriptorIndex := 218, attributes := #[] }, { accessFlags := 10, nameIndex := 221, descriptorIndex := 222, attributes := #[] }, { accessFlags := 8, nameIndex := 562, descriptorIndex := 563, attributes := #[] }])
  fields := #[{ name := "in", type := (.object "java/io/InputStream"), accessFlags := 25, slot := 0, constantValue := 0 }, { name := "out", type := (.object "java/io/PrintStream"), accessFlags := 25, slot := 1, constantValue := 0 }, { name := "err", type := (.object "java/io/PrintStream"), accessFlags := 25, slot := 2, constantValue := 0 }, { name := "initialIn", type := (.object "java/io/InputStream"), accessFlags := 10, slot := 3, constantValue := 0 }, { name := "NEVER", type := .int, accessFlags := 26, slot := 4, constantValue := 0 }, { name := "MAYBE", type := .int, accessFlags := 26, slot := 5, constantValue := 0 }, { name := "allowSecurityManager", type := .int, accessFlags := 10, slot := 6, constantValue := 0 }, { name := "security", type := (.object "java/lang/SecurityManager"), accessFlags := 74, slot := 7, constantValue := 0 }, { name := "notSupportedJnuEncoding", type := (.object "java/lang/String"), accessFlags := 10, slot := 8, constantValue := 0 }, { name := "cons", type := (.object "java/io/Console"), accessFlags := 74, slot := 9, constantValue := 0 }, { name := "initialErrStream", type := (.object "java/io/PrintStream"), accessFlags := 74, slot := 10, constantValue := 0 }, { name := "props", type := (.object "java/util/Properties"), accessFlags := 10, slot := 11, constantValue := 0 }, { name := "lineSeparator", type := (.object "java/lang/String"), accessFlags := 10, slot := 12, constantValue := 0 }, { name := "bootLayer", type := (.object "java/lang/ModuleLayer"), accessFlags := 8, slot := 13, constantValue := 0 }]
  methods := #[k8m0, k8m1]
  instanceTypes := #[]
  staticTypes := #[(.object "java/io/InputStream"), (.object "java/io/PrintStream"), (.object "java/io/PrintStream"), (.object "java/io/InputStream"), .int, .int, .int, (.object "java/lang/SecurityManager"), (.object "java/lang/String"), (.object "java/io/Console"), (.object "java/io/PrintStream"), (.object "java/util/Properties"), (.object "java/lang/String"), (.object "java/lang/ModuleLayer")]
  resolved := Array.replicate 834 none
  statics := none }

def pool9 : Array CpInfo := pool [(1, u "java/lang/Cloneable"), (0, .class_ 1), (0, u "java/lang/Object"), (0, .class_ 3)] 3

/-- java/lang/Cloneable -/
def k9 : Class := { plain "java/lang/Cloneable" (some 0) with
  accessFlags := 1537
  interfaces := #[]
  cf := some (fileOf pool9 2 #[] #[] 1537 4 #[] #[])
  fields := #[]
  methods := #[]
  instanceTypes := #[]
  staticTypes := #[]
  resolved := Array.replicate 8 none
  statics := none }

def pool10 : Array CpInfo := pool [(1, u "java/io/Serializable"), (0, .class_ 1), (0, u "java/lang/Object"), (0, .class_ 3)] 3

/-- java/io/Serializable -/
def k10 : Class := { plain "java/io/Serializable" (some 0) with
  accessFlags := 1537
  interfaces := #[]
  cf := some (fileOf pool10 2 #[] #[] 1537 4 #[] #[])
  fields := #[]
  methods := #[]
  instanceTypes := #[]
  staticTypes := #[]
  resolved := Array.replicate 8 none
  statics := none }

/-- the primitive byte -/
def k11 : Class := { plain "byte" none with kind := .primitive 'B', accessFlags := 0x411 }
/-- [B -/
def k12 : Class := { plain "[B" (some 0) with kind := .array 11 .byte, interfaces := #[9, 10], accessFlags := 1041 }

/-- the primitive int -/
def k13 : Class := { plain "int" none with kind := .primitive 'I', accessFlags := 0x411 }
/-- [I -/
def k14 : Class := { plain "[I" (some 0) with kind := .array 13 .int, interfaces := #[9, 10], accessFlags := 1041 }

/-- the primitive long -/
def k15 : Class := { plain "long" none with kind := .primitive 'J', accessFlags := 0x411 }
/-- [J -/
def k16 : Class := { plain "[J" (some 0) with kind := .array 15 .long, interfaces := #[9, 10], accessFlags := 1041 }

/-- [Lcom/example/revisit/revisit/policy/RateLikelihood; -/
def k17 : Class := { plain "[Lcom/example/revisit/revisit/policy/RateLikelihood;" (some 0) with kind := .array 3 (.object "com/example/revisit/revisit/policy/RateLikelihood"), interfaces := #[9, 10], accessFlags := 1041 }

def heap : Heap := #[]
def k18 : Class := { plain "double" none with kind := .primitive 'D', accessFlags := 0x411 }
def k19 : Class := { plain "[D" (some 0) with kind := .array 18 .double, interfaces := #[9, 10], accessFlags := 1041 }
def classes : Array Class := #[k0, k1, k2, k3, k4, k5, k6, k7, k8, k9, k10, k11, k12, k13, k14, k15, k16, k17, k18, k19]
def interned : List (Array UInt16 × Addr) := []
def slotsUsed : Nat := 0
def theMethod : MethodId := ⟨1, 1⟩
def args0 : Array Value := #[.int 5, .int 5, .int 5, .int 5, .int 5]
def aboutOver (below : List Frame) : State where
  vm := { classes := classes, interned := interned.toArray }
  heap := heap
  slotsUsed := slotsUsed
  threads := #[{ frames := .invoking theMethod args0 :: below }]
def below0 : List Frame := [.native { method := ⟨0, 0⟩, args := #[] }]
def about1 : State := aboutOver below0
def p0 : Program := .bare "" "" ""
def e0 : Env := launch0.env 0 0 0
theorem w_frames : about1.frames = Frame.invoking theMethod args0 :: below0 := rfl
set_option maxRecDepth 65536 in
theorem w_args : argsFit about1.vm theMethod args0 = true := by decide +kernel
set_option maxRecDepth 65536 in
theorem w_heap : heapFits about1 = true := by decide +kernel
set_option maxRecDepth 65536 in
theorem w_runnable : about1.curStatus? = some .runnable := by decide +kernel
set_option maxRecDepth 65536 in
theorem w_alone : about1.alone = true := by decide +kernel
set_option maxRecDepth 65536 in
theorem w_named : about1.methodNamed? x = some theMethod := by decide +kernel
set_option maxRecDepth 65536 in
theorem w_hears : about1.hears theMethod below0 = true := by decide +kernel
set_option maxRecDepth 65536 in
theorem w_ripe : about1.ripe theMethod args0 below0 = true := by decide +kernel
theorem w_running : about1.status = .running := rfl
set_option maxRecDepth 65536 in
theorem w_room : about1.hasRoom e0.platform room_1 = true :=
  launch0.hasRoom_least _ room_1 (by decide +kernel) (by decide +kernel) (by decide +kernel) (by decide +kernel) (by decide +kernel) (by decide +kernel)
theorem allAtoms_all (ts : List Jvm.Cond) (a : Array Jvm.Value) (st : Jvm.State) : (allAtoms ts).before a st = ts.all (fun c => c.before a st) := by
  induction ts with
  | nil => rfl
  | cons c t ih =>
    show (Jvm.Cond.and c (allAtoms t)).before a st = _
    rw [Jvm.Cond.before_and, ih, List.all_cons]
def words1 : List Jvm.Cond := Jvm.Cond.code x code maxLocals ret :: tables_1
/-- a 'code' word, met by the world's own term for the bytes: nothing is compared byte by byte -/
theorem code_word {y : MethodName} {bytes : ByteArray} {mx : Nat} {rt : Option FieldType} {a : Array Value} {s : State} {m : MethodId} {meth : Method} {c : Code} (h1 : s.methodNamed? y = some m) (h2 : s.vm.method? m = some meth) (h3 : meth.code = some c) (h4 : c.code = bytes)
    (h5 : (c.maxLocals == mx && c.exceptionTable.isEmpty && decide (c.maxStack ≤ mostOperands) && decide (meth.sig.returnType = rt) && !meth.locks && decide (parseMethodDescriptor y.desc = some meth.sig)) = true) : (Jvm.Cond.code y bytes mx rt).before a s = true := by
  simp only [Bool.and_eq_true, beq_iff_eq, Bool.not_eq_true', decide_eq_true_eq] at h5
  obtain ⟨⟨⟨⟨⟨g1, g2⟩, g3⟩, g4⟩, g5⟩, g6⟩ := h5
  simp [Cond.before, Cond.holds, Cond.value, h1, h2, h3, h4, g1, g2, g3, g4, g5, g6]
def isCode : Jvm.Cond → Bool
  | .code _ _ _ _ => true
  | _ => false
theorem all_split {L : List Jvm.Cond} {P : Jvm.Cond → Bool} (h1 : L.all (fun c => isCode c || P c) = true) (h2 : ∀ c ∈ L.filter isCode, P c = true) : L.all P = true := by
  refine List.all_eq_true.mpr fun c hc => ?_
  have h := List.all_eq_true.mp h1 c hc
  rcases Bool.eq_false_or_eq_true (isCode c) with hi | hi
  · exact h2 c (List.mem_filter.mpr ⟨hc, hi⟩)
  · simpa [hi] using h
set_option maxRecDepth 65536 in
theorem w_c0 : (Jvm.Cond.code x code maxLocals ret).before args0 about1 = true := code_word (m := ⟨1, 1⟩) (meth := k1m1) (c := k1c1) (by decide +kernel) rfl rfl rfl (by decide +kernel)
set_option maxRecDepth 65536 in
theorem w_c1 : (Jvm.Cond.code ({ cls := "com/example/revisit/revisit/policy/ChangeRatesAlikePinLaw", name := "firstSlot", desc := "(III)I" } : Jvm.MethodName) method_3_code (3 : Nat) (Option.some Jvm.ClassFile.FieldType.int)).before args0 about1 = true := code_word (m := ⟨1, 2⟩) (meth := k1m2) (c := k1c2) (by decide +kernel) rfl rfl rfl (by decide +kernel)
set_option maxRecDepth 65536 in
theorem w_c2 : (Jvm.Cond.code ({ cls := "com/example/revisit/revisit/policy/ChangeRatesAlikePinLaw", name := "lastSlot", desc := "(III)I" } : Jvm.MethodName) method_4_code (3 : Nat) (Option.some Jvm.ClassFile.FieldType.int)).before args0 about1 = true := code_word (m := ⟨1, 3⟩) (meth := k1m3) (c := k1c3) (by decide +kernel) rfl rfl rfl (by decide +kernel)
set_option maxRecDepth 65536 in
theorem w_c3 : (Jvm.Cond.code ({ cls := "com/example/revisit/revisit/policy/ChangeRates", name := "<init>", desc := "(I)V" } : Jvm.MethodName) prog_35_method_1_code (3 : Nat) (Option.none : Option Jvm.ClassFile.FieldType)).before args0 about1 = true := code_word (m := ⟨2, 0⟩) (meth := k2m0) (c := k2c0) (by decide +kernel) rfl rfl rfl (by decide +kernel)
set_option maxRecDepth 65536 in
theorem w_c4 : (Jvm.Cond.code ({ cls := "com/example/revisit/revisit/policy/ChangeRates", name := "checkedCount", desc := "(I)I" } : Jvm.MethodName) prog_35_method_3_code (1 : Nat) (Option.some Jvm.ClassFile.FieldType.int)).before args0 about1 = true := code_word (m := ⟨2, 2⟩) (meth := k2m2) (c := k2c2) (by decide +kernel) rfl rfl rfl (by decide +kernel)
set_option maxRecDepth 65536 in
theorem w_c5 : (Jvm.Cond.code ({ cls := "com/example/revisit/revisit/policy/RateLikelihood", name := "<init>", desc := "()V" } : Jvm.MethodName) prog_54_method_1_code (1 : Nat) (Option.none : Option Jvm.ClassFile.FieldType)).before args0 about1 = true := code_word (m := ⟨3, 0⟩) (meth := k3m0) (c := k3c0) (by decide +kernel) rfl rfl rfl (by decide +kernel)
set_option maxRecDepth 65536 in
theorem w_c6 : (Jvm.Cond.code ({ cls := "java/lang/Object", name := "<init>", desc := "()V" } : Jvm.MethodName) object_method_1_code (1 : Nat) (Option.none : Option Jvm.ClassFile.FieldType)).before args0 about1 = true := code_word (m := ⟨0, 0⟩) (meth := k0m0) (c := k0c0) (by decide +kernel) rfl rfl rfl (by decide +kernel)
set_option maxRecDepth 65536 in
theorem w_c7 : (Jvm.Cond.code ({ cls := "com/example/revisit/revisit/policy/ChangeRates", name := "<init>", desc := "(ILcom/example/revisit/revisit/policy/RateLikelihood;)V" } : Jvm.MethodName) prog_35_method_2_code (3 : Nat) (Option.none : Option Jvm.ClassFile.FieldType)).before args0 about1 = true := code_word (m := ⟨2, 1⟩) (meth := k2m1) (c := k2c1) (by decide +kernel) rfl rfl rfl (by decide +kernel)
set_option maxRecDepth 65536 in
theorem w_c8 : (Jvm.Cond.code ({ cls := "java/util/Arrays", name := "fill", desc := "([II)V" } : Jvm.MethodName) jdk_65_method_103_code (4 : Nat) (Option.none : Option Jvm.ClassFile.FieldType)).before args0 about1 = true := code_word (m := ⟨4, 4⟩) (meth := k4m4) (c := k4c4) (by decide +kernel) rfl rfl rfl (by decide +kernel)
set_option maxRecDepth 65536 in
theorem w_c9 : (Jvm.Cond.code ({ cls := "com/example/revisit/revisit/policy/ChangeRates", name := "alike", desc := "()Z" } : Jvm.MethodName) prog_35_method_15_code (1 : Nat) (Option.some Jvm.ClassFile.FieldType.boolean)).before args0 about1 = true := code_word (m := ⟨2, 4⟩) (meth := k2m4) (c := k2c4) (by decide +kernel) rfl rfl rfl (by decide +kernel)
set_option maxRecDepth 65536 in
theorem w_c10 : (Jvm.Cond.code ({ cls := "com/example/revisit/revisit/policy/ChangeRates", name := "solveAlike", desc := "()Z" } : Jvm.MethodName) prog_35_method_16_code (8 : Nat) (Option.some Jvm.ClassFile.FieldType.boolean)).before args0 about1 = true := code_word (m := ⟨2, 5⟩) (meth := k2m5) (c := k2c5) (by decide +kernel) rfl rfl rfl (by decide +kernel)
set_option maxRecDepth 65536 in
theorem w_c11 : (Jvm.Cond.code ({ cls := "com/example/revisit/revisit/policy/ChangeRatesAlikePinLaw", name := "expect", desc := "(JJJJ)I" } : Jvm.MethodName) method_7_code (24 : Nat) (Option.some Jvm.ClassFile.FieldType.int)).before args0 about1 = true := code_word (m := ⟨1, 6⟩) (meth := k1m6) (c := k1c6) (by decide +kernel) rfl rfl rfl (by decide +kernel)
set_option maxRecDepth 65536 in
theorem w_c12 : (Jvm.Cond.code ({ cls := "com/example/revisit/revisit/policy/ChangeRatesAlikePinLaw", name := "agrees", desc := "(IZ)Z" } : Jvm.MethodName) method_5_code (2 : Nat) (Option.some Jvm.ClassFile.FieldType.boolean)).before args0 about1 = true := code_word (m := ⟨1, 4⟩) (meth := k1m4) (c := k1c4) (by decide +kernel) rfl rfl rfl (by decide +kernel)
set_option maxRecDepth 65536 in
theorem w_c13 : (Jvm.Cond.code ({ cls := "com/example/revisit/revisit/policy/ChangeRates", name := "observe", desc := "(IIZ)V" } : Jvm.MethodName) prog_35_method_10_code (7 : Nat) (Option.none : Option Jvm.ClassFile.FieldType)).before args0 about1 = true := code_word (m := ⟨2, 3⟩) (meth := k2m3) (c := k2c3) (by decide +kernel) rfl rfl rfl (by decide +kernel)
set_option maxRecDepth 65536 in
theorem w_c14 : (Jvm.Cond.code ({ cls := "java/util/Objects", name := "checkIndex", desc := "(II)I" } : Jvm.MethodName) jdk_31_method_17_code (2 : Nat) (Option.some Jvm.ClassFile.FieldType.int)).before args0 about1 = true := code_word (m := ⟨5, 1⟩) (meth := k5m1) (c := k5c1) (by decide +kernel) rfl rfl rfl (by decide +kernel)
set_option maxRecDepth 65536 in
theorem w_c15 : (Jvm.Cond.code ({ cls := "jdk/internal/util/Preconditions", name := "checkIndex", desc := "(IILjava/util/function/BiFunction;)I" } : Jvm.MethodName) jdk_41_method_11_code (3 : Nat) (Option.some Jvm.ClassFile.FieldType.int)).before args0 about1 = true := code_word (m := ⟨6, 1⟩) (meth := k6m1) (c := k6c1) (by decide +kernel) rfl rfl rfl (by decide +kernel)
set_option maxRecDepth 65536 in
theorem w_c16 : (Jvm.Cond.code ({ cls := "com/example/revisit/revisit/policy/RateLikelihood", name := "add", desc := "(IZ)V" } : Jvm.MethodName) prog_54_method_6_code (3 : Nat) (Option.none : Option Jvm.ClassFile.FieldType)).before args0 about1 = true := code_word (m := ⟨3, 1⟩) (meth := k3m1) (c := k3c1) (by decide +kernel) rfl rfl rfl (by decide +kernel)
set_option maxRecDepth 65536 in
theorem w_c17 : (Jvm.Cond.code ({ cls := "com/example/revisit/revisit/policy/RateLikelihood", name := "addChangedLength", desc := "(I)V" } : Jvm.MethodName) prog_54_method_11_code (3 : Nat) (Option.none : Option Jvm.ClassFile.FieldType)).before args0 about1 = true := code_word (m := ⟨3, 2⟩) (meth := k3m2) (c := k3c2) (by decide +kernel) rfl rfl rfl (by decide +kernel)
set_option maxRecDepth 65536 in
theorem w_c18 : (Jvm.Cond.code ({ cls := "java/util/Arrays", name := "binarySearch", desc := "([IIII)I" } : Jvm.MethodName) jdk_65_method_58_code (4 : Nat) (Option.some Jvm.ClassFile.FieldType.int)).before args0 about1 = true := code_word (m := ⟨4, 2⟩) (meth := k4m2) (c := k4c2) (by decide +kernel) rfl rfl rfl (by decide +kernel)
set_option maxRecDepth 65536 in
theorem w_c19 : (Jvm.Cond.code ({ cls := "java/util/Arrays", name := "rangeCheck", desc := "(III)V" } : Jvm.MethodName) jdk_65_method_30_code (3 : Nat) (Option.none : Option Jvm.ClassFile.FieldType)).before args0 about1 = true := code_word (m := ⟨4, 1⟩) (meth := k4m1) (c := k4c1) (by decide +kernel) rfl rfl rfl (by decide +kernel)
set_option maxRecDepth 65536 in
theorem w_c20 : (Jvm.Cond.code ({ cls := "java/util/Arrays", name := "binarySearch0", desc := "([IIII)I" } : Jvm.MethodName) jdk_65_method_59_code (8 : Nat) (Option.some Jvm.ClassFile.FieldType.int)).before args0 about1 = true := code_word (m := ⟨4, 3⟩) (meth := k4m3) (c := k4c3) (by decide +kernel) rfl rfl rfl (by decide +kernel)
set_option maxRecDepth 65536 in
theorem w_c21 : (Jvm.Cond.code ({ cls := "java/util/Arrays", name := "copyOf", desc := "([II)[I" } : Jvm.MethodName) jdk_65_method_123_code (3 : Nat) (Option.some (Jvm.ClassFile.FieldType.array Jvm.ClassFile.FieldType.int))).before args0 about1 = true := code_word (m := ⟨4, 5⟩) (meth := k4m5) (c := k4c5) (by decide +kernel) rfl rfl rfl (by decide +kernel)
set_option maxRecDepth 65536 in
theorem w_c22 : (Jvm.Cond.code ({ cls := "java/lang/Math", name := "min", desc := "(II)I" } : Jvm.MethodName) jdk_29_method_69_code (2 : Nat) (Option.some Jvm.ClassFile.FieldType.int)).before args0 about1 = true := code_word (m := ⟨7, 2⟩) (meth := k7m2) (c := k7c2) (by decide +kernel) rfl rfl rfl (by decide +kernel)
set_option maxRecDepth 65536 in
theorem w_c23 : (Jvm.Cond.code ({ cls := "java/util/Arrays", name := "copyOf", desc := "([JI)[J" } : Jvm.MethodName) jdk_65_method_124_code (3 : Nat) (Option.some (Jvm.ClassFile.FieldType.array Jvm.ClassFile.FieldType.long))).before args0 about1 = true := code_word (m := ⟨4, 6⟩) (meth := k4m6) (c := k4c6) (by decide +kernel) rfl rfl rfl (by decide +kernel)
set_option maxRecDepth 65536 in
theorem w_c24 : (Jvm.Cond.code ({ cls := "java/lang/Math", name := "abs", desc := "(J)J" } : Jvm.MethodName) jdk_29_method_61_code (2 : Nat) (Option.some Jvm.ClassFile.FieldType.long)).before args0 about1 = true := code_word (m := ⟨7, 1⟩) (meth := k7m1) (c := k7c1) (by decide +kernel) rfl rfl rfl (by decide +kernel)
set_option maxRecDepth 65536 in
theorem w_c25 : (Jvm.Cond.code ({ cls := "com/example/revisit/revisit/policy/ChangeRatesAlikePinLaw", name := "pow2", desc := "(J)Z" } : Jvm.MethodName) method_6_code (2 : Nat) (Option.some Jvm.ClassFile.FieldType.boolean)).before args0 about1 = true := code_word (m := ⟨1, 5⟩) (meth := k1m5) (c := k1c5) (by decide +kernel) rfl rfl rfl (by decide +kernel)
def codes1 : List Jvm.Cond := [Jvm.Cond.code x code maxLocals ret, Jvm.Cond.code ({ cls := "com/example/revisit/revisit/policy/ChangeRatesAlikePinLaw", name := "firstSlot", desc := "(III)I" } : Jvm.MethodName) method_3_code (3 : Nat) (Option.some Jvm.ClassFile.FieldType.int), Jvm.Cond.code ({ cls := "com/example/revisit/revisit/policy/ChangeRatesAlikePinLaw", name := "lastSlot", desc := "(III)I" } : Jvm.MethodName) method_4_code (3 : Nat) (Option.some Jvm.ClassFile.FieldType.int), Jvm.Cond.code ({ cls := "com/example/revisit/revisit/policy/ChangeRates", name := "<init>", desc := "(I)V" } : Jvm.MethodName) prog_35_method_1_code (3 : Nat) (Option.none : Option Jvm.ClassFile.FieldType), Jvm.Cond.code ({ cls := "com/example/revisit/revisit/policy/ChangeRates", name := "checkedCount", desc := "(I)I" } : Jvm.MethodName) prog_35_method_3_code (1 : Nat) (Option.some Jvm.ClassFile.FieldType.int), Jvm.Cond.code ({ cls := "com/example/revisit/revisit/policy/RateLikelihood", name := "<init>", desc := "()V" } : Jvm.MethodName) prog_54_method_1_code (1 : Nat) (Option.none : Option Jvm.ClassFile.FieldType), Jvm.Cond.code ({ cls := "java/lang/Object", name := "<init>", desc := "()V" } : Jvm.MethodName) object_method_1_code (1 : Nat) (Option.none : Option Jvm.ClassFile.FieldType), Jvm.Cond.code ({ cls := "com/example/revisit/revisit/policy/ChangeRates", name := "<init>", desc := "(ILcom/example/revisit/revisit/policy/RateLikelihood;)V" } : Jvm.MethodName) prog_35_method_2_code (3 : Nat) (Option.none : Option Jvm.ClassFile.FieldType), Jvm.Cond.code ({ cls := "java/util/Arrays", name := "fill", desc := "([II)V" } : Jvm.MethodName) jdk_65_method_103_code (4 : Nat) (Option.none : Option Jvm.ClassFile.FieldType), Jvm.Cond.code ({ cls := "com/example/revisit/revisit/policy/ChangeRates", name := "alike", desc := "()Z" } : Jvm.MethodName) prog_35_method_15_code (1 : Nat) (Option.some Jvm.ClassFile.FieldType.boolean), Jvm.Cond.code ({ cls := "com/example/revisit/revisit/policy/ChangeRates", name := "solveAlike", desc := "()Z" } : Jvm.MethodName) prog_35_method_16_code (8 : Nat) (Option.some Jvm.ClassFile.FieldType.boolean), Jvm.Cond.code ({ cls := "com/example/revisit/revisit/policy/ChangeRatesAlikePinLaw", name := "expect", desc := "(JJJJ)I" } : Jvm.MethodName) method_7_code (24 : Nat) (Option.some Jvm.ClassFile.FieldType.int), Jvm.Cond.code ({ cls := "com/example/revisit/revisit/policy/ChangeRatesAlikePinLaw", name := "agrees", desc := "(IZ)Z" } : Jvm.MethodName) method_5_code (2 : Nat) (Option.some Jvm.ClassFile.FieldType.boolean), Jvm.Cond.code ({ cls := "com/example/revisit/revisit/policy/ChangeRates", name := "observe", desc := "(IIZ)V" } : Jvm.MethodName) prog_35_method_10_code (7 : Nat) (Option.none : Option Jvm.ClassFile.FieldType), Jvm.Cond.code ({ cls := "java/util/Objects", name := "checkIndex", desc := "(II)I" } : Jvm.MethodName) jdk_31_method_17_code (2 : Nat) (Option.some Jvm.ClassFile.FieldType.int), Jvm.Cond.code ({ cls := "jdk/internal/util/Preconditions", name := "checkIndex", desc := "(IILjava/util/function/BiFunction;)I" } : Jvm.MethodName) jdk_41_method_11_code (3 : Nat) (Option.some Jvm.ClassFile.FieldType.int), Jvm.Cond.code ({ cls := "com/example/revisit/revisit/policy/RateLikelihood", name := "add", desc := "(IZ)V" } : Jvm.MethodName) prog_54_method_6_code (3 : Nat) (Option.none : Option Jvm.ClassFile.FieldType), Jvm.Cond.code ({ cls := "com/example/revisit/revisit/policy/RateLikelihood", name := "addChangedLength", desc := "(I)V" } : Jvm.MethodName) prog_54_method_11_code (3 : Nat) (Option.none : Option Jvm.ClassFile.FieldType), Jvm.Cond.code ({ cls := "java/util/Arrays", name := "binarySearch", desc := "([IIII)I" } : Jvm.MethodName) jdk_65_method_58_code (4 : Nat) (Option.some Jvm.ClassFile.FieldType.int), Jvm.Cond.code ({ cls := "java/util/Arrays", name := "rangeCheck", desc := "(III)V" } : Jvm.MethodName) jdk_65_method_30_code (3 : Nat) (Option.none : Option Jvm.ClassFile.FieldType), Jvm.Cond.code ({ cls := "java/util/Arrays", name := "binarySearch0", desc := "([IIII)I" } : Jvm.MethodName) jdk_65_method_59_code (8 : Nat) (Option.some Jvm.ClassFile.FieldType.int), Jvm.Cond.code ({ cls := "java/util/Arrays", name := "copyOf", desc := "([II)[I" } : Jvm.MethodName) jdk_65_method_123_code (3 : Nat) (Option.some (Jvm.ClassFile.FieldType.array Jvm.ClassFile.FieldType.int)), Jvm.Cond.code ({ cls := "java/lang/Math", name := "min", desc := "(II)I" } : Jvm.MethodName) jdk_29_method_69_code (2 : Nat) (Option.some Jvm.ClassFile.FieldType.int), Jvm.Cond.code ({ cls := "java/util/Arrays", name := "copyOf", desc := "([JI)[J" } : Jvm.MethodName) jdk_65_method_124_code (3 : Nat) (Option.some (Jvm.ClassFile.FieldType.array Jvm.ClassFile.FieldType.long)), Jvm.Cond.code ({ cls := "java/lang/Math", name := "abs", desc := "(J)J" } : Jvm.MethodName) jdk_29_method_61_code (2 : Nat) (Option.some Jvm.ClassFile.FieldType.long), Jvm.Cond.code ({ cls := "com/example/revisit/revisit/policy/ChangeRatesAlikePinLaw", name := "pow2", desc := "(J)Z" } : Jvm.MethodName) method_6_code (2 : Nat) (Option.some Jvm.ClassFile.FieldType.boolean)]
set_option maxRecDepth 65536 in
theorem codes_eq : words1.filter isCode = codes1 := rfl
theorem w_codes : ∀ c ∈ words1.filter isCode, c.before args0 about1 = true := by
  rw [codes_eq]
  intro c hc
  simp only [codes1, List.mem_cons, List.not_mem_nil, or_false] at hc
  rcases hc with rfl | rfl | rfl | rfl | rfl | rfl | rfl | rfl | rfl | rfl | rfl | rfl | rfl | rfl | rfl | rfl | rfl | rfl | rfl | rfl | rfl | rfl | rfl | rfl | rfl | rfl
  · exact w_c0
  · exact w_c1
  · exact w_c2
  · exact w_c3
  · exact w_c4
  · exact w_c5
  · exact w_c6
  · exact w_c7
  · exact w_c8
  · exact w_c9
  · exact w_c10
  · exact w_c11
  · exact w_c12
  · exact w_c13
  · exact w_c14
  · exact w_c15
  · exact w_c16
  · exact w_c17
  · exact w_c18
  · exact w_c19
  · exact w_c20
  · exact w_c21
  · exact w_c22
  · exact w_c23
  · exact w_c24
  · exact w_c25
set_option maxRecDepth 65536 in
theorem w_t1 : (words1.take 24).all (fun c => isCode c || c.before args0 about1) = true := by decide +kernel
set_option maxRecDepth 65536 in
theorem w_t2 : ((words1.drop 24).take 24).all (fun c => isCode c || c.before args0 about1) = true := by decide +kernel
set_option maxRecDepth 65536 in
theorem w_t3 : (((words1.drop 24).drop 24).take 24).all (fun c => isCode c || c.before args0 about1) = true := by decide +kernel
set_option maxRecDepth 65536 in
theorem w_t4 : ((((words1.drop 24).drop 24).drop 24).take 24).all (fun c => isCode c || c.before args0 about1) = true := by decide +kernel
set_option maxRecDepth 65536 in
theorem w_t5 : (((((words1.drop 24).drop 24).drop 24).drop 24).take 24).all (fun c => isCode c || c.before args0 about1) = true := by decide +kernel
set_option maxRecDepth 65536 in
theorem w_t6 : ((((((words1.drop 24).drop 24).drop 24).drop 24).drop 24).take 24).all (fun c => isCode c || c.before args0 about1) = true := by decide +kernel
set_option maxRecDepth 65536 in
theorem w_t7 : ((((((words1.drop 24).drop 24).drop 24).drop 24).drop 24).drop 24).all (fun c => isCode c || c.before args0 about1) = true := by decide +kernel
theorem w_tables : (allAtoms (Jvm.Cond.code x code maxLocals ret :: tables_1)).before args0 about1 = true := by
  rw [allAtoms_all]
  show words1.all (fun c => c.before args0 about1) = true
  refine all_split ?_ w_codes
  rw [← List.take_append_drop 24 words1, List.all_append, w_t1, ← List.take_append_drop 24 (words1.drop 24), List.all_append, w_t2, ← List.take_append_drop 24 ((words1.drop 24).drop 24), List.all_append, w_t3, ← List.take_append_drop 24 (((words1.drop 24).drop 24).drop 24), List.all_append, w_t4, ← List.take_append_drop 24 ((((words1.drop 24).drop 24).drop 24).drop 24), List.all_append, w_t5, ← List.take_append_drop 24 (((((words1.drop 24).drop 24).drop 24).drop 24).drop 24), List.all_append, w_t6, w_t7]
  rfl
set_option maxRecDepth 65536 in
theorem w_case : (Jvm.Cond.and given_1 narrow_1).before args0 about1 = true := by decide +kernel
theorem w_applies : (headSpec (Jvm.Cond.code x code maxLocals ret :: tables_1) room_1).applies x e0.platform about1 = true :=
  (Spec.applies_iff w_frames).mpr ⟨w_running, w_runnable, w_alone, w_named, w_hears, w_ripe, w_room, w_tables⟩
theorem atStart : AtStart classFile x code maxLocals ret World_1 tables_1 room_1 Calls_1 rest_1 Pre_1 launch0 p0 e0 about1 theMethod args0 below0 :=
  ⟨lists_1, trivial, launch0.admits_env _ _ _, launch0.least_env, fairChoices_fair.cas, fairChoices_fair.clock, w_frames, w_args, w_heap, w_applies, trivial, trivial, w_case⟩
end start1
theorem witness_1 : WitnessClaimed_1 := ⟨start1.p0, start1.e0, start1.about1, start1.theMethod, start1.args0, start1.below0, start1.atStart⟩
end Jvm.Pilot.@@N@@
