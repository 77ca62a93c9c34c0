import JvmDerived
import JvmDerived.Pilot.@@N@@Statement
import JvmDerived.Pilot.@@N@@Code
set_option linter.unusedVariables false
set_option linter.unusedSimpArgs false
set_option maxRecDepth 65536
set_option maxHeartbeats 4000000
namespace Jvm.Pilot.@@N@@
open Jvm Jvm.ClassFile Sem Op Lib Jvm.Free Jvm.Stand Jvm.LawKit Jvm.RoadKit Bundle Jvm.Pilot.@@N@@.Jvm.D
section Own
variable {p : Program} {l : Launch} {e : Env} {R : Room} {s : State} {m : MethodId} {args : Array Value} {below : List Frame} {meth : Method} {c : Code} {T : State} {locs : List Loc} {cells slots : Nat} {K J : Nat} {EE : Outcome → State → List Loc → Prop} {Q : Option Value → Heap → List Loc → Prop} {Z : State} {a0 : Array Value} {h : Heap}
/-- from U the run comes to its end, and what it leaves is Q's -/
def Ends (p : Program) (e : Env) (below : List Frame) (EE : Outcome → State → List Loc → Prop) (Q : Option Value → Heap → List Loc → Prop) (U : State) : Prop :=
  ∃ s₂ o, Steps p.tables e below U s₂ ∧ s₂.status = .running ∧ Ended s₂ below o ∧ ∃ v L, o = .returned v ∧ Q v s₂.heap L ∧ EE o s₂ L
/-- the end's frame: tables warmed alone; or strings interned too -/
abbrev EF (s : State) (K J : Nat) : Outcome → State → List Loc → Prop := fun o t L => FrameEnd s o t L K J
abbrev EW (s : State) (K J : Nat) : Outcome → State → List Loc → Prop := fun o t L => ReturnedEndW s o t L K J
theorem Ends.via {A B : State} (h : ∀ t, Steps p.tables e below A t → Steps p.tables e below B t) (k : Ends p e below EE Q A) : Ends p e below EE Q B := by
  obtain ⟨s2, o, h1, h2⟩ := k
  exact ⟨s2, o, h _ h1, h2⟩
theorem Ends.tr {A B : State} (h : Steps p.tables e below B A) (k : Ends p e below EE Q A) : Ends p e below EE Q B := by
  obtain ⟨s2, o, h1, h2⟩ := k
  exact ⟨s2, o, h.trans h1, h2⟩
theorem Ends.cast {g g' : JFrame} (q : g = g') (k : Ends p e below EE Q (T.setTop g')) : Ends p e below EE Q (T.setTop g) := q ▸ k
theorem own_isub (X : Stand p l e R s m args below meth c T locs cells slots) (hx : p.tables.exec = Jvm.exec) {pc n : Nat} {Ls : Array Slot} {st : List Value} {x y : Int32} (hd : decode c.code pc = .ok (.isub, 1))  (hn : pc + 1 = n) (k : Ends p e below EE Q (T.setTop (mkF m n Ls (.int (x - y) :: st)))) : Ends p e below EE Q (T.setTop (mkF m pc Ls (.int y :: .int x :: st))) := by
  subst hn
  exact Ends.via (fun t h => XS.isub X.here hx rfl hd rfl h) k
theorem own_iand (X : Stand p l e R s m args below meth c T locs cells slots) (hx : p.tables.exec = Jvm.exec) {pc n : Nat} {Ls : Array Slot} {st : List Value} {x y : Int32} (hd : decode c.code pc = .ok (.iand, 1))  (hn : pc + 1 = n) (k : Ends p e below EE Q (T.setTop (mkF m n Ls (.int (x &&& y) :: st)))) : Ends p e below EE Q (T.setTop (mkF m pc Ls (.int y :: .int x :: st))) := by
  subst hn
  exact Ends.via (fun t h => XS.iand X.here hx rfl hd rfl h) k
theorem own_ior (X : Stand p l e R s m args below meth c T locs cells slots) (hx : p.tables.exec = Jvm.exec) {pc n : Nat} {Ls : Array Slot} {st : List Value} {x y : Int32} (hd : decode c.code pc = .ok (.ior, 1))  (hn : pc + 1 = n) (k : Ends p e below EE Q (T.setTop (mkF m n Ls (.int (x ||| y) :: st)))) : Ends p e below EE Q (T.setTop (mkF m pc Ls (.int y :: .int x :: st))) := by
  subst hn
  exact Ends.via (fun t h => XS.ior X.here hx rfl hd rfl h) k
theorem own_ishl (X : Stand p l e R s m args below meth c T locs cells slots) (hx : p.tables.exec = Jvm.exec) {pc n : Nat} {Ls : Array Slot} {st : List Value} {x y : Int32} (hd : decode c.code pc = .ok (.ishl, 1))  (hn : pc + 1 = n) (k : Ends p e below EE Q (T.setTop (mkF m n Ls (.int (x <<< (y &&& 31)) :: st)))) : Ends p e below EE Q (T.setTop (mkF m pc Ls (.int y :: .int x :: st))) := by
  subst hn
  exact Ends.via (fun t h => XS.ishl X.here hx rfl hd rfl h) k
theorem own_ishr (X : Stand p l e R s m args below meth c T locs cells slots) (hx : p.tables.exec = Jvm.exec) {pc n : Nat} {Ls : Array Slot} {st : List Value} {x y : Int32} (hd : decode c.code pc = .ok (.ishr, 1))  (hn : pc + 1 = n) (k : Ends p e below EE Q (T.setTop (mkF m n Ls (.int (x >>> (y &&& 31)) :: st)))) : Ends p e below EE Q (T.setTop (mkF m pc Ls (.int y :: .int x :: st))) := by
  subst hn
  exact Ends.via (fun t h => XS.ishr X.here hx rfl hd rfl h) k
theorem own_iushr (X : Stand p l e R s m args below meth c T locs cells slots) (hx : p.tables.exec = Jvm.exec) {pc n : Nat} {Ls : Array Slot} {st : List Value} {x y : Int32} (hd : decode c.code pc = .ok (.iushr, 1))  (hn : pc + 1 = n) (k : Ends p e below EE Q (T.setTop (mkF m n Ls (.int ((x.toUInt32 >>> (y &&& 31).toUInt32).toInt32) :: st)))) : Ends p e below EE Q (T.setTop (mkF m pc Ls (.int y :: .int x :: st))) := by
  subst hn
  exact Ends.via (fun t h => XS.iushr X.here hx rfl hd rfl h) k
theorem own_irem (X : Stand p l e R s m args below meth c T locs cells slots) (hx : p.tables.exec = Jvm.exec) {pc n : Nat} {Ls : Array Slot} {st : List Value} {x y : Int32} (hd : decode c.code pc = .ok (.irem, 1)) (hy : y ≠ 0) (hn : pc + 1 = n) (k : Ends p e below EE Q (T.setTop (mkF m n Ls (.int (x % y) :: st)))) : Ends p e below EE Q (T.setTop (mkF m pc Ls (.int y :: .int x :: st))) := by
  subst hn
  exact Ends.via (fun t h => iremM X hx rfl hd rfl hy h) k
theorem own_i2b (X : Stand p l e R s m args below meth c T locs cells slots) (hx : p.tables.exec = Jvm.exec) {pc n : Nat} {Ls : Array Slot} {st : List Value} {x : Int32} (hd : decode c.code pc = .ok (.i2b, 1))  (hn : pc + 1 = n) (k : Ends p e below EE Q (T.setTop (mkF m n Ls (.int x.toInt8.toInt32 :: st)))) : Ends p e below EE Q (T.setTop (mkF m pc Ls (.int x :: st))) := by
  subst hn
  exact Ends.via (fun t h => XS.i2b X.here hx rfl hd rfl h) k
theorem own_i2c (X : Stand p l e R s m args below meth c T locs cells slots) (hx : p.tables.exec = Jvm.exec) {pc n : Nat} {Ls : Array Slot} {st : List Value} {x : Int32} (hd : decode c.code pc = .ok (.i2c, 1))  (hn : pc + 1 = n) (k : Ends p e below EE Q (T.setTop (mkF m n Ls (.int x.toUInt32.toUInt16.toUInt32.toInt32 :: st)))) : Ends p e below EE Q (T.setTop (mkF m pc Ls (.int x :: st))) := by
  subst hn
  exact Ends.via (fun t h => XS.i2c X.here hx rfl hd rfl h) k
theorem own_pop (X : Stand p l e R s m args below meth c T locs cells slots) (hx : p.tables.exec = Jvm.exec) {pc n : Nat} {Ls : Array Slot} {st : List Value} {x : Value} (hd : decode c.code pc = .ok (.pop, 1)) (hc : x.category = 1) (hn : pc + 1 = n) (k : Ends p e below EE Q (T.setTop (mkF m n Ls (st)))) : Ends p e below EE Q (T.setTop (mkF m pc Ls (x :: st))) := by
  subst hn
  exact Ends.via (fun t h => XS.pop X.here hx rfl hd rfl hc h) k
theorem own_dup (X : Stand p l e R s m args below meth c T locs cells slots) (hx : p.tables.exec = Jvm.exec) {pc n : Nat} {Ls : Array Slot} {st : List Value} {x : Value} (hd : decode c.code pc = .ok (.dup, 1)) (hc : x.category = 1) (hn : pc + 1 = n) (k : Ends p e below EE Q (T.setTop (mkF m n Ls (x :: x :: st)))) : Ends p e below EE Q (T.setTop (mkF m pc Ls (x :: st))) := by
  subst hn
  exact Ends.via (fun t h => XS.dup X.here hx rfl hd rfl hc h) k
theorem own_aconst_null (X : Stand p l e R s m args below meth c T locs cells slots) (hx : p.tables.exec = Jvm.exec) {pc n : Nat} {Ls : Array Slot} {st : List Value}  (hd : decode c.code pc = .ok (.aconst_null, 1))  (hn : pc + 1 = n) (k : Ends p e below EE Q (T.setTop (mkF m n Ls (.null :: st)))) : Ends p e below EE Q (T.setTop (mkF m pc Ls (st))) := by
  subst hn
  exact Ends.via (fun t h => XS.aconstNull X.here hx rfl hd  h) k
theorem own_iconst (X : Stand p l e R s m args below meth c T locs cells slots) (hx : p.tables.exec = Jvm.exec) {pc n : Nat} {Ls : Array Slot} {st : List Value} {i : Int} (v : Int32) (hd : decode c.code pc = .ok (.iconst i, 1)) (hv : Int32.ofInt i = v) (hn : pc + 1 = n) (k : Ends p e below EE Q (T.setTop (mkF m n Ls (.int v :: st)))) : Ends p e below EE Q (T.setTop (mkF m pc Ls st)) := by
  subst hn hv
  exact Ends.via (fun t h => XS.iconst X.here hx rfl hd h) k
theorem own_bipush (X : Stand p l e R s m args below meth c T locs cells slots) (hx : p.tables.exec = Jvm.exec) {pc n : Nat} {Ls : Array Slot} {st : List Value} {i : Int} (v : Int32) (hd : decode c.code pc = .ok (.bipush i, 2)) (hv : (Int8.ofInt i).toInt32 = v) (hn : pc + 2 = n) (k : Ends p e below EE Q (T.setTop (mkF m n Ls (.int v :: st)))) : Ends p e below EE Q (T.setTop (mkF m pc Ls st)) := by
  subst hn hv
  exact Ends.via (fun t h => XS.bipush X.here hx rfl hd h) k
theorem own_sipush (X : Stand p l e R s m args below meth c T locs cells slots) (hx : p.tables.exec = Jvm.exec) {pc n : Nat} {Ls : Array Slot} {st : List Value} {i : Int} (v : Int32) (hd : decode c.code pc = .ok (.sipush i, 3)) (hv : (Int16.ofInt i).toInt32 = v) (hn : pc + 3 = n) (k : Ends p e below EE Q (T.setTop (mkF m n Ls (.int v :: st)))) : Ends p e below EE Q (T.setTop (mkF m pc Ls st)) := by
  subst hn hv
  exact Ends.via (fun t h => XS.sipush X.here hx rfl hd h) k
theorem own_iload (X : Stand p l e R s m args below meth c T locs cells slots) (hx : p.tables.exec = Jvm.exec) {pc n : Nat} {Ls : Array Slot} {st : List Value} {i : Nat} {v : Int32} (hd : decode c.code pc = .ok (.iload i, 2)) (hl : Ls[i]? = some (.val (.int v))) (hn : pc + 2 = n) (k : Ends p e below EE Q (T.setTop (mkF m n Ls (.int v :: st)))) : Ends p e below EE Q (T.setTop (mkF m pc Ls (st))) := by
  subst hn
  exact Ends.via (fun t h => XS.iload X.here hx rfl hd hl h) k
theorem own_iloadN (X : Stand p l e R s m args below meth c T locs cells slots) (hx : p.tables.exec = Jvm.exec) {pc n : Nat} {Ls : Array Slot} {st : List Value} {i : Fin 4} {v : Int32} (hd : decode c.code pc = .ok (.iload_n i, 1)) (hl : Ls[i.val]? = some (.val (.int v))) (hn : pc + 1 = n) (k : Ends p e below EE Q (T.setTop (mkF m n Ls (.int v :: st)))) : Ends p e below EE Q (T.setTop (mkF m pc Ls (st))) := by
  subst hn
  exact Ends.via (fun t h => XS.iloadN X.here hx rfl hd hl h) k
theorem own_istore (X : Stand p l e R s m args below meth c T locs cells slots) (hx : p.tables.exec = Jvm.exec) {pc n : Nat} {Ls : Array Slot} {st : List Value} {i : Nat} {v : Int32} {l' : Array Slot} (hd : decode c.code pc = .ok (.istore i, 2)) (hl : storeLocals Ls i (.int v) = some l') (hn : pc + 2 = n) (k : Ends p e below EE Q (T.setTop (mkF m n l' (st)))) : Ends p e below EE Q (T.setTop (mkF m pc Ls (.int v :: st))) := by
  subst hn
  exact Ends.via (fun t h => XS.istore X.here hx rfl hd rfl hl h) k
theorem own_istoreN (X : Stand p l e R s m args below meth c T locs cells slots) (hx : p.tables.exec = Jvm.exec) {pc n : Nat} {Ls : Array Slot} {st : List Value} {i : Fin 4} {v : Int32} {l' : Array Slot} (hd : decode c.code pc = .ok (.istore_n i, 1)) (hl : storeLocals Ls i.val (.int v) = some l') (hn : pc + 1 = n) (k : Ends p e below EE Q (T.setTop (mkF m n l' (st)))) : Ends p e below EE Q (T.setTop (mkF m pc Ls (.int v :: st))) := by
  subst hn
  exact Ends.via (fun t h => XS.istoreN X.here hx rfl hd rfl hl h) k
theorem own_aload (X : Stand p l e R s m args below meth c T locs cells slots) (hx : p.tables.exec = Jvm.exec) {pc n : Nat} {Ls : Array Slot} {st : List Value} {i : Nat} {v : Value} (hd : decode c.code pc = .ok (.aload i, 2)) (hl : Ls[i]? = some (.val v)) (hv : v.isRef = true) (hn : pc + 2 = n) (k : Ends p e below EE Q (T.setTop (mkF m n Ls (v :: st)))) : Ends p e below EE Q (T.setTop (mkF m pc Ls (st))) := by
  subst hn
  exact Ends.via (fun t h => XS.aload X.here hx rfl hd hl hv h) k
theorem own_aloadN (X : Stand p l e R s m args below meth c T locs cells slots) (hx : p.tables.exec = Jvm.exec) {pc n : Nat} {Ls : Array Slot} {st : List Value} {i : Fin 4} {v : Value} (hd : decode c.code pc = .ok (.aload_n i, 1)) (hl : Ls[i.val]? = some (.val v)) (hv : v.isRef = true) (hn : pc + 1 = n) (k : Ends p e below EE Q (T.setTop (mkF m n Ls (v :: st)))) : Ends p e below EE Q (T.setTop (mkF m pc Ls (st))) := by
  subst hn
  exact Ends.via (fun t h => XS.aloadN X.here hx rfl hd hl hv h) k
theorem own_astore (X : Stand p l e R s m args below meth c T locs cells slots) (hx : p.tables.exec = Jvm.exec) {pc n : Nat} {Ls : Array Slot} {st : List Value} {i : Nat} {v : Value} {l' : Array Slot} (hd : decode c.code pc = .ok (.astore i, 2)) (hv : v.isRef = true) (hl : storeLocals Ls i v = some l') (hn : pc + 2 = n) (k : Ends p e below EE Q (T.setTop (mkF m n l' (st)))) : Ends p e below EE Q (T.setTop (mkF m pc Ls (v :: st))) := by
  subst hn
  exact Ends.via (fun t h => XS.astore X.here hx rfl hd rfl hv hl h) k
theorem own_astoreN (X : Stand p l e R s m args below meth c T locs cells slots) (hx : p.tables.exec = Jvm.exec) {pc n : Nat} {Ls : Array Slot} {st : List Value} {i : Fin 4} {v : Value} {l' : Array Slot} (hd : decode c.code pc = .ok (.astore_n i, 1)) (hv : v.isRef = true) (hl : storeLocals Ls i.val v = some l') (hn : pc + 1 = n) (k : Ends p e below EE Q (T.setTop (mkF m n l' (st)))) : Ends p e below EE Q (T.setTop (mkF m pc Ls (v :: st))) := by
  subst hn
  exact Ends.via (fun t h => XS.astoreN X.here hx rfl hd rfl hv hl h) k
theorem own_iinc (X : Stand p l e R s m args below meth c T locs cells slots) (hx : p.tables.exec = Jvm.exec) {pc n : Nat} {Ls : Array Slot} {st : List Value} {i : Nat} {cst : Int} {x v : Int32} {l' : Array Slot} (hd : decode c.code pc = .ok (.iinc i cst, 3)) (hl : Ls[i]? = some (.val (.int x))) (hv : Int32.ofInt cst = v) (hl' : storeLocals Ls i (.int (x + v)) = some l') (hn : pc + 3 = n) (k : Ends p e below EE Q (T.setTop (mkF m n l' st))) : Ends p e below EE Q (T.setTop (mkF m pc Ls st)) := by
  subst hn hv
  exact Ends.via (fun t h => XS.iinc X.here hx rfl hd hl hl' h) k
theorem own_goto (X : Stand p l e R s m args below meth c T locs cells slots) (hx : p.tables.exec = Jvm.exec) {pc n : Nat} {Ls : Array Slot} {st : List Value} {o : Int} (hd : decode c.code pc = .ok (.goto o, 3)) (ho : 0 ≤ (pc : Int) + o) (hp : ((pc : Int) + o).toNat = n) (k : Ends p e below EE Q (T.setTop (mkF m n Ls st))) : Ends p e below EE Q (T.setTop (mkF m pc Ls st)) :=
  Ends.via (fun t h => XS.goto X.here hx rfl (pc0 := pc) rfl hd ho hp h) k
theorem own_ifYes (X : Stand p l e R s m args below meth c T locs cells slots) (hx : p.tables.exec = Jvm.exec) {pc n : Nat} {Ls : Array Slot} {st : List Value} {o : Int} {cd : ClassFile.Cond} {x : Int32} (hd : decode c.code pc = .ok (.ifCond cd o, 3)) (hc : ifCond.holds cd x = true) (ho : 0 ≤ (pc : Int) + o) (hp : ((pc : Int) + o).toNat = n) (k : Ends p e below EE Q (T.setTop (mkF m n Ls st))) : Ends p e below EE Q (T.setTop (mkF m pc Ls (.int x :: st))) :=
  Ends.via (fun t h => XS.ifYes X.here hx rfl (pc0 := pc) rfl hd rfl hc ho hp h) k
theorem own_ifNo (X : Stand p l e R s m args below meth c T locs cells slots) (hx : p.tables.exec = Jvm.exec) {pc n : Nat} {Ls : Array Slot} {st : List Value} {o : Int} {cd : ClassFile.Cond} {x : Int32} (hd : decode c.code pc = .ok (.ifCond cd o, 3)) (hc : ifCond.holds cd x = false) (hn : pc + 3 = n) (k : Ends p e below EE Q (T.setTop (mkF m n Ls st))) : Ends p e below EE Q (T.setTop (mkF m pc Ls (.int x :: st))) := by
  subst hn
  exact Ends.via (fun t h => XS.ifNo X.here hx rfl hd rfl hc h) k
theorem own_icmpYes (X : Stand p l e R s m args below meth c T locs cells slots) (hx : p.tables.exec = Jvm.exec) {pc n : Nat} {Ls : Array Slot} {st : List Value} {o : Int} {cd : ClassFile.Cond} {x y : Int32} (hd : decode c.code pc = .ok (.if_icmp cd o, 3)) (hc : if_icmp.holds cd x y = true) (ho : 0 ≤ (pc : Int) + o) (hp : ((pc : Int) + o).toNat = n) (k : Ends p e below EE Q (T.setTop (mkF m n Ls st))) : Ends p e below EE Q (T.setTop (mkF m pc Ls (.int y :: .int x :: st))) :=
  Ends.via (fun t h => XS.icmpYes X.here hx rfl (pc0 := pc) rfl hd rfl hc ho hp h) k
theorem own_icmpNo (X : Stand p l e R s m args below meth c T locs cells slots) (hx : p.tables.exec = Jvm.exec) {pc n : Nat} {Ls : Array Slot} {st : List Value} {o : Int} {cd : ClassFile.Cond} {x y : Int32} (hd : decode c.code pc = .ok (.if_icmp cd o, 3)) (hc : if_icmp.holds cd x y = false) (hn : pc + 3 = n) (k : Ends p e below EE Q (T.setTop (mkF m n Ls st))) : Ends p e below EE Q (T.setTop (mkF m pc Ls (.int y :: .int x :: st))) := by
  subst hn
  exact Ends.via (fun t h => XS.icmpNo X.here hx rfl hd rfl hc h) k
theorem own_ldc (X : Stand p l e R s m args below meth c T locs cells slots) (hx : p.tables.exec = Jvm.exec) (hZ : Z.Warmed39 s.vm) {own : String} (hown : s.vm.findClass own = some m.cls) {pc n : Nat} {Ls : Array Slot} {st : List Value} {i : Nat} {v : Int32} (w : (Cond.constant own i v).before a0 Z = true) (hd : decode c.code pc = .ok (.ldc i, 2)) (hn : pc + 2 = n) (k : Ends p e below EE Q (T.setTop (mkF m n Ls (.int v :: st)))) : Ends p e below EE Q (T.setTop (mkF m pc Ls st)) := by
  subst hn
  exact Ends.via (fun t h => X.ldcI hx hown (mvT hZ w) rfl hd h) k
theorem own_retI (X : Stand p l e R s m args below meth c T locs cells slots) (hx : p.tables.exec = Jvm.exec) (lk : meth.locks = false) {pc : Nat} {Ls : Array Slot} {rest : List Value} {z : Int32} (hret : meth.sig.returnType = some .int)  (hd : decode c.code pc = .ok (.ireturn, 1)) (hK : cells ≤ K) (hJ : slots ≤ J) (hq : Q (some (.int z)) T.heap locs) : Ends p e below (EF s K J) Q (T.setTop (mkF m pc Ls (.int z :: rest))) := by
  obtain ⟨fs, hr, hrun, hended, hW, hsame⟩ := X.leave (v := (some (.int z))) (fun h => by rw [hret] at h; cases h) lk
  exact ⟨_, _, retOut X hx (w := .int z) (t := .int) hret rfl (Or.inl ⟨rfl, Or.inl rfl, z, rfl⟩) hd hr, hrun, hended, _, _, rfl, hq, ⟨_, rfl⟩, hW, hsame.mono hK hJ⟩
theorem own_retNW {vm0 : Vm} (X : Stand p l e R (s.setVm vm0) m args below meth c T locs cells slots) (hx : p.tables.exec = Jvm.exec) (lk : meth.locks = false) {k0 : Nat} (hS : s.Since vm0 k0) (hk : k0 ≤ T.heap.size) {pc : Nat} {Ls : Array Slot} {rest : List Value} {z : Int32} {t : FieldType}  (hret : meth.sig.returnType = some t) (ht : t = .boolean ∨ t = .byte ∨ t = .char ∨ t = .short) (hd : decode c.code pc = .ok (.ireturn, 1)) (hK : cells ≤ K) (hJ : slots ≤ J) (hq : Q (some (.int (nar t z))) T.heap locs) : Ends p e below (EW s K J) Q (T.setTop (mkF m pc Ls (.int z :: rest))) := by
  obtain ⟨fs, hr, hrun, hended, h1, h2, h3, h4⟩ := X.leaveW hS hk (v := (some (.int (nar t z)))) (fun h => by rw [hret] at h; cases h) lk
  exact ⟨_, _, Jvm.RoadKit.retN X hx hret ht hd hr, hrun, hended, _, _, rfl, hq, h1, h2, h3, h4.mono hK hJ⟩
theorem own_retN (X : Stand p l e R s m args below meth c T locs cells slots) (hx : p.tables.exec = Jvm.exec) (lk : meth.locks = false) {pc : Nat} {Ls : Array Slot} {rest : List Value} {z : Int32} {t : FieldType}  (hret : meth.sig.returnType = some t) (ht : t = .boolean ∨ t = .byte ∨ t = .char ∨ t = .short) (hd : decode c.code pc = .ok (.ireturn, 1)) (hK : cells ≤ K) (hJ : slots ≤ J) (hq : Q (some (.int (nar t z))) T.heap locs) : Ends p e below (EF s K J) Q (T.setTop (mkF m pc Ls (.int z :: rest))) := by
  obtain ⟨fs, hr, hrun, hended, hW, hsame⟩ := X.leave (v := (some (.int (nar t z)))) (fun h => by rw [hret] at h; cases h) lk
  exact ⟨_, _, Jvm.RoadKit.retN X hx hret ht hd hr, hrun, hended, _, _, rfl, hq, ⟨_, rfl⟩, hW, hsame.mono hK hJ⟩
theorem own_retVW {vm0 : Vm} (X : Stand p l e R (s.setVm vm0) m args below meth c T locs cells slots) (hx : p.tables.exec = Jvm.exec) (lk : meth.locks = false) {k0 : Nat} (hS : s.Since vm0 k0) (hk : k0 ≤ T.heap.size) {pc : Nat} {Ls : Array Slot}  (hret : meth.sig.returnType = none)  (hd : decode c.code pc = .ok (.return_, 1)) (hK : cells ≤ K) (hJ : slots ≤ J) (hq : Q none T.heap locs) : Ends p e below (EW s K J) Q (T.setTop (mkF m pc Ls ([]))) := by
  obtain ⟨fs, hr, hrun, hended, h1, h2, h3, h4⟩ := X.leaveW hS hk (v := none) (fun h => by rfl) lk
  exact ⟨_, _, X.returnOut hx hret hd hr, hrun, hended, _, _, rfl, hq, h1, h2, h3, h4.mono hK hJ⟩
theorem own_retV (X : Stand p l e R s m args below meth c T locs cells slots) (hx : p.tables.exec = Jvm.exec) (lk : meth.locks = false) {pc : Nat} {Ls : Array Slot}  (hret : meth.sig.returnType = none)  (hd : decode c.code pc = .ok (.return_, 1)) (hK : cells ≤ K) (hJ : slots ≤ J) (hq : Q none T.heap locs) : Ends p e below (EF s K J) Q (T.setTop (mkF m pc Ls ([]))) := by
  obtain ⟨fs, hr, hrun, hended, hW, hsame⟩ := X.leave (v := none) (fun h => by rfl) lk
  exact ⟨_, _, X.returnOut hx hret hd hr, hrun, hended, _, _, rfl, hq, ⟨_, rfl⟩, hW, hsame.mono hK hJ⟩
theorem own_retAW {vm0 : Vm} (X : Stand p l e R (s.setVm vm0) m args below meth c T locs cells slots) (hx : p.tables.exec = Jvm.exec) (lk : meth.locks = false) {k0 : Nat} (hS : s.Since vm0 k0) (hk : k0 ≤ T.heap.size) {pc : Nat} {Ls : Array Slot} {rest : List Value} {w : Value} {t : FieldType}  (hret : meth.sig.returnType = some t) (ht : t.isReference = true) (hw : w.isRef = true) (hd : decode c.code pc = .ok (.areturn, 1)) (hK : cells ≤ K) (hJ : slots ≤ J) (hq : Q (some w) T.heap locs) : Ends p e below (EW s K J) Q (T.setTop (mkF m pc Ls (w :: rest))) := by
  obtain ⟨fs, hr, hrun, hended, h1, h2, h3, h4⟩ := X.leaveW hS hk (v := (some w)) (fun h => by rw [hret] at h; cases h) lk
  exact ⟨_, _, retOut X hx (w := w) (t := t) hret (by rcases ref_cases hw with rfl | ⟨_, rfl⟩ <;> cases t <;> rfl) (Or.inr (Or.inr (Or.inr (Or.inr ⟨rfl, ht, hw⟩)))) hd hr, hrun, hended, _, _, rfl, hq, h1, h2, h3, h4.mono hK hJ⟩
theorem own_retA (X : Stand p l e R s m args below meth c T locs cells slots) (hx : p.tables.exec = Jvm.exec) (lk : meth.locks = false) {pc : Nat} {Ls : Array Slot} {rest : List Value} {w : Value} {t : FieldType}  (hret : meth.sig.returnType = some t) (ht : t.isReference = true) (hw : w.isRef = true) (hd : decode c.code pc = .ok (.areturn, 1)) (hK : cells ≤ K) (hJ : slots ≤ J) (hq : Q (some w) T.heap locs) : Ends p e below (EF s K J) Q (T.setTop (mkF m pc Ls (w :: rest))) := by
  obtain ⟨fs, hr, hrun, hended, hW, hsame⟩ := X.leave (v := (some w)) (fun h => by rw [hret] at h; cases h) lk
  exact ⟨_, _, retOut X hx (w := w) (t := t) hret (by rcases ref_cases hw with rfl | ⟨_, rfl⟩ <;> cases t <;> rfl) (Or.inr (Or.inr (Or.inr (Or.inr ⟨rfl, ht, hw⟩)))) hd hr, hrun, hended, _, _, rfl, hq, ⟨_, rfl⟩, hW, hsame.mono hK hJ⟩
theorem own_callS (X : Stand p l e R s m args below meth c T locs cells slots) (hx : p.tables.exec = Jvm.exec) (hZ : Z.Warmed39 s.vm) {own : String} {index : Nat} {y : MethodName} {bytes : ByteArray} {maxL : Nat} {ret : Option FieldType} (hown : s.vm.findClass own = some m.cls) (wl : (Cond.methodLink own index y).before a0 Z = true) (ws : (Cond.static y).before a0 Z = true) (wz : (Cond.initialized y.cls).before a0 Z = true) (wc : (Cond.code y bytes maxL ret).before a0 Z = true) (hy : y.cls ≠ "java/lang/invoke/MethodHandle" ∧ y.cls ≠ "java/lang/invoke/VarHandle") (eT : T.heap = h)
    {rm : Room} {Qc : Option Value → Heap → List Loc → Prop} {as' : Array Value} (hM : MetFree l y (head1 [Cond.code y bytes maxL ret] rm) (fun a U => a = as' ∧ Z.Warmed39 U.vm ∧ U.heap = h) (fun _ _ _ _ _ => True) (fun _ U o U' => ∃ v L, o = .returned v ∧ Qc v U'.heap L ∧ FrameEnd U o U' L rm.cells rm.slots)) {W : Nat} (hf : rm.frames + 1 ≤ R.frames) (hl : W + (maxL + 11) + rm.locals ≤ R.locals) (hc : cells + rm.cells ≤ R.cells) (hsl : slots + rm.slots ≤ R.slots) {pc n : Nat} {Ls : Array Slot} (hsize : Ls.size = c.maxLocals) {argsL rest : List Value} {ps : List FieldType} {r : Option FieldType} (hpd : parseMethodDescriptor y.desc = some ⟨ps, r⟩) (hlen : argsL.length = ps.length) (has : argsL.toArray = as') (hW : 0 + (rest.map fun v => v.category).sum ≤ W) (hd : decode c.code pc = .ok (.invokestatic index, 3)) (hn : pc + 3 = n) {st : List Value} (hst : st = argsL.reverse ++ rest)
    (k : ∀ v T' h' L', Stand p l e R s m args below meth c T' (locs ++ L') (cells + rm.cells) (slots + rm.slots) → T'.heap = h' → Qc v h' L' → Ends p e below EE Q (T'.setTop (mkF m n Ls (v.toList ++ rest)))) : Ends p e below EE Q (T.setTop (mkF m pc Ls st)) := by
  subst hn
  obtain ⟨v, _, ⟨T18, L18, k18, n18⟩, -, X18, ⟨Lc18, hQ18, l18, y18, z18⟩, st18⟩ := Jvm.LawKit.callS X hx hown (mvT hZ wl) (mvT hZ ws) (mvT hZ wz) (mvT hZ wc) hy (backOf (W := W) hM hZ wc wz hf hl) (g := mkF m pc Ls st) rfl hsize (argsL := argsL) (rest := rest) (lenOf hpd hlen) hst hW hd (fun _ _ => ⟨has, eT, hc, hsl⟩)
  dsimp only [Pt.U, Pt.locs, Pt.cells, Pt.slots] at X18 l18 y18 z18 st18 hQ18
  subst l18 y18 z18
  exact Ends.via (fun t h => st18 t h) (k v T18 _ Lc18 X18 rfl hQ18)
theorem own_callV (X : Stand p l e R s m args below meth c T locs cells slots) (hx : p.tables.exec = Jvm.exec) (hZ : Z.Warmed39 s.vm) {own C : String} {index : Nat} {y : MethodName} {bytes : ByteArray} {maxL : Nat} {ret : Option FieldType} (hown : s.vm.findClass own = some m.cls) (wl : (Cond.methodLink own index y).before a0 Z = true) (wd : (Cond.declares y).before a0 Z = true) (wsel : (Cond.selects C y y).before a0 Z = true) (wi : (Cond.instanceMethod y).before a0 Z = true) (wz : (Cond.initialized y.cls).before a0 Z = true) (wc : (Cond.code y bytes maxL ret).before a0 Z = true) (hy : y.cls ≠ "java/lang/invoke/MethodHandle" ∧ y.cls ≠ "java/lang/invoke/VarHandle") (eT : T.heap = h) {a : Addr} (EX : Exa Z h a C)
    {rm : Room} {Qc : Option Value → Heap → List Loc → Prop} {as' : Array Value} (hM : MetFree l y (head1 [Cond.code y bytes maxL ret] rm) (fun a U => a = as' ∧ Z.Warmed39 U.vm ∧ U.heap = h) (fun _ _ _ _ _ => True) (fun _ U o U' => ∃ v L, o = .returned v ∧ Qc v U'.heap L ∧ FrameEnd U o U' L rm.cells rm.slots)) {W : Nat} (hf : rm.frames + 1 ≤ R.frames) (hl : W + (maxL + 11) + rm.locals ≤ R.locals) (hc : cells + rm.cells ≤ R.cells) (hsl : slots + rm.slots ≤ R.slots) {pc n : Nat} {Ls : Array Slot} (hsize : Ls.size = c.maxLocals) {argsL rest : List Value} {ps : List FieldType} {r : Option FieldType} (hpd : parseMethodDescriptor y.desc = some ⟨ps, r⟩) (hlen : argsL.length = ps.length) (has : (.ref a :: argsL).toArray = as') (hW : 0 + (rest.map fun v => v.category).sum ≤ W) (hd : decode c.code pc = .ok (.invokevirtual index, 3)) (hn : pc + 3 = n) {st : List Value} (hst : st = argsL.reverse ++ .ref a :: rest)
    (k : ∀ v T' h' L', Stand p l e R s m args below meth c T' (locs ++ L') (cells + rm.cells) (slots + rm.slots) → T'.heap = h' → Qc v h' L' → Ends p e below EE Q (T'.setTop (mkF m n Ls (v.toList ++ rest)))) : Ends p e below EE Q (T.setTop (mkF m pc Ls st)) := by
  subst hn
  obtain ⟨cq, kq, qa, qb, qc⟩ := isOf hZ eT EX
  obtain ⟨v, _, ⟨T18, L18, k18, n18⟩, -, X18, ⟨Lc18, hQ18, l18, y18, z18⟩, st18⟩ := X.virtualBack hx hown (mvT hZ wl) (mvT hZ wd) (notFace_of_selects (args := #[]) (mvT hZ wsel)) (mvT hZ wsel) (mvT hZ wi) hy (backOf (W := W) hM hZ wc wz hf hl) qa qc (g := mkF m pc Ls st) rfl hsize (Steps.refl _) (argsL := argsL) (rest := rest) (lenOf hpd hlen) hst hW hd (fun _ _ => ⟨has, eT, hc, hsl⟩)
  dsimp only [Pt.U, Pt.locs, Pt.cells, Pt.slots] at X18 l18 y18 z18 st18 hQ18
  subst l18 y18 z18
  exact Ends.tr st18 (k v T18 _ Lc18 X18 rfl hQ18)
theorem own_since (s : State) : s.Since s.vm 0 := State.WarmedH.since (State.WarmedH.refl s) 0
theorem own_ibw {U : State} (h : IB Z s.vm []) (w : s.WarmedH U.vm) : IB Z U.vm [] := by
  obtain ⟨more, q, r⟩ := h
  exact ⟨more, by rw [← q, w.1], r⟩
theorem own_backW {y : MethodName} {bytes : ByteArray} {maxL : Nat} {ret : Option FieldType} {rm : Room} {len W : Nat} {as' : Array Value} {Qc : Option Value → Heap → List Loc → Prop} (hM : MetFree l y (head1 [Cond.code y bytes maxL ret] rm) (fun a U => a = as' ∧ Z.Warmed39 U.vm ∧ U.heap = h ∧ IB Z U.vm []) (fun _ _ _ _ _ => True) (fun _ U o U' => ∃ v L, o = .returned v ∧ Qc v U'.heap L ∧ ReturnedEndW U o U' L rm.cells rm.slots))
    (hZ : Z.Warmed39 s.vm) (hI : IB Z s.vm []) (wc : (Cond.code y bytes maxL ret).before a0 Z = true) (wz : (Cond.initialized y.cls).before a0 Z = true) (hf : rm.frames + 1 ≤ R.frames) (hl : W + (maxL + 11) + rm.locals ≤ R.locals) :
    BackS l R p e below s args y len W (fun A a => a = as' ∧ A.U.heap = h ∧ A.cells + rm.cells ≤ R.cells ∧ A.slots + rm.slots ≤ R.slots)
      (fun A _ v B => ∃ L, Qc v B.U.heap L ∧ B.locs = A.locs ++ L ∧ B.cells = A.cells + rm.cells ∧ B.slots = A.slots + rm.slots) :=
  BackS.of_freeW (bytes := bytes) (maxL := maxL) (ret := ret) (E := fun _ _ o t L k n => k = rm.cells ∧ n = rm.slots ∧ ∃ v, o = .returned v ∧ Qc v t.heap L) hM hf hl
    (fun m meth c A a Y hp => have hU : Z.Warmed39 A.U.vm := wtrans hZ Y.warmed
      ⟨by show (Cond.and _ .tt).before a A.U = true; rw [Cond.before_and, mv hU wc]; rfl, mv hU wc, mv hU wz, hp.2.2.1, hp.2.2.2⟩)
    (fun m meth c A a g mk Y hp => ⟨hp.1, wtrans hZ Y.warmed, hp.2.1, own_ibw hI Y.warmed⟩) (fun _ _ _ _ _ _ _ _ _ => trivial)
    (fun _ _ _ _ ⟨v, L, h1, h2, h3⟩ => ⟨L, _, _, h3, rfl, rfl, v, h1, h2⟩)
    (fun m meth c A a g mk v t L k n Y hp _ _ ⟨e1, e2, v', e3, e4⟩ => by cases e3; subst e1 e2; exact ⟨L, e4, rfl, rfl, rfl⟩)
theorem own_callSW (X : Stand p l e R s m args below meth c T locs cells slots) (hx : p.tables.exec = Jvm.exec) (hZ : Z.Warmed39 s.vm) (hI : IB Z s.vm []) {own : String} {index : Nat} {y : MethodName} {bytes : ByteArray} {maxL : Nat} {ret : Option FieldType} (hown : s.vm.findClass own = some m.cls) (wl : (Cond.methodLink own index y).before a0 Z = true) (ws : (Cond.static y).before a0 Z = true) (wz : (Cond.initialized y.cls).before a0 Z = true) (wc : (Cond.code y bytes maxL ret).before a0 Z = true) (hy : y.cls ≠ "java/lang/invoke/MethodHandle" ∧ y.cls ≠ "java/lang/invoke/VarHandle") (eT : T.heap = h)
    {rm : Room} {Qc : Option Value → Heap → List Loc → Prop} {as' : Array Value} (hM : MetFree l y (head1 [Cond.code y bytes maxL ret] rm) (fun a U => a = as' ∧ Z.Warmed39 U.vm ∧ U.heap = h ∧ IB Z U.vm []) (fun _ _ _ _ _ => True) (fun _ U o U' => ∃ v L, o = .returned v ∧ Qc v U'.heap L ∧ ReturnedEndW U o U' L rm.cells rm.slots)) {W : Nat} (hf : rm.frames + 1 ≤ R.frames) (hl : W + (maxL + 11) + rm.locals ≤ R.locals) (hc : cells + rm.cells ≤ R.cells) (hsl : slots + rm.slots ≤ R.slots) {pc n : Nat} {Ls : Array Slot} (hsize : Ls.size = c.maxLocals) {argsL rest : List Value} {ps : List FieldType} {r : Option FieldType} (hpd : parseMethodDescriptor y.desc = some ⟨ps, r⟩) (hlen : argsL.length = ps.length) (has : argsL.toArray = as') (hW : 0 + (rest.map fun v => v.category).sum ≤ W) (hd : decode c.code pc = .ok (.invokestatic index, 3)) (hn : pc + 3 = n) {st : List Value} (hst : st = argsL.reverse ++ rest)
    (k : ∀ v T' h' L', Stand p l e R (s.setVm T'.vm) m args below meth c T' (locs ++ L') (cells + rm.cells) (slots + rm.slots) → T'.heap = h' → s.Since T'.vm h'.size → Z.Warmed39 (s.setVm T'.vm).vm → (s.setVm T'.vm).vm.findClass own = some m.cls → Qc v h' L' → Ends p e below EE Q (T'.setTop (mkF m n Ls (v.toList ++ rest)))) : Ends p e below EE Q (T.setTop (mkF m pc Ls st)) := by
  subst hn
  obtain ⟨v, _, ⟨T18, L18, k18, n18⟩, -, X18, hS18, hg18, ⟨Lc18, hQ18, l18, y18, z18⟩, st18⟩ := callSS X hx hown (mvT hZ wl) (mvT hZ ws) (mvT hZ wz) (mvT hZ wc) hy (own_backW (W := W) hM hZ hI wc wz hf hl) (g := mkF m pc Ls st) rfl hsize (argsL := argsL) (rest := rest) (lenOf hpd hlen) hst hW hd (fun _ _ => ⟨has, eT, hc, hsl⟩)
  dsimp only [Pt.U, Pt.locs, Pt.cells, Pt.slots] at X18 l18 y18 z18 st18 hQ18 hS18 hg18
  subst l18 y18 z18
  exact Ends.tr st18 (k v T18 _ Lc18 X18 rfl hS18 (State.Warmed39.trans hZ hS18.1) ((hS18.1.alike.findClass _ _).trans hown) hQ18)
theorem own_callNW (X : Stand p l e R s m args below meth c T locs cells slots) (hx : p.tables.exec = Jvm.exec) (hZ : Z.Warmed39 s.vm) (hI : IB Z s.vm []) {own : String} {index : Nat} {y : MethodName} {bytes : ByteArray} {maxL : Nat} (hy1 : y.name = "<init>") (hown : s.vm.findClass own = some m.cls) (wl : (Cond.methodLink own index y).before a0 Z = true) (wi : (Cond.instanceMethod y).before a0 Z = true) (wz : (Cond.initialized y.cls).before a0 Z = true) (wc : (Cond.code y bytes maxL none).before a0 Z = true) (hy : y.cls ≠ "java/lang/invoke/MethodHandle" ∧ y.cls ≠ "java/lang/invoke/VarHandle") (eT : T.heap = h)
    {rm : Room} {Qc : Option Value → Heap → List Loc → Prop} {as' : Array Value} (hM : MetFree l y (head1 [Cond.code y bytes maxL none] rm) (fun a U => a = as' ∧ Z.Warmed39 U.vm ∧ U.heap = h ∧ IB Z U.vm []) (fun _ _ _ _ _ => True) (fun _ U o U' => ∃ v L, o = .returned v ∧ Qc v U'.heap L ∧ ReturnedEndW U o U' L rm.cells rm.slots)) {W : Nat} (hf : rm.frames + 1 ≤ R.frames) (hl : W + (maxL + 11) + rm.locals ≤ R.locals) (hc : cells + rm.cells ≤ R.cells) (hsl : slots + rm.slots ≤ R.slots) {pc n : Nat} {Ls : Array Slot} (hsize : Ls.size = c.maxLocals) {argsL rest : List Value} {ps : List FieldType} {r : Option FieldType} (hpd : parseMethodDescriptor y.desc = some ⟨ps, r⟩) (hlen : argsL.length = ps.length) {a : Addr} (has : (.ref a :: argsL).toArray = as') (hW : 0 + (rest.map fun v => v.category).sum ≤ W) (hd : decode c.code pc = .ok (.invokespecial index, 3)) (hn : pc + 3 = n) {st : List Value} (hst : st = argsL.reverse ++ .ref a :: rest)
    (k : ∀ v T' h' L', Stand p l e R (s.setVm T'.vm) m args below meth c T' (locs ++ L') (cells + rm.cells) (slots + rm.slots) → T'.heap = h' → s.Since T'.vm h'.size → Z.Warmed39 (s.setVm T'.vm).vm → (s.setVm T'.vm).vm.findClass own = some m.cls → Qc v h' L' → Ends p e below EE Q (T'.setTop (mkF m n Ls (v.toList ++ rest)))) : Ends p e below EE Q (T.setTop (mkF m pc Ls st)) := by
  subst hn
  obtain ⟨v, _, ⟨T18, L18, k18, n18⟩, -, X18, hS18, hg18, ⟨Lc18, hQ18, l18, y18, z18⟩, st18⟩ := X.specialBackS hx hy1 hown (mvT hZ wl) (mvT hZ wi) (mvT hZ wc) hy (own_backW (W := W) hM hZ hI wc wz hf hl) (g := mkF m pc Ls st) rfl hsize (Steps.refl _) (a := a) (argsL := argsL) (rest := rest) (lenOf hpd hlen) hst hW hd (fun _ _ => ⟨has, eT, hc, hsl⟩)
  dsimp only [Pt.U, Pt.locs, Pt.cells, Pt.slots] at X18 l18 y18 z18 st18 hQ18 hS18 hg18
  subst l18 y18 z18
  exact Ends.tr st18 (k v T18 _ Lc18 X18 rfl hS18 (State.Warmed39.trans hZ hS18.1) ((hS18.1.alike.findClass _ _).trans hown) hQ18)
theorem own_getF (X : Stand p l e R s m args below meth c T locs cells slots) (hx : p.tables.exec = Jvm.exec) (hZ : Z.Warmed39 s.vm) {own C f d : String} {index : Nat} (hown : s.vm.findClass own = some m.cls) (w : (Cond.fieldLink own index C f d).before a0 Z = true) (eT : T.heap = h) {a : Addr} {v : Value} (F : Fld Z h a C f d v) {pc n : Nat} {Ls : Array Slot} {st : List Value} (hd : decode c.code pc = .ok (.getfield index, 3)) (hn : pc + 3 = n)
    (k : ∀ T', Stand p l e R s m args below meth c T' locs cells slots → T'.heap = h → Ends p e below EE Q (T'.setTop (mkF m n Ls (v :: st)))) : Ends p e below EE Q (T.setTop (mkF m pc Ls (.ref a :: st))) := by
  subst hn
  obtain ⟨T', X', e', st'⟩ := Jvm.RoadKit.getF X hx hZ hown (host := "") (Or.inl w) Via.refl eT F (g := mkF m pc Ls (.ref a :: st)) rfl rfl hd
  exact Ends.via (fun t h => st' t h) (k T' X' e')
theorem own_getS (X : Stand p l e R s m args below meth c T locs cells slots) (hx : p.tables.exec = Jvm.exec) (hZ : Z.Warmed39 s.vm) {own C f d : String} {index : Nat} (hown : s.vm.findClass own = some m.cls) (w : (Cond.fieldLink own index C f d).before a0 Z = true) (eT : T.heap = h) {v : Value} (F : Sta Z h C f d v) {pc n : Nat} {Ls : Array Slot} {st : List Value} (hd : decode c.code pc = .ok (.getstatic index, 3)) (hn : pc + 3 = n)
    (k : ∀ T', Stand p l e R s m args below meth c T' locs cells slots → T'.heap = h → Ends p e below EE Q (T'.setTop (mkF m n Ls (v :: st)))) : Ends p e below EE Q (T.setTop (mkF m pc Ls st)) := by
  subst hn
  obtain ⟨T', X', e', st'⟩ := getS2 X hx hZ hown (host := "") (Or.inl w) Via.refl eT F (g := mkF m pc Ls st) rfl hd
  exact Ends.via (fun t h => st' t h) (k T' X' e')
theorem own_putF (X : Stand p l e R s m args below meth c T locs cells slots) (hx : p.tables.exec = Jvm.exec) (hZ : Z.Warmed39 s.vm) {own C f d CC : String} {index kk : Nat} {ty : FieldType} (hown : s.vm.findClass own = some m.cls) (w : (Cond.fieldLink own index C f d).before a0 Z = true) (eT : T.heap = h) {a : Addr} {v old : Value} (F : Fld Z h a C f d old) (EX : Exa Z h a CC) (Lw : (Cond.lays CC C f d).before a0 Z = true ∨ ((Cond.laysFinal CC C f d).before a0 Z = true ∧ own = C ∧ meth.name = "<init>")) (wi : (Cond.instantiable CC kk).before a0 Z = true) (hty : parseFieldDescriptor d = some ty) (hnw : narrow ty v = v) (hft : fits ty v = true) {pc n : Nat} {Ls : Array Slot} {st : List Value} (hd : decode c.code pc = .ok (.putfield index, 3)) (hn : pc + 3 = n)
    (k : ∀ T' h', Stand p l e R s m args below meth c T' (locs ++ [⟨a, Jvm.RoadKit.slotOf Z C f d⟩]) cells slots → T'.heap = h' → Wr h h' a (Jvm.RoadKit.slotOf Z C f d) v → Ends p e below EE Q (T'.setTop (mkF m n Ls st))) : Ends p e below EE Q (T.setTop (mkF m pc Ls (v :: .ref a :: st))) := by
  subst hn
  obtain ⟨T', h', X', e', W', st'⟩ := Jvm.RoadKit.putF X hx hZ hown (host := "") (Or.inl w) Via.refl eT F EX Lw wi hty hnw hft (g := mkF m pc Ls (v :: .ref a :: st)) rfl rfl hd
  exact Ends.via (fun t h => st' t h) (k T' h' X' e' W')
theorem own_newO (X : Stand p l e R s m args below meth c T locs cells slots) (hx : p.tables.exec = Jvm.exec) (hZ : Z.Warmed39 s.vm) {own C : String} {index i : Nat} (hown : s.vm.findClass own = some m.cls) (w : (Cond.classLink own index C).before a0 Z = true) (wi : (Cond.instantiable C i).before a0 Z = true) (wz : (Cond.initialized C).before a0 Z = true) (eT : T.heap = h) (hc : cells + 1 ≤ R.cells) (hl : slots + i ≤ R.slots) {pc n : Nat} {Ls : Array Slot} {st : List Value} (hd : decode c.code pc = .ok (.new index, 3)) (hn : pc + 3 = n)
    (k : ∀ T' h' b, Stand p l e R s m args below meth c T' locs (cells + 1) (slots + i) → T'.heap = h' → b = h.size → Ext h h' → Exa Z h' b C → (∀ {O nm d : String} {ty : FieldType}, Laid Z a0 C O nm d → parseFieldDescriptor d = some ty → Fld Z h' b O nm d (defaultValue ty)) → Ends p e below EE Q (T'.setTop (mkF m n Ls (.ref b :: st)))) : Ends p e below EE Q (T.setTop (mkF m pc Ls st)) := by
  subst hn
  obtain ⟨T', h', X', e', E', A', D', -, st'⟩ := Jvm.RoadKit.newO X hx hZ hown w wi wz eT (g := mkF m pc Ls st) rfl hd hc hl
  exact Ends.via (fun t h => st' t h) (k T' h' _ X' e' rfl E' A' D')
theorem own_initO (X : Stand p l e R s m args below meth c T locs cells slots) (hx : p.tables.exec = Jvm.exec) (hZ : Z.Warmed39 s.vm) {own : String} {index : Nat} (hown : s.vm.findClass own = some m.cls) (w1 : (Cond.methodLink own index Lib.objectInit).before a0 Z = true) (w2 : (Cond.instanceMethod Lib.objectInit).before a0 Z = true) (w3 : (Cond.code Lib.objectInit ⟨#[0xb1]⟩ 1 none).before a0 Z = true) (eT : T.heap = h) {a : Addr} {pc n : Nat} {Ls : Array Slot} {st : List Value} (hsize : Ls.size = c.maxLocals) (hd : decode c.code pc = .ok (.invokespecial index, 3)) (hn : pc + 3 = n) (hf : 1 ≤ R.frames) {W : Nat} (hW : 0 + (st.map fun v => v.category).sum ≤ W) (hl : W + 12 ≤ R.locals)
    (k : ∀ T', Stand p l e R s m args below meth c T' locs cells slots → T'.heap = h → Ends p e below EE Q (T'.setTop (mkF m n Ls (st)))) : Ends p e below EE Q (T.setTop (mkF m pc Ls (.ref a :: st))) := by
  subst hn
  obtain ⟨T', X', e', st'⟩ := Jvm.RoadKit.initO X hx hZ hown w1 w2 w3 eT (g := mkF m pc Ls (.ref a :: st)) rfl hsize rfl hd hf (W := W) hW hl
  exact Ends.via (fun t h => st' t h) (k T' X' e')
/-- an array of n places: the j-th holds f j -/
def VA (Z : State) (h : Heap) (a : Addr) (ty : FieldType) (n : Nat) (f : Nat → Value) : Prop := n < 2 ^ 31 ∧ ∃ c : Cell, Arr Z h a c ty ∧ c.slots.size = n ∧ ∀ j, j < n → c.slots[j]? = some (f j)
theorem VA.ext {h' : Heap} {a : Addr} {ty : FieldType} {n : Nat} {f : Nat → Value} (F : VA Z h a ty n f) (E : Ext h h') : VA Z h' a ty n f := by obtain ⟨q, c, A, r⟩ := F; exact ⟨q, c, A.ext E, r⟩
theorem VA.keep {h' : Heap} {a : Addr} {ty : FieldType} {n : Nat} {f : Nat → Value} {ws : List Addr} (F : VA Z h a ty n f) (K : Keep h h' ws) (q : a ∉ ws) : VA Z h' a ty n f := by obtain ⟨r0, c, A, r⟩ := F; exact ⟨r0, c, ⟨K.2.1 a c A.1 q, A.2⟩, r⟩
theorem VA.wrO {h' : Heap} {a b : Addr} {sl : Nat} {w : Value} {ty : FieldType} {n : Nat} {f : Nat → Value} (F : VA Z h a ty n f) (W : Wr h h' b sl w) (q : a ≠ b) : VA Z h' a ty n f := by obtain ⟨r0, c, A, r⟩ := F; exact ⟨r0, c, A.other W q, r⟩
theorem VA.lt {a : Addr} {ty : FieldType} {n : Nat} {f : Nat → Value} (F : VA Z h a ty n f) : a < h.size := by obtain ⟨-, c, A, -⟩ := F; exact A.lt
theorem VA.set {h' : Heap} {a : Addr} {ty : FieldType} {n i : Nat} {f : Nat → Value} {w : Value} (F : VA Z h a ty n f) (W : Wr h h' a i w) (hi : i < n) : VA Z h' a ty n (fun j => if j = i then w else f j) := by
  obtain ⟨q, c, A, r1, r2⟩ := F
  refine ⟨q, _, A.same W, (sz_set c i w).trans r1, fun j hj => ?_⟩
  by_cases e : j = i
  · subst e
    simp [Cell.setSlot, r1, hj]
  · show (c.setSlot i w).slots[j]? = some (if j = i then w else f j)
    rw [if_neg e, ← r2 j hj]
    exact Array.getElem?_setIfInBounds_ne (fun z => e z.symm)
theorem VA.congr {a : Addr} {ty : FieldType} {n : Nat} {f g : Nat → Value} (F : VA Z h a ty n f) (e : ∀ j, j < n → f j = g j) : VA Z h a ty n g := by obtain ⟨q, c, A, r1, r2⟩ := F; exact ⟨q, c, A, r1, fun j hj => (r2 j hj).trans (congrArg some (e j hj))⟩
def IA (Z : State) (h : Heap) (a : Addr) (n : Nat) (g : Nat → Int32) : Prop := VA Z h a .int n (fun j => .int (g j))
theorem IA.ext {h' : Heap} {a : Addr} {n : Nat} {g : Nat → Int32} (F : IA Z h a n g) (E : Ext h h') : IA Z h' a n g := VA.ext F E
theorem IA.keep {h' : Heap} {a : Addr} {n : Nat} {g : Nat → Int32} {ws : List Addr} (F : IA Z h a n g) (K : Keep h h' ws) (q : a ∉ ws) : IA Z h' a n g := VA.keep F K q
theorem IA.wrO {h' : Heap} {a b : Addr} {sl : Nat} {w : Value} {n : Nat} {g : Nat → Int32} (F : IA Z h a n g) (W : Wr h h' b sl w) (q : a ≠ b) : IA Z h' a n g := VA.wrO F W q
theorem IA.lt {a : Addr} {n : Nat} {g : Nat → Int32} (F : IA Z h a n g) : a < h.size := VA.lt F
theorem IA.set {h' : Heap} {a : Addr} {n i : Nat} {g : Nat → Int32} {x : Int32} (F : IA Z h a n g) (W : Wr h h' a i (.int x)) (hi : i < n) : IA Z h' a n (fun j => if j = i then x else g j) :=
  VA.congr (VA.set F W hi) fun j _ => by by_cases e : j = i <;> simp [e]
theorem IA.congr {a : Addr} {n : Nat} {f g : Nat → Int32} (F : IA Z h a n f) (e : ∀ j, j < n → f j = g j) : IA Z h a n g := VA.congr F fun j hj => by rw [e j hj]
theorem own_clamp {j : Int32} {i : Nat} (hj : j.toInt = (i : Int)) : j.toNatClampNeg = i ∧ ¬ j < 0 := by
  refine ⟨by simp only [Int32.toNatClampNeg, hj]; rfl, fun q => ?_⟩
  rw [Int32.lt_iff_toInt_lt, hj] at q
  have o : (0 : Int32).toInt = 0 := rfl
  omega
theorem own_in {j : Int32} {i n : Nat} {c : Cell} (hj : j.toInt = (i : Int)) (hi : i < n) (S : c.slots.size = n) : ¬ (j < 0 ∨ c.slots.size ≤ j.toNatClampNeg) := by
  obtain ⟨q1, q2⟩ := own_clamp hj
  rintro (z | z)
  · exact q2 z
  · rw [q1, S] at z; omega
theorem own_newI (X : Stand p l e R s m args below meth c T locs cells slots) (hx : p.tables.exec = Jvm.exec) (hZ : Z.Warmed39 s.vm) (w : (Cond.arrayClass .int).before a0 Z = true) (eT : T.heap = h) {N : Int32} {i cap : Nat} (hN : N.toInt = (i : Int)) (hcap : i ≤ cap) (hb : cap * 8 ≤ 536870912) (hc : cells + 1 ≤ R.cells) (hl : slots + cap ≤ R.slots) {pc n : Nat} {Ls : Array Slot} {st : List Value} (hd : decode c.code pc = .ok (.newarray .int, 2)) (hn : pc + 2 = n)
    (k : ∀ T' h' b, Stand p l e R s m args below meth c T' locs (cells + 1) (slots + cap) → T'.heap = h' → b = h.size → Ext h h' → IA Z h' b i (fun _ => 0) → Ends p e below EE Q (T'.setTop (mkF m n Ls (.ref b :: st)))) : Ends p e below EE Q (T.setTop (mkF m pc Ls (.int N :: st))) := by
  subst hn
  obtain ⟨q1, q2⟩ := own_clamp hN
  obtain ⟨T', h', cA, X', e', E', A', st'⟩ := newP X hx hZ (aty := .int) w eT (g := mkF m pc Ls (.int N :: st)) rfl hd rfl q2 (cap := cap) (by rw [q1]; exact hcap) hb hc hl
  have b1 := rng32 N
  refine Ends.via (fun t h => st' t h) (k T' h' _ X' e' rfl E' ⟨by omega, _, A', (sz_new _ _ _).trans q1, fun j hj => ?_⟩)
  simp [newA, q1, hj]
  rfl
theorem own_iastore (X : Stand p l e R s m args below meth c T locs cells slots) (hx : p.tables.exec = Jvm.exec) (hZ : Z.Warmed39 s.vm) (eT : T.heap = h) {a : Addr} {N : Nat} {g : Nat → Int32} (F : IA Z h a N g) {j x : Int32} {i : Nat} (hj : j.toInt = (i : Int)) (hi : i < N) {pc n : Nat} {Ls : Array Slot} {st : List Value} (hd : decode c.code pc = .ok (.iastore, 1)) (hn : pc + 1 = n)
    (k : ∀ T' h', Stand p l e R s m args below meth c T' (locs ++ [⟨a, i⟩]) cells slots → T'.heap = h' → Wr h h' a i (.int x) → IA Z h' a N (fun y => if y = i then x else g y) → Ends p e below EE Q (T'.setTop (mkF m n Ls st))) : Ends p e below EE Q (T.setTop (mkF m pc Ls (.int x :: .int j :: .ref a :: st))) := by
  subst hn
  have F' := F
  obtain ⟨q, cl, A, S, H⟩ := F
  obtain ⟨q1, q2⟩ := own_clamp hj
  obtain ⟨T', h', X', e', W', st'⟩ := stI X hx hZ eT A (j := j) (own_in hj hi S) (g := mkF m pc Ls (.int x :: .int j :: .ref a :: st)) rfl rfl hd
  rw [q1] at X' W'
  exact Ends.via (fun t h => st' t h) (k T' h' X' e' W' (IA.set F' W' hi))
theorem own_iaload (X : Stand p l e R s m args below meth c T locs cells slots) (hx : p.tables.exec = Jvm.exec) (hZ : Z.Warmed39 s.vm) (eT : T.heap = h) {a : Addr} {N : Nat} {g : Nat → Int32} (F : IA Z h a N g) {j : Int32} {i : Nat} (hj : j.toInt = (i : Int)) (hi : i < N) {pc n : Nat} {Ls : Array Slot} {st : List Value} (hd : decode c.code pc = .ok (.iaload, 1)) (hn : pc + 1 = n)
    (k : Ends p e below EE Q (T.setTop (mkF m n Ls (.int (g i) :: st)))) : Ends p e below EE Q (T.setTop (mkF m pc Ls (.int j :: .ref a :: st))) := by
  subst hn
  obtain ⟨q, cl, A, S, H⟩ := F
  obtain ⟨q1, q2⟩ := own_clamp hj
  exact Ends.via (fun t h => X.iaload hx (j := j) (v := .int (g i)) (by rw [eT]; exact A.1) (State.isArrayOf_alike hZ.alike A.2.1) A.2.2 (own_in hj hi S) (by rw [q1]; exact H i hi) (g := mkF m pc Ls (.int j :: .ref a :: st)) rfl rfl hd _ h) k
theorem own_arraylength (X : Stand p l e R s m args below meth c T locs cells slots) (hx : p.tables.exec = Jvm.exec) (hZ : Z.Warmed39 s.vm) (eT : T.heap = h) {a : Addr} {ty : FieldType} {N : Nat} {g : Nat → Value} (F : VA Z h a ty N g) {v : Int32} (hv : v.toInt = (N : Int)) {pc n : Nat} {Ls : Array Slot} {st : List Value} (hd : decode c.code pc = .ok (.arraylength, 1)) (hn : pc + 1 = n)
    (k : Ends p e below EE Q (T.setTop (mkF m n Ls (.int v :: st)))) : Ends p e below EE Q (T.setTop (mkF m pc Ls (.ref a :: st))) := by
  subst hn
  obtain ⟨q, cl, A, S, H⟩ := F
  have e1 : cl.slots.size.toInt32 = v := Int32.toInt_inj.mp (by rw [len_toInt (by omega), hv, S])
  rw [← e1] at k
  exact Ends.via (fun t h => X.arraylength hx (by rw [eT]; exact A.1) (State.isArrayOf_alike hZ.alike A.2.1) (g := mkF m pc Ls (.ref a :: st)) rfl rfl hd _ h) k
/-- an array of ints of a narrow kind (byte, char) -/
def PA (Z : State) (h : Heap) (a : Addr) (ty : FieldType) (n : Nat) (g : Nat → Int32) : Prop := VA Z h a ty n (fun j => .int (g j))
theorem PA.ext {h' : Heap} {a : Addr} {ty : FieldType} {n : Nat} {g : Nat → Int32} (F : PA Z h a ty n g) (E : Ext h h') : PA Z h' a ty n g := VA.ext F E
theorem PA.keep {h' : Heap} {a : Addr} {ty : FieldType} {n : Nat} {g : Nat → Int32} {ws : List Addr} (F : PA Z h a ty n g) (K : Keep h h' ws) (q : a ∉ ws) : PA Z h' a ty n g := VA.keep F K q
theorem PA.wrO {h' : Heap} {a b : Addr} {sl : Nat} {w : Value} {ty : FieldType} {n : Nat} {g : Nat → Int32} (F : PA Z h a ty n g) (W : Wr h h' b sl w) (q : a ≠ b) : PA Z h' a ty n g := VA.wrO F W q
theorem PA.lt {a : Addr} {ty : FieldType} {n : Nat} {g : Nat → Int32} (F : PA Z h a ty n g) : a < h.size := VA.lt F
theorem PA.set {h' : Heap} {a : Addr} {ty : FieldType} {n i : Nat} {g : Nat → Int32} {x : Int32} (F : PA Z h a ty n g) (W : Wr h h' a i (.int x)) (hi : i < n) : PA Z h' a ty n (fun j => if j = i then x else g j) :=
  VA.congr (VA.set F W hi) fun j _ => by by_cases e : j = i <;> simp [e]
theorem own_newarr (X : Stand p l e R s m args below meth c T locs cells slots) (hx : p.tables.exec = Jvm.exec) (hZ : Z.Warmed39 s.vm) {aty : ArrayType} {ty : FieldType} (hty : newarray.typeOf aty = ty) (hdf : defaultValue ty = .int 0) (w : (Cond.arrayClass ty).before a0 Z = true) (eT : T.heap = h) {N : Int32} {i cap : Nat} (hN : N.toInt = (i : Int)) (hcap : i ≤ cap) (hb : cap * 8 ≤ 536870912) (hc : cells + 1 ≤ R.cells) (hl : slots + cap ≤ R.slots) {pc n : Nat} {Ls : Array Slot} {st : List Value} (hd : decode c.code pc = .ok (.newarray aty, 2)) (hn : pc + 2 = n)
    (k : ∀ T' h' b, Stand p l e R s m args below meth c T' locs (cells + 1) (slots + cap) → T'.heap = h' → b = h.size → Ext h h' → PA Z h' b ty i (fun _ => 0) → Ends p e below EE Q (T'.setTop (mkF m n Ls (.ref b :: st)))) : Ends p e below EE Q (T.setTop (mkF m pc Ls (.int N :: st))) := by
  subst hn hty
  obtain ⟨q1, q2⟩ := own_clamp hN
  obtain ⟨T', h', cA, X', e', E', A', st'⟩ := newP X hx hZ (aty := aty) w eT (g := mkF m pc Ls (.int N :: st)) rfl hd rfl q2 (cap := cap) (by rw [q1]; exact hcap) hb hc hl
  have b1 := rng32 N
  refine Ends.via (fun t h => st' t h) (k T' h' _ X' e' rfl E' ⟨by omega, _, A', (sz_new _ _ _).trans q1, fun j hj => ?_⟩)
  simp [newA, q1, hj, hdf]
theorem own_castore (X : Stand p l e R s m args below meth c T locs cells slots) (hx : p.tables.exec = Jvm.exec) (hZ : Z.Warmed39 s.vm) (eT : T.heap = h) {a : Addr} {N : Nat} {g : Nat → Int32} (F : PA Z h a .char N g) {j x : Int32} {i : Nat} (hj : j.toInt = (i : Int)) (hi : i < N) {pc n : Nat} {Ls : Array Slot} {st : List Value} (hd : decode c.code pc = .ok (.castore, 1)) (hn : pc + 1 = n)
    (k : ∀ T' h', Stand p l e R s m args below meth c T' (locs ++ [⟨a, i⟩]) cells slots → T'.heap = h' → Wr h h' a i (.int (nar .char x)) → PA Z h' a .char N (fun y => if y = i then nar .char x else g y) → Ends p e below EE Q (T'.setTop (mkF m n Ls st))) : Ends p e below EE Q (T.setTop (mkF m pc Ls (.int x :: .int j :: .ref a :: st))) := by
  subst hn
  have F' := F
  obtain ⟨q, cl, A, S, H⟩ := F
  obtain ⟨q1, q2⟩ := own_clamp hj
  obtain ⟨T', h', X', e', W', st'⟩ := stC X hx hZ eT A (j := j) (own_in hj hi S) (g := mkF m pc Ls (.int x :: .int j :: .ref a :: st)) rfl rfl hd
  rw [q1] at X' W'
  exact Ends.via (fun t h => st' t h) (k T' h' X' e' W' (PA.set F' W' hi))
theorem own_bastore (X : Stand p l e R s m args below meth c T locs cells slots) (hx : p.tables.exec = Jvm.exec) (hZ : Z.Warmed39 s.vm) (eT : T.heap = h) {a : Addr} {N : Nat} {g : Nat → Int32} (F : PA Z h a .byte N g) {j x : Int32} {i : Nat} (hj : j.toInt = (i : Int)) (hi : i < N) {pc n : Nat} {Ls : Array Slot} {st : List Value} (hd : decode c.code pc = .ok (.bastore, 1)) (hn : pc + 1 = n)
    (k : ∀ T' h', Stand p l e R s m args below meth c T' (locs ++ [⟨a, i⟩]) cells slots → T'.heap = h' → Wr h h' a i (.int (nar .byte x)) → PA Z h' a .byte N (fun y => if y = i then nar .byte x else g y) → Ends p e below EE Q (T'.setTop (mkF m n Ls st))) : Ends p e below EE Q (T.setTop (mkF m pc Ls (.int x :: .int j :: .ref a :: st))) := by
  subst hn
  have F' := F
  obtain ⟨q, cl, A, S, H⟩ := F
  obtain ⟨q1, q2⟩ := own_clamp hj
  obtain ⟨T', h', X', e', W', st'⟩ := stB X hx hZ eT A (j := j) (own_in hj hi S) (g := mkF m pc Ls (.int x :: .int j :: .ref a :: st)) rfl rfl hd
  rw [q1] at X' W'
  exact Ends.via (fun t h => st' t h) (k T' h' X' e' W' (PA.set F' W' hi))
theorem own_caload (X : Stand p l e R s m args below meth c T locs cells slots) (hx : p.tables.exec = Jvm.exec) (hZ : Z.Warmed39 s.vm) (eT : T.heap = h) {a : Addr} {N : Nat} {g : Nat → Int32} (F : PA Z h a .char N g) {j : Int32} {i : Nat} (hj : j.toInt = (i : Int)) (hi : i < N) {pc n : Nat} {Ls : Array Slot} {st : List Value} (hd : decode c.code pc = .ok (.caload, 1)) (hn : pc + 1 = n)
    (k : Ends p e below EE Q (T.setTop (mkF m n Ls (.int (g i) :: st)))) : Ends p e below EE Q (T.setTop (mkF m pc Ls (.int j :: .ref a :: st))) := by
  subst hn
  obtain ⟨q, cl, A, S, H⟩ := F
  obtain ⟨q1, q2⟩ := own_clamp hj
  exact Ends.via (fun t h => X.caload hx (j := j) (v := .int (g i)) (by rw [eT]; exact A.1) (State.isArrayOf_alike hZ.alike A.2.1) A.2.2 (own_in hj hi S) (by rw [q1]; exact H i hi) (g := mkF m pc Ls (.int j :: .ref a :: st)) rfl rfl hd _ h) k
theorem own_baload (X : Stand p l e R s m args below meth c T locs cells slots) (hx : p.tables.exec = Jvm.exec) (hZ : Z.Warmed39 s.vm) (eT : T.heap = h) {a : Addr} {N : Nat} {g : Nat → Int32} (F : PA Z h a .byte N g) {j : Int32} {i : Nat} (hj : j.toInt = (i : Int)) (hi : i < N) {pc n : Nat} {Ls : Array Slot} {st : List Value} (hd : decode c.code pc = .ok (.baload, 1)) (hn : pc + 1 = n)
    (k : Ends p e below EE Q (T.setTop (mkF m n Ls (.int (g i) :: st)))) : Ends p e below EE Q (T.setTop (mkF m pc Ls (.int j :: .ref a :: st))) := by
  subst hn
  obtain ⟨q, cl, A, S, H⟩ := F
  obtain ⟨q1, q2⟩ := own_clamp hj
  exact Ends.via (fun t h => X.baloadBytes hx (j := j) (v := .int (g i)) (by rw [eT]; exact A.1) (State.isArrayOf_alike hZ.alike A.2.1) A.2.2 (own_in hj hi S) (by rw [q1]; exact H i hi) (g := mkF m pc Ls (.int j :: .ref a :: st)) rfl rfl hd _ h) k
theorem own_ldcL (X : Stand p l e R s m args below meth c T locs cells slots) (hx : p.tables.exec = Jvm.exec) (hZ : Z.Warmed39 s.vm) {own text : String} {index : Nat} (hown : s.vm.findClass own = some m.cls) (w : (Cond.stringLink own index text).before a0 Z = true) (wS : ∀ a ∈ Bundle.stringAtoms, a.before a0 Z = true) (eT : T.heap = h) (N : Fr s.heap.size locs) (hkeep : ∀ (b : Addr) (cl : Cell), Z.heap[b]? = some cl → s.heap[b]? = some cl) (I : IB Z s.vm []) (hh : Jvm.Lit.constHeld Z own index) (hcw : Jvm.Lit.compactW.before a0 Z = true)
    {vs : List Value} {z : Int32} (ht : (∀ c ∈ text.toList, c.toNat < 256) ∧ text.toList.map (fun c => Value.int (Jvm.Lit.byteI c.toNat.toUInt16)) = vs) (hz : ¬ z < 0) (hl : z.toNatClampNeg = vs.length) {nn : Nat} (hb : 4 * text.toList.length ≤ nn) (hbig : nn ≤ 536870912) (hc : cells + 2 ≤ R.cells) (hl' : slots + (nn + 4) ≤ R.slots) {pc n : Nat} {Ls : Array Slot} {st : List Value} (hd : decode c.code pc = .ok (.ldc index, 2)) (hn : pc + 2 = n)
    (k : ∀ T' h' a b kc k1, Stand p l e R (s.setVm T'.vm) m args below meth c T' locs (cells + 2) (slots + (nn + 4)) → T'.heap = h' → Ext h h' → s.Since T'.vm k1 → k1 ≤ h'.size → Z.Warmed39 (s.setVm T'.vm).vm → (s.setVm T'.vm).vm.findClass own = some m.cls → Exa Z h' a "java/lang/String" → Fld Z h' a "java/lang/String" "coder" "B" (.int 0) → Fld Z h' a "java/lang/String" "value" "[B" (.ref b) → Arv Z h' b kc .byte z vs (.int 0) → Lit (s.setVm T'.vm) own index a → Ends p e below EE Q (T'.setTop (mkF m n Ls (.ref a :: st)))) : Ends p e below EE Q (T.setTop (mkF m pc Ls st)) := by
  subst hn
  obtain ⟨a, T', h', k1, b, kc, r1, r2, r3, r4, r5, r6, r7, r8, r9, r10, r11, r12, r13, r14, r15, r16⟩ := ldcSVL (s := s) (vm0 := s.vm) X hx hZ hown w wS eT (own_since s) (Nat.zero_le _) N hkeep I (by simp) hh hcw ht hz hl (g := mkF m pc Ls st) rfl hd hb hbig hc hl'
  exact Ends.via (fun t h => r16 t h) (k T' h' a b kc k1 r1 r2 r3 r4 r5 r6 r7 r8 r9 r10 r11 r15)
theorem own_ldcA {vm0 : Vm} (X : Stand p l e R (s.setVm vm0) m args below meth c T locs cells slots) (hx : p.tables.exec = Jvm.exec) (hZ : Z.Warmed39 vm0) {own text : String} {index : Nat} (hown : vm0.findClass own = some m.cls) (w : (Cond.stringLink own index text).before a0 Z = true) {a : Addr} (L : Lit (s.setVm vm0) own index a) {pc n : Nat} {Ls : Array Slot} {st : List Value} (hd : decode c.code pc = .ok (.ldc index, 2)) (hn : pc + 2 = n)
    (k : Ends p e below EE Q (T.setTop (mkF m n Ls (.ref a :: st)))) : Ends p e below EE Q (T.setTop (mkF m pc Ls st)) := by
  subst hn
  exact Ends.via (fun t h => ldcAgain X hx hZ hown w L (g := mkF m pc Ls st) rfl hd t h) k
end Own
def SP (Z : State) (h : Heap) (a : Addr) (v0 : Value) (v1 : Int32) : Prop := Exa Z h a "java/lang/String" ∧ Fld Z h a "java/lang/String" "value" "[B" v0 ∧ Fld Z h a "java/lang/String" "coder" "B" (.int v1)
theorem SP.ext {Z : State} {h h' : Heap} {a : Addr} {v0 : Value} {v1 : Int32} (F : SP Z h a v0 v1) (E : Ext h h') : SP Z h' a v0 v1 := ⟨F.1.ext E, F.2.1.ext E, F.2.2.ext E⟩
theorem SP.keep {Z : State} {h h' : Heap} {a : Addr} {v0 : Value} {v1 : Int32} {ws : List Addr} (F : SP Z h a v0 v1) (K : Keep h h' ws) (q : a ∉ ws) : SP Z h' a v0 v1 := ⟨F.1.keep K, F.2.1.keep K q, F.2.2.keep K q⟩
theorem SP.lt {Z : State} {h : Heap} {a : Addr} {v0 : Value} {v1 : Int32} (F : SP Z h a v0 v1) : a < h.size := F.1.lt
theorem SP.wrO {Z : State} {h h' : Heap} {a : Addr} {v0 : Value} {v1 : Int32} {b : Addr} {sl : Nat} {w : Value} (F : SP Z h a v0 v1) (W : Wr h h' b sl w) (q : a ≠ b) : SP Z h' a v0 v1 := ⟨F.1.wr W, F.2.1.other W (Or.inl q), F.2.2.other W (Or.inl q)⟩
theorem SP.set_value {Z : State} {h h' : Heap} {a : Addr} {v0 : Value} {v1 : Int32} {w : Value} {a0 : Array Value} (hw : ∀ d ∈ tables_1, d.before a0 Z = true) (F : SP Z h a v0 v1) (W : Wr h h' a (Jvm.RoadKit.slotOf Z "java/lang/String" "value" "[B") w) : SP Z h' a w v1 := ⟨F.1.wr W, F.2.1.same W, F.2.2.other W (Or.inr (slot_ne (a0 := a0) (Or.inr (hw _ (List.mem_of_getElem? (i := 25) rfl))) (Or.inr (hw _ (List.mem_of_getElem? (i := 24) rfl))) (by decide) (t := .byte) (t' := (.array .byte)) (by decide) (by decide)))⟩
theorem SP.set_coder {Z : State} {h h' : Heap} {a : Addr} {v0 : Value} {v1 : Int32} {w : Int32} {a0 : Array Value} (hw : ∀ d ∈ tables_1, d.before a0 Z = true) (F : SP Z h a v0 v1) (W : Wr h h' a (Jvm.RoadKit.slotOf Z "java/lang/String" "coder" "B") (.int w)) : SP Z h' a v0 w := ⟨F.1.wr W, F.2.1.other W (Or.inr (slot_ne (a0 := a0) (Or.inr (hw _ (List.mem_of_getElem? (i := 24) rfl))) (Or.inr (hw _ (List.mem_of_getElem? (i := 25) rfl))) (by decide) (t := (.array .byte)) (t' := .byte) (by decide) (by decide))), F.2.2.same W⟩
theorem own_inj {a b : Int32} (h : a.toInt = b.toInt) : a = b := Int32.toInt_inj.mp h
theorem own_add1 {i : Int32} {k : Nat} (h : i.toInt = (k : Int)) (hk : k < 100000) : (i + 1).toInt = ((k + 1 : Nat) : Int) := by
  have q := c_iadd i 1
  have r := rng32 (i + 1)
  have o : (1 : Int32).toInt = 1 := rfl
  omega
theorem own_shr0 (y : Int32) : ((y - y).toUInt32 >>> ((31 : Int32) &&& 31).toUInt32).toInt32.toInt8.toInt32 = 0 := by
  rw [Int32.sub_self]
  decide
theorem own_shr1 (k : Nat) (h1 : 1 ≤ k) (h2 : k ≤ 4) : ((Nat.toInt32 k - Nat.toInt32 (2 * k)).toUInt32 >>> ((31 : Int32) &&& 31).toUInt32).toInt32.toInt8.toInt32 = 1 := by
  have q : k = 1 ∨ k = 2 ∨ k = 3 ∨ k = 4 := by omega
  rcases q with rfl | rfl | rfl | rfl <;> decide
theorem own_sh1 {q : Int32} {i : Nat} (h : q.toInt = (i : Int)) (hi : i < 1000) : (q <<< ((1 : Int32) &&& 31)).toInt = ((2 * i : Nat) : Int) := by
  have a := c_ishl q 1 1 (by decide)
  have b := rng32 (q <<< ((1 : Int32) &&& 31))
  omega
theorem own_sh2 {q : Int32} {i : Nat} (h : q.toInt = (i : Int)) (hi : i < 1000) : (q <<< ((1 : Int32) &&& 31) + (1 : Int32)).toInt = ((2 * i + 1 : Nat) : Int) := own_add1 (own_sh1 h hi) (by omega)
theorem own_len (n k : Nat) (r : Int32) (hn : n ≤ 8) (D : (r = 0 ∧ n = k) ∨ (r = 1 ∧ n = 2 * k)) : (Nat.toInt32 n >>> (r &&& 31)).toInt = (k : Int) := by
  have q := len_toInt (n := n) (by omega)
  rcases D with ⟨rfl, rfl⟩ | ⟨rfl, rfl⟩
  · rw [c_ishr _ 0 0 (by decide), q]; omega
  · rw [c_ishr _ 1 1 (by decide), q]; omega
def LOB (x : Int32) : Int32 := nar .byte ((x >>> ((0 : Int32) &&& 31)).toInt8.toInt32)
def HIB (x : Int32) : Int32 := nar .byte ((x >>> ((8 : Int32) &&& 31)).toInt8.toInt32)
def GC (a b : Int32) : Int32 := nar .char ((((a &&& (255 : Int32)) <<< ((0 : Int32) &&& 31)) ||| ((b &&& (255 : Int32)) <<< ((8 : Int32) &&& 31))).toUInt32.toUInt16.toUInt32.toInt32)
theorem own_nb (x : Int32) : (nar .byte x).toInt % 256 = x.toInt % 256 := by
  have q := c_i2b x
  show x.toInt8.toInt32.toInt % 256 = _
  omega
theorem own_lob (x : Int32) : (LOB x &&& (255 : Int32)).toInt = x.toInt % 256 := by
  have q1 := c_mask (LOB x) 255 8 (by decide) (by decide)
  have q2 := own_nb ((x >>> ((0 : Int32) &&& 31)).toInt8.toInt32)
  have q3 := c_i2b (x >>> ((0 : Int32) &&& 31))
  have q4 := c_ishr x 0 0 (by decide)
  rw [q1]
  show (nar .byte ((x >>> ((0 : Int32) &&& 31)).toInt8.toInt32)).toInt % _ = _
  omega
theorem own_hib (x : Int32) (h0 : 0 ≤ x.toInt) (h1 : x.toInt ≤ 65535) : (HIB x &&& (255 : Int32)).toInt = x.toInt / 256 := by
  have q1 := c_mask (HIB x) 255 8 (by decide) (by decide)
  have q2 := own_nb ((x >>> ((8 : Int32) &&& 31)).toInt8.toInt32)
  have q3 := c_i2b (x >>> ((8 : Int32) &&& 31))
  have q4 := c_ishr x 8 8 (by decide)
  rw [q1]
  show (nar .byte ((x >>> ((8 : Int32) &&& 31)).toInt8.toInt32)).toInt % _ = _
  omega
theorem own_gc (x : Int32) (h0 : 0 ≤ x.toInt) (h1 : x.toInt ≤ 65535) : GC (LOB x) (HIB x) = x := by
  have a := own_lob x
  have b := own_hib x h0 h1
  unfold GC
  generalize LOB x &&& (255 : Int32) = u at *
  generalize HIB x &&& (255 : Int32) = v at *
  have s0 := c_ishl u 0 0 (by decide)
  have r0 := rng32 (u <<< ((0 : Int32) &&& 31))
  have s1 := c_ishl v 8 8 (by decide)
  have r1 := rng32 (v <<< ((8 : Int32) &&& 31))
  generalize u <<< ((0 : Int32) &&& 31) = u' at *
  generalize v <<< ((8 : Int32) &&& 31) = v' at *
  have t := c_or' u' v' 8 (by decide) 256 rfl (by omega) (by omega) (by omega)
  have r2 := rng32 (u' ||| v')
  generalize u' ||| v' = w at *
  have c1 := c_i2c w
  have c2 := c_i2c (w.toUInt32.toUInt16.toUInt32.toInt32)
  apply own_inj
  show (w.toUInt32.toUInt16.toUInt32.toInt32).toUInt32.toUInt16.toUInt32.toInt32.toInt = _
  omega
def LAT (g f : Nat → Int32) (k : Nat) : Prop := ∀ j, j < k → ¬ (255 : Int32) < g j ∧ f j = nar .byte ((g j).toInt8.toInt32)
def UTF (g f : Nat → Int32) (k : Nat) : Prop := ∀ j, j < k → f (2 * j) = LOB (g j) ∧ f (2 * j + 1) = HIB (g j)
def CHS (g : Nat → Int32) (k : Nat) : Prop := ∀ j, j < k → 0 ≤ (g j).toInt ∧ (g j).toInt ≤ 65535
def HC (g : Nat → Int32) (k : Nat) (ch : Int32) : Prop := ∃ j, j < k ∧ g j = ch
def STR (Z : State) (h : Heap) (a : Addr) (k : Nat) (g : Nat → Int32) : Prop := ∃ b f r n, SP Z h a (.ref b) r ∧ PA Z h b .byte n f ∧ ((r = 0 ∧ n = k ∧ LAT g f k) ∨ (r = 1 ∧ n = 2 * k ∧ UTF g f k))
theorem STR.congr {Z : State} {h : Heap} {a : Addr} {k : Nat} {g g' : Nat → Int32} (F : STR Z h a k g) (e : ∀ j, j < k → g j = g' j) : STR Z h a k g' := by
  obtain ⟨b, f, r, n, q1, q2, q3⟩ := F
  refine ⟨b, f, r, n, q1, q2, ?_⟩
  rcases q3 with ⟨x1, x2, x3⟩ | ⟨x1, x2, x3⟩
  · exact Or.inl ⟨x1, x2, fun j hj => e j hj ▸ x3 j hj⟩
  · exact Or.inr ⟨x1, x2, fun j hj => e j hj ▸ x3 j hj⟩
theorem own_b {x ch : Int32} (hc : ch = 34 ∨ ch = 39) (h0 : 0 ≤ x.toInt) (h1 : ¬ (255 : Int32) < x) : nar .byte (x.toInt8.toInt32) = ch.toInt8.toInt32 ↔ x = ch := by
  have o : (255 : Int32).toInt = 255 := rfl
  rw [Int32.lt_iff_toInt_lt, o] at h1
  constructor
  · intro e
    have q1 := c_i2b x
    have q2 := own_nb (x.toInt8.toInt32)
    rw [e] at q2
    apply own_inj
    rcases hc with rfl | rfl
    · rw [show ((34 : Int32).toInt8.toInt32).toInt = 34 from rfl] at q2
      show x.toInt = 34
      omega
    · rw [show ((39 : Int32).toInt8.toInt32).toInt = 39 from rfl] at q2
      show x.toInt = 39
      omega
  · rintro rfl
    rcases hc with rfl | rfl <;> decide
theorem own_chq {ch : Int32} (hc : ch = 34 ∨ ch = 39) : ¬ ch < 0 ∧ ¬ (255 : Int32) < ch ∧ ch < 65536 := by rcases hc with rfl | rfl <;> decide
theorem own_m1 (P : Prop) (h : ¬ P) : ¬ (-1 : Int32) < 0 ↔ P := ⟨fun z => absurd (show (-1 : Int32) < 0 by decide) z, fun z => absurd z h⟩
theorem own_pos {i : Int32} {k : Nat} (h : i.toInt = (k : Int)) (P : Prop) (hp : P) : ¬ i < 0 ↔ P := ⟨fun _ => hp, fun _ => by
  have o : (0 : Int32).toInt = 0 := rfl
  rw [Int32.lt_iff_toInt_lt, o]
  omega⟩
def CH (w1 w2 w3 w4 : Int32) : Nat → Int32 := fun j => if j = 0 then w1 else if j = 1 then w2 else if j = 2 then w3 else w4
def STT (Z : State) (cs : Int32) (fm : Value) : Prop := ¬ cs = 0 ∧ fm.isRef = true ∧ Sta Z Z.heap "java/lang/String" "COMPACT_STRINGS" "Z" (.int cs) ∧ Sta Z Z.heap "java/lang/StringUTF16" "$assertionsDisabled" "Z" (.int 1) ∧ Sta Z Z.heap "java/lang/StringUTF16" "HI_BYTE_SHIFT" "I" (.int 0) ∧ Sta Z Z.heap "java/lang/StringUTF16" "LO_BYTE_SHIFT" "I" (.int 8) ∧ Sta Z Z.heap "jdk/internal/util/Preconditions" "SIOOBE_FORMATTER" "Ljava/util/function/BiFunction;" fm
theorem own_oldz {Z : State} {n0 : Nat} {h : Heap} (O : Old Z n0 h) : n0 ≤ h.size := O.1 ▸ O.2.1
theorem own_pa0 {Z : State} {h : Heap} {b : Addr} {c : Cell} (A : Arr Z h b c .byte) (S : c.slots.size = (0 : Int32).toNatClampNeg) : PA Z h b .byte 0 (fun _ => 0) := ⟨by decide, c, A, S, fun j hj => absurd hj (Nat.not_lt_zero _)⟩
theorem own_bit (r : Int32) (h : r = 0 ∨ r = 1) : nar .byte r = r := by rcases h with rfl | rfl <;> rfl
theorem own_D {r : Int32} {n k : Nat} {g f : Nat → Int32} (D : (r = 0 ∧ n = k ∧ LAT g f k) ∨ (r = 1 ∧ n = 2 * k ∧ UTF g f k)) : (r = 0 ∧ n = k) ∨ (r = 1 ∧ n = 2 * k) := by
  rcases D with ⟨x1, x2, -⟩ | ⟨x1, x2, -⟩
  · exact Or.inl ⟨x1, x2⟩
  · exact Or.inr ⟨x1, x2⟩
theorem own_D1 {r : Int32} {n k : Nat} {g f : Nat → Int32} (D : (r = 0 ∧ n = k ∧ LAT g f k) ∨ (r = 1 ∧ n = 2 * k ∧ UTF g f k)) (h : r = 0) : n = k ∧ LAT g f k := by
  rcases D with ⟨-, x2⟩ | ⟨x1, -⟩
  · exact x2
  · rw [x1] at h; exact absurd h (by decide)
theorem own_D2 {r : Int32} {n k : Nat} {g f : Nat → Int32} (D : (r = 0 ∧ n = k ∧ LAT g f k) ∨ (r = 1 ∧ n = 2 * k ∧ UTF g f k)) (h : ¬ r = 0) : n = 2 * k ∧ UTF g f k := by
  rcases D with ⟨x1, -⟩ | ⟨-, x2⟩
  · exact absurd x1 h
  · exact x2
theorem own_D01 {r : Int32} {n k : Nat} (D : (r = 0 ∧ n = k) ∨ (r = 1 ∧ n = 2 * k)) : r = 0 ∨ r = 1 := by
  rcases D with ⟨x1, -⟩ | ⟨x1, -⟩
  · exact Or.inl x1
  · exact Or.inr x1
theorem d1_0 : decode method_2_code 0 = .ok (.iload_n 0, 1) := by decide +kernel
theorem d1_1 : decode method_2_code 1 = .ok (.iconst 3, 1) := by decide +kernel
theorem d1_2 : decode method_2_code 2 = .ok (.iand, 1) := by decide +kernel
theorem d1_3 : decode method_2_code 3 = .ok (.istore_n 1, 1) := by decide +kernel
theorem d1_4 : decode method_2_code 4 = .ok (.iload_n 1, 1) := by decide +kernel
theorem d1_5 : decode method_2_code 5 = .ok (.ifCond .ne 6, 3) := by decide +kernel
theorem d1_8 : decode method_2_code 8 = .ok (.bipush 34, 2) := by decide +kernel
theorem d1_10 : decode method_2_code 10 = .ok (.ireturn, 1) := by decide +kernel
theorem d1_11 : decode method_2_code 11 = .ok (.iload_n 1, 1) := by decide +kernel
theorem d1_12 : decode method_2_code 12 = .ok (.iconst 1, 1) := by decide +kernel
theorem d1_13 : decode method_2_code 13 = .ok (.if_icmp .ne 6, 3) := by decide +kernel
theorem d1_16 : decode method_2_code 16 = .ok (.bipush 39, 2) := by decide +kernel
theorem d1_18 : decode method_2_code 18 = .ok (.ireturn, 1) := by decide +kernel
theorem d1_19 : decode method_2_code 19 = .ok (.iload_n 0, 1) := by decide +kernel
theorem d1_20 : decode method_2_code 20 = .ok (.iconst 2, 1) := by decide +kernel
theorem d1_21 : decode method_2_code 21 = .ok (.iushr, 1) := by decide +kernel
theorem d1_22 : decode method_2_code 22 = .ok (.i2c, 1) := by decide +kernel
theorem d1_23 : decode method_2_code 23 = .ok (.ireturn, 1) := by decide +kernel
theorem pn_1 : plainFor (⟨"com/example/pathgauge/pathgauge/expression/PredicateIsWritablePinLaw", "pick", "(I)C"⟩ : MethodName) = true := by first | exact plainFor_of_name (by first | (simp [plainName, overriddenIn]; done) | decide +kernel) | decide +kernel
theorem ef_1 (m : MethodId) (p1 : Int32) : entryFrame m #[(.int p1)] 2 = mkF m 0 #[.val (.int p1), .unset] [] := by first | (simp [entryFrame, argsToLocals, Value.category, Array.replicate]; done) | rfl
theorem pd_1 : parseMethodDescriptor "(I)C" = some ⟨[.int], some .char⟩ := by decide +kernel
def Q1 (Z : State) (p1 : Int32)  (h0 : Heap) (n0 : Nat) (v : Option Value) (h : Heap) (L : List Loc) : Prop := ∃ r, v = some (.int r) ∧ 0 ≤ r.toInt ∧ r.toInt ≤ 65535 ∧ nar .char r = r ∧ Fr n0 L ∧ h0 = h
theorem rm1 (l : Launch) (Z : State) (a0 : Array Value) (hw : ∀ d ∈ tables_1, d.before a0 Z = true) (ws : List Jvm.Cond) (p1 : Int32)  (h0 : Heap) (n0 : Nat) (Z0 : n0 ≤ h0.size)  :
    MetFree l (⟨"com/example/pathgauge/pathgauge/expression/PredicateIsWritablePinLaw", "pick", "(I)C"⟩ : MethodName) (head1 (Jvm.Cond.code (⟨"com/example/pathgauge/pathgauge/expression/PredicateIsWritablePinLaw", "pick", "(I)C"⟩ : MethodName) method_2_code 2 (some .char) :: ws) ({ frames := 0, cells := 0, slots := 0, locals := 0 } : Room)) (fun a U => a = #[(.int p1)] ∧ Z.Warmed39 U.vm ∧ U.heap = h0) (fun _ _ _ _ _ => True) (fun _ U o U' => ∃ v L, o = .returned v ∧ (Q1 Z p1  h0 n0) v U'.heap L ∧ FrameEnd U o U' L ({ frames := 0, cells := 0, slots := 0, locals := 0 } : Room).cells ({ frames := 0, cells := 0, slots := 0, locals := 0 } : Room).slots) := by
  refine MetFree.of_bodySF pn_1 hisR ?_
  intro p e s m args below meth c s₁ Bd hml0 hP hK
  obtain ⟨rfl, hZ, hh⟩ := hP
  have hx := Bd.exec
  have hby := Bd.bytes
  have hml : c.maxLocals = 2 := hml0
  have hown : s.vm.findClass "com/example/pathgauge/pathgauge/expression/PredicateIsWritablePinLaw" = some m.cls := findClass_of_methodNamed Bd.named
  have hnm := (name_of_methodNamed Bd.named Bd.method).1
  have X0 : Stand p l e ({ frames := 0, cells := 0, slots := 0, locals := 0 } : Room) s m #[(.int p1)] below meth c s₁ [] 0 0 := Stand.of_body Bd
  have e0 : s₁.heap = h0 := by rw [← hh, Bd.state]; rfl
  have N0 := Fr.nil n0
  have lk : meth.locks = false := BodyLoose.notSynchronized Bd
  have hret := Bd.returns
  show Ends p e below (EF s ({ frames := 0, cells := 0, slots := 0, locals := 0 } : Room).cells ({ frames := 0, cells := 0, slots := 0, locals := 0 } : Room).slots) (Q1 Z p1  h0 n0) (s₁.setTop (entryFrame m #[(.int p1)] 2))
  refine Ends.cast (ef_1 m p1) ?_
  refine own_iloadN (n := 1) X0 hx (hb hby d1_0) rfl rfl ?_
  refine own_iconst (n := 2) X0 hx (3 : Int32) (hb hby d1_1) rfl rfl ?_
  refine own_iand (n := 3) X0 hx (hb hby d1_2) rfl ?_
  refine own_istoreN (n := 4) X0 hx (hb hby d1_3) (l' := #[.val (.int p1), .val (.int (p1 &&& (3 : Int32)))]) rfl rfl ?_
  refine own_iloadN (n := 5) X0 hx (hb hby d1_4) rfl rfl ?_
  by_cases c5 : (p1 &&& (3 : Int32)) = 0
  · refine own_ifNo (n := 8) X0 hx (hb hby d1_5) (Jvm.Free.XT.i0_ne_f c5) rfl ?_
    refine own_bipush (n := 10) X0 hx (34 : Int32) (hb hby d1_8) rfl rfl ?_
    refine own_retN X0 hx lk hret (by simp) (hb hby d1_10) (by decide) (by decide) ?_
    rw [e0]
    exact ⟨_, rfl, by decide, by decide, rfl, N0, rfl⟩
  · refine own_ifYes (n := 11) X0 hx (hb hby d1_5) (Jvm.Free.XT.i0_ne_t c5) (by decide) (by decide) ?_
    refine own_iloadN (n := 12) X0 hx (hb hby d1_11) rfl rfl ?_
    refine own_iconst (n := 13) X0 hx (1 : Int32) (hb hby d1_12) rfl rfl ?_
    by_cases c13 : (p1 &&& (3 : Int32)) = (1 : Int32)
    · refine own_icmpNo (n := 16) X0 hx (hb hby d1_13) (Jvm.Free.XT.ii_ne_f c13) rfl ?_
      refine own_bipush (n := 18) X0 hx (39 : Int32) (hb hby d1_16) rfl rfl ?_
      refine own_retN X0 hx lk hret (by simp) (hb hby d1_18) (by decide) (by decide) ?_
      rw [e0]
      exact ⟨_, rfl, by decide, by decide, rfl, N0, rfl⟩
    · refine own_icmpYes (n := 19) X0 hx (hb hby d1_13) (Jvm.Free.XT.ii_ne_t c13) (by decide) (by decide) ?_
      refine own_iloadN (n := 20) X0 hx (hb hby d1_19) rfl rfl ?_
      refine own_iconst (n := 21) X0 hx (2 : Int32) (hb hby d1_20) rfl rfl ?_
      refine own_iushr (n := 22) X0 hx (hb hby d1_21) rfl ?_
      refine own_i2c (n := 23) X0 hx (hb hby d1_22) rfl ?_
      refine own_retN X0 hx lk hret (by simp) (hb hby d1_23) (by decide) (by decide) ?_
      rw [e0]
      have q := c_i2c (p1.toUInt32 >>> ((2 : Int32) &&& 31).toUInt32).toInt32
      have q2 := c_i2c ((((p1.toUInt32 >>> ((2 : Int32) &&& 31).toUInt32).toInt32).toUInt32.toUInt16.toUInt32.toInt32))
      exact ⟨_, rfl, by show 0 ≤ ((((p1.toUInt32 >>> ((2 : Int32) &&& 31).toUInt32).toInt32).toUInt32.toUInt16.toUInt32.toInt32)).toUInt32.toUInt16.toUInt32.toInt32.toInt; omega, by show ((((p1.toUInt32 >>> ((2 : Int32) &&& 31).toUInt32).toInt32).toUInt32.toUInt16.toUInt32.toInt32)).toUInt32.toUInt16.toUInt32.toInt32.toInt ≤ 65535; omega, own_inj (by show (((((p1.toUInt32 >>> ((2 : Int32) &&& 31).toUInt32).toInt32).toUInt32.toUInt16.toUInt32.toInt32)).toUInt32.toUInt16.toUInt32.toInt32).toUInt32.toUInt16.toUInt32.toInt32.toInt = ((((p1.toUInt32 >>> ((2 : Int32) &&& 31).toUInt32).toInt32).toUInt32.toUInt16.toUInt32.toInt32)).toUInt32.toUInt16.toUInt32.toInt32.toInt; have q3 := c_i2c (((((p1.toUInt32 >>> ((2 : Int32) &&& 31).toUInt32).toInt32).toUInt32.toUInt16.toUInt32.toInt32)).toUInt32.toUInt16.toUInt32.toInt32); omega), N0, rfl⟩
theorem d6_0 : decode method_4_code 0 = .ok (.iload_n 0, 1) := by decide +kernel
theorem d6_1 : decode method_4_code 1 = .ok (.ifCond .le 9, 3) := by decide +kernel
theorem d6_4 : decode method_4_code 4 = .ok (.iload_n 1, 1) := by decide +kernel
theorem d6_5 : decode method_4_code 5 = .ok (.iload 5, 2) := by decide +kernel
theorem d6_7 : decode method_4_code 7 = .ok (.if_icmp .eq 37, 3) := by decide +kernel
theorem d6_10 : decode method_4_code 10 = .ok (.iload_n 0, 1) := by decide +kernel
theorem d6_11 : decode method_4_code 11 = .ok (.iconst 1, 1) := by decide +kernel
theorem d6_12 : decode method_4_code 12 = .ok (.if_icmp .le 9, 3) := by decide +kernel
theorem d6_15 : decode method_4_code 15 = .ok (.iload_n 2, 1) := by decide +kernel
theorem d6_16 : decode method_4_code 16 = .ok (.iload 5, 2) := by decide +kernel
theorem d6_18 : decode method_4_code 18 = .ok (.if_icmp .eq 26, 3) := by decide +kernel
theorem d6_21 : decode method_4_code 21 = .ok (.iload_n 0, 1) := by decide +kernel
theorem d6_22 : decode method_4_code 22 = .ok (.iconst 2, 1) := by decide +kernel
theorem d6_23 : decode method_4_code 23 = .ok (.if_icmp .le 9, 3) := by decide +kernel
theorem d6_26 : decode method_4_code 26 = .ok (.iload_n 3, 1) := by decide +kernel
theorem d6_27 : decode method_4_code 27 = .ok (.iload 5, 2) := by decide +kernel
theorem d6_29 : decode method_4_code 29 = .ok (.if_icmp .eq 15, 3) := by decide +kernel
theorem d6_32 : decode method_4_code 32 = .ok (.iload_n 0, 1) := by decide +kernel
theorem d6_33 : decode method_4_code 33 = .ok (.iconst 3, 1) := by decide +kernel
theorem d6_34 : decode method_4_code 34 = .ok (.if_icmp .le 14, 3) := by decide +kernel
theorem d6_37 : decode method_4_code 37 = .ok (.iload 4, 2) := by decide +kernel
theorem d6_39 : decode method_4_code 39 = .ok (.iload 5, 2) := by decide +kernel
theorem d6_41 : decode method_4_code 41 = .ok (.if_icmp .ne 7, 3) := by decide +kernel
theorem d6_44 : decode method_4_code 44 = .ok (.iconst 1, 1) := by decide +kernel
theorem d6_45 : decode method_4_code 45 = .ok (.goto 4, 3) := by decide +kernel
theorem d6_48 : decode method_4_code 48 = .ok (.iconst 0, 1) := by decide +kernel
theorem d6_49 : decode method_4_code 49 = .ok (.ireturn, 1) := by decide +kernel
theorem pn_6 : plainFor (⟨"com/example/pathgauge/pathgauge/expression/PredicateIsWritablePinLaw", "has", "(ICCCCC)Z"⟩ : MethodName) = true := by first | exact plainFor_of_name (by first | (simp [plainName, overriddenIn]; done) | decide +kernel) | decide +kernel
theorem ef_6 (m : MethodId) (p1 : Int32) (p2 : Int32) (p3 : Int32) (p4 : Int32) (p5 : Int32) (p6 : Int32) : entryFrame m #[(.int p1), (.int p2), (.int p3), (.int p4), (.int p5), (.int p6)] 6 = mkF m 0 #[.val (.int p1), .val (.int p2), .val (.int p3), .val (.int p4), .val (.int p5), .val (.int p6)] [] := by first | (simp [entryFrame, argsToLocals, Value.category, Array.replicate]; done) | rfl
theorem pd_6 : parseMethodDescriptor "(ICCCCC)Z" = some ⟨[.int, .char, .char, .char, .char, .char], some .boolean⟩ := by decide +kernel
def Q6 (Z : State) (p1 : Int32) (p2 : Int32) (p3 : Int32) (p4 : Int32) (p5 : Int32) (p6 : Int32) (k : Nat) (h0 : Heap) (n0 : Nat) (v : Option Value) (h : Heap) (L : List Loc) : Prop := ∃ r, v = some (.int r) ∧ ((r = 1 ∧ HC (CH p2 p3 p4 p5) k p6) ∨ (r = 0 ∧ ¬ HC (CH p2 p3 p4 p5) k p6)) ∧ Fr n0 L ∧ h0 = h
theorem rm6 (l : Launch) (Z : State) (a0 : Array Value) (hw : ∀ d ∈ tables_1, d.before a0 Z = true) (ws : List Jvm.Cond) (p1 : Int32) (p2 : Int32) (p3 : Int32) (p4 : Int32) (p5 : Int32) (p6 : Int32) (k : Nat) (h0 : Heap) (n0 : Nat) (Z0 : n0 ≤ h0.size) (hk : p1.toInt = (k : Int)) (hk4 : k ≤ 4) :
    MetFree l (⟨"com/example/pathgauge/pathgauge/expression/PredicateIsWritablePinLaw", "has", "(ICCCCC)Z"⟩ : MethodName) (head1 (Jvm.Cond.code (⟨"com/example/pathgauge/pathgauge/expression/PredicateIsWritablePinLaw", "has", "(ICCCCC)Z"⟩ : MethodName) method_4_code 6 (some .boolean) :: ws) ({ frames := 0, cells := 0, slots := 0, locals := 0 } : Room)) (fun a U => a = #[(.int p1), (.int p2), (.int p3), (.int p4), (.int p5), (.int p6)] ∧ Z.Warmed39 U.vm ∧ U.heap = h0) (fun _ _ _ _ _ => True) (fun _ U o U' => ∃ v L, o = .returned v ∧ (Q6 Z p1 p2 p3 p4 p5 p6 k h0 n0) v U'.heap L ∧ FrameEnd U o U' L ({ frames := 0, cells := 0, slots := 0, locals := 0 } : Room).cells ({ frames := 0, cells := 0, slots := 0, locals := 0 } : Room).slots) := by
  refine MetFree.of_bodySF pn_6 hisR ?_
  intro p e s m args below meth c s₁ Bd hml0 hP hK
  obtain ⟨rfl, hZ, hh⟩ := hP
  have hx := Bd.exec
  have hby := Bd.bytes
  have hml : c.maxLocals = 6 := hml0
  have hown : s.vm.findClass "com/example/pathgauge/pathgauge/expression/PredicateIsWritablePinLaw" = some m.cls := findClass_of_methodNamed Bd.named
  have hnm := (name_of_methodNamed Bd.named Bd.method).1
  have X0 : Stand p l e ({ frames := 0, cells := 0, slots := 0, locals := 0 } : Room) s m #[(.int p1), (.int p2), (.int p3), (.int p4), (.int p5), (.int p6)] below meth c s₁ [] 0 0 := Stand.of_body Bd
  have e0 : s₁.heap = h0 := by rw [← hh, Bd.state]; rfl
  have N0 := Fr.nil n0
  have lk : meth.locks = false := BodyLoose.notSynchronized Bd
  have hret := Bd.returns
  show Ends p e below (EF s ({ frames := 0, cells := 0, slots := 0, locals := 0 } : Room).cells ({ frames := 0, cells := 0, slots := 0, locals := 0 } : Room).slots) (Q6 Z p1 p2 p3 p4 p5 p6 k h0 n0) (s₁.setTop (entryFrame m #[(.int p1), (.int p2), (.int p3), (.int p4), (.int p5), (.int p6)] 6))
  refine Ends.cast (ef_6 m p1 p2 p3 p4 p5 p6) ?_
  refine own_iloadN (n := 1) X0 hx (hb hby d6_0) rfl rfl ?_
  by_cases c1 : 0 < p1
  · refine own_ifNo (n := 4) X0 hx (hb hby d6_1) (Jvm.Free.XT.i0_le_f c1) rfl ?_
    refine own_iloadN (n := 5) X0 hx (hb hby d6_4) rfl rfl ?_
    refine own_iload (n := 7) X0 hx (hb hby d6_5) rfl rfl ?_
    by_cases c7 : p2 = p6
    · refine own_icmpYes (n := 44) X0 hx (hb hby d6_7) (Jvm.Free.XT.ii_eq_t c7) (by decide) (by decide) ?_
      refine own_iconst (n := 45) X0 hx (1 : Int32) (hb hby d6_44) rfl rfl ?_
      refine own_goto (n := 49) X0 hx (hb hby d6_45) (by decide) (by decide) ?_
      refine own_retN X0 hx lk hret (by simp) (hb hby d6_49) (by decide) (by decide) ?_
      rw [e0]
      have o0 : (0 : Int32).toInt = 0 := rfl
      have o1 : (1 : Int32).toInt = 1 := rfl
      have o2 : (2 : Int32).toInt = 2 := rfl
      have o3 : (3 : Int32).toInt = 3 := rfl
      rw [Int32.lt_iff_toInt_lt] at c1
      exact ⟨_, rfl, Or.inl ⟨rfl, 0, by omega, c7⟩, N0, rfl⟩
    · refine own_icmpNo (n := 10) X0 hx (hb hby d6_7) (Jvm.Free.XT.ii_eq_f c7) rfl ?_
      refine own_iloadN (n := 11) X0 hx (hb hby d6_10) rfl rfl ?_
      refine own_iconst (n := 12) X0 hx (1 : Int32) (hb hby d6_11) rfl rfl ?_
      by_cases c12 : (1 : Int32) < p1
      · refine own_icmpNo (n := 15) X0 hx (hb hby d6_12) (Jvm.Free.XT.ii_le_f c12) rfl ?_
        refine own_iloadN (n := 16) X0 hx (hb hby d6_15) rfl rfl ?_
        refine own_iload (n := 18) X0 hx (hb hby d6_16) rfl rfl ?_
        by_cases c18 : p3 = p6
        · refine own_icmpYes (n := 44) X0 hx (hb hby d6_18) (Jvm.Free.XT.ii_eq_t c18) (by decide) (by decide) ?_
          refine own_iconst (n := 45) X0 hx (1 : Int32) (hb hby d6_44) rfl rfl ?_
          refine own_goto (n := 49) X0 hx (hb hby d6_45) (by decide) (by decide) ?_
          refine own_retN X0 hx lk hret (by simp) (hb hby d6_49) (by decide) (by decide) ?_
          rw [e0]
          have o0 : (0 : Int32).toInt = 0 := rfl
          have o1 : (1 : Int32).toInt = 1 := rfl
          have o2 : (2 : Int32).toInt = 2 := rfl
          have o3 : (3 : Int32).toInt = 3 := rfl
          rw [Int32.lt_iff_toInt_lt] at c1
          rw [Int32.lt_iff_toInt_lt] at c12
          exact ⟨_, rfl, Or.inl ⟨rfl, 1, by omega, c18⟩, N0, rfl⟩
        · refine own_icmpNo (n := 21) X0 hx (hb hby d6_18) (Jvm.Free.XT.ii_eq_f c18) rfl ?_
          refine own_iloadN (n := 22) X0 hx (hb hby d6_21) rfl rfl ?_
          refine own_iconst (n := 23) X0 hx (2 : Int32) (hb hby d6_22) rfl rfl ?_
          by_cases c23 : (2 : Int32) < p1
          · refine own_icmpNo (n := 26) X0 hx (hb hby d6_23) (Jvm.Free.XT.ii_le_f c23) rfl ?_
            refine own_iloadN (n := 27) X0 hx (hb hby d6_26) rfl rfl ?_
            refine own_iload (n := 29) X0 hx (hb hby d6_27) rfl rfl ?_
            by_cases c29 : p4 = p6
            · refine own_icmpYes (n := 44) X0 hx (hb hby d6_29) (Jvm.Free.XT.ii_eq_t c29) (by decide) (by decide) ?_
              refine own_iconst (n := 45) X0 hx (1 : Int32) (hb hby d6_44) rfl rfl ?_
              refine own_goto (n := 49) X0 hx (hb hby d6_45) (by decide) (by decide) ?_
              refine own_retN X0 hx lk hret (by simp) (hb hby d6_49) (by decide) (by decide) ?_
              rw [e0]
              have o0 : (0 : Int32).toInt = 0 := rfl
              have o1 : (1 : Int32).toInt = 1 := rfl
              have o2 : (2 : Int32).toInt = 2 := rfl
              have o3 : (3 : Int32).toInt = 3 := rfl
              rw [Int32.lt_iff_toInt_lt] at c1
              rw [Int32.lt_iff_toInt_lt] at c12
              rw [Int32.lt_iff_toInt_lt] at c23
              exact ⟨_, rfl, Or.inl ⟨rfl, 2, by omega, c29⟩, N0, rfl⟩
            · refine own_icmpNo (n := 32) X0 hx (hb hby d6_29) (Jvm.Free.XT.ii_eq_f c29) rfl ?_
              refine own_iloadN (n := 33) X0 hx (hb hby d6_32) rfl rfl ?_
              refine own_iconst (n := 34) X0 hx (3 : Int32) (hb hby d6_33) rfl rfl ?_
              by_cases c34 : (3 : Int32) < p1
              · refine own_icmpNo (n := 37) X0 hx (hb hby d6_34) (Jvm.Free.XT.ii_le_f c34) rfl ?_
                refine own_iload (n := 39) X0 hx (hb hby d6_37) rfl rfl ?_
                refine own_iload (n := 41) X0 hx (hb hby d6_39) rfl rfl ?_
                by_cases c41 : p5 = p6
                · refine own_icmpNo (n := 44) X0 hx (hb hby d6_41) (Jvm.Free.XT.ii_ne_f c41) rfl ?_
                  refine own_iconst (n := 45) X0 hx (1 : Int32) (hb hby d6_44) rfl rfl ?_
                  refine own_goto (n := 49) X0 hx (hb hby d6_45) (by decide) (by decide) ?_
                  refine own_retN X0 hx lk hret (by simp) (hb hby d6_49) (by decide) (by decide) ?_
                  rw [e0]
                  have o0 : (0 : Int32).toInt = 0 := rfl
                  have o1 : (1 : Int32).toInt = 1 := rfl
                  have o2 : (2 : Int32).toInt = 2 := rfl
                  have o3 : (3 : Int32).toInt = 3 := rfl
                  rw [Int32.lt_iff_toInt_lt] at c1
                  rw [Int32.lt_iff_toInt_lt] at c12
                  rw [Int32.lt_iff_toInt_lt] at c23
                  rw [Int32.lt_iff_toInt_lt] at c34
                  exact ⟨_, rfl, Or.inl ⟨rfl, 3, by omega, c41⟩, N0, rfl⟩
                · refine own_icmpYes (n := 48) X0 hx (hb hby d6_41) (Jvm.Free.XT.ii_ne_t c41) (by decide) (by decide) ?_
                  refine own_iconst (n := 49) X0 hx (0 : Int32) (hb hby d6_48) rfl rfl ?_
                  refine own_retN X0 hx lk hret (by simp) (hb hby d6_49) (by decide) (by decide) ?_
                  rw [e0]
                  have o0 : (0 : Int32).toInt = 0 := rfl
                  have o1 : (1 : Int32).toInt = 1 := rfl
                  have o2 : (2 : Int32).toInt = 2 := rfl
                  have o3 : (3 : Int32).toInt = 3 := rfl
                  rw [Int32.lt_iff_toInt_lt] at c1
                  rw [Int32.lt_iff_toInt_lt] at c12
                  rw [Int32.lt_iff_toInt_lt] at c23
                  rw [Int32.lt_iff_toInt_lt] at c34
                  refine ⟨_, rfl, Or.inr ⟨rfl, ?_⟩, N0, rfl⟩
                  rintro ⟨j, hj, e⟩
                  rcases j with _ | _ | _ | _ | j <;> first | omega | exact c7 e | exact c18 e | exact c29 e | exact c41 e
              · refine own_icmpYes (n := 48) X0 hx (hb hby d6_34) (Jvm.Free.XT.ii_le_t c34) (by decide) (by decide) ?_
                refine own_iconst (n := 49) X0 hx (0 : Int32) (hb hby d6_48) rfl rfl ?_
                refine own_retN X0 hx lk hret (by simp) (hb hby d6_49) (by decide) (by decide) ?_
                rw [e0]
                have o0 : (0 : Int32).toInt = 0 := rfl
                have o1 : (1 : Int32).toInt = 1 := rfl
                have o2 : (2 : Int32).toInt = 2 := rfl
                have o3 : (3 : Int32).toInt = 3 := rfl
                rw [Int32.lt_iff_toInt_lt] at c1
                rw [Int32.lt_iff_toInt_lt] at c12
                rw [Int32.lt_iff_toInt_lt] at c23
                rw [Int32.lt_iff_toInt_lt] at c34
                refine ⟨_, rfl, Or.inr ⟨rfl, ?_⟩, N0, rfl⟩
                rintro ⟨j, hj, e⟩
                rcases j with _ | _ | _ | _ | j <;> first | omega | exact c7 e | exact c18 e | exact c29 e
          · refine own_icmpYes (n := 32) X0 hx (hb hby d6_23) (Jvm.Free.XT.ii_le_t c23) (by decide) (by decide) ?_
            refine own_iloadN (n := 33) X0 hx (hb hby d6_32) rfl rfl ?_
            refine own_iconst (n := 34) X0 hx (3 : Int32) (hb hby d6_33) rfl rfl ?_
            by_cases c34 : (3 : Int32) < p1
            · refine own_icmpNo (n := 37) X0 hx (hb hby d6_34) (Jvm.Free.XT.ii_le_f c34) rfl ?_
              refine own_iload (n := 39) X0 hx (hb hby d6_37) rfl rfl ?_
              refine own_iload (n := 41) X0 hx (hb hby d6_39) rfl rfl ?_
              by_cases c41 : p5 = p6
              · refine own_icmpNo (n := 44) X0 hx (hb hby d6_41) (Jvm.Free.XT.ii_ne_f c41) rfl ?_
                refine own_iconst (n := 45) X0 hx (1 : Int32) (hb hby d6_44) rfl rfl ?_
                refine own_goto (n := 49) X0 hx (hb hby d6_45) (by decide) (by decide) ?_
                refine own_retN X0 hx lk hret (by simp) (hb hby d6_49) (by decide) (by decide) ?_
                rw [e0]
                have o0 : (0 : Int32).toInt = 0 := rfl
                have o1 : (1 : Int32).toInt = 1 := rfl
                have o2 : (2 : Int32).toInt = 2 := rfl
                have o3 : (3 : Int32).toInt = 3 := rfl
                rw [Int32.lt_iff_toInt_lt] at c1
                rw [Int32.lt_iff_toInt_lt] at c12
                rw [Int32.lt_iff_toInt_lt] at c23
                rw [Int32.lt_iff_toInt_lt] at c34
                exact ⟨_, rfl, Or.inl ⟨rfl, 3, by omega, c41⟩, N0, rfl⟩
              · refine own_icmpYes (n := 48) X0 hx (hb hby d6_41) (Jvm.Free.XT.ii_ne_t c41) (by decide) (by decide) ?_
                refine own_iconst (n := 49) X0 hx (0 : Int32) (hb hby d6_48) rfl rfl ?_
                refine own_retN X0 hx lk hret (by simp) (hb hby d6_49) (by decide) (by decide) ?_
                rw [e0]
                have o0 : (0 : Int32).toInt = 0 := rfl
                have o1 : (1 : Int32).toInt = 1 := rfl
                have o2 : (2 : Int32).toInt = 2 := rfl
                have o3 : (3 : Int32).toInt = 3 := rfl
                rw [Int32.lt_iff_toInt_lt] at c1
                rw [Int32.lt_iff_toInt_lt] at c12
                rw [Int32.lt_iff_toInt_lt] at c23
                rw [Int32.lt_iff_toInt_lt] at c34
                refine ⟨_, rfl, Or.inr ⟨rfl, ?_⟩, N0, rfl⟩
                rintro ⟨j, hj, e⟩
                rcases j with _ | _ | _ | _ | j <;> first | omega | exact c7 e | exact c18 e | exact c41 e
            · refine own_icmpYes (n := 48) X0 hx (hb hby d6_34) (Jvm.Free.XT.ii_le_t c34) (by decide) (by decide) ?_
              refine own_iconst (n := 49) X0 hx (0 : Int32) (hb hby d6_48) rfl rfl ?_
              refine own_retN X0 hx lk hret (by simp) (hb hby d6_49) (by decide) (by decide) ?_
              rw [e0]
              have o0 : (0 : Int32).toInt = 0 := rfl
              have o1 : (1 : Int32).toInt = 1 := rfl
              have o2 : (2 : Int32).toInt = 2 := rfl
              have o3 : (3 : Int32).toInt = 3 := rfl
              rw [Int32.lt_iff_toInt_lt] at c1
              rw [Int32.lt_iff_toInt_lt] at c12
              rw [Int32.lt_iff_toInt_lt] at c23
              rw [Int32.lt_iff_toInt_lt] at c34
              refine ⟨_, rfl, Or.inr ⟨rfl, ?_⟩, N0, rfl⟩
              rintro ⟨j, hj, e⟩
              rcases j with _ | _ | _ | _ | j <;> first | omega | exact c7 e | exact c18 e
      · refine own_icmpYes (n := 21) X0 hx (hb hby d6_12) (Jvm.Free.XT.ii_le_t c12) (by decide) (by decide) ?_
        refine own_iloadN (n := 22) X0 hx (hb hby d6_21) rfl rfl ?_
        refine own_iconst (n := 23) X0 hx (2 : Int32) (hb hby d6_22) rfl rfl ?_
        by_cases c23 : (2 : Int32) < p1
        · refine own_icmpNo (n := 26) X0 hx (hb hby d6_23) (Jvm.Free.XT.ii_le_f c23) rfl ?_
          refine own_iloadN (n := 27) X0 hx (hb hby d6_26) rfl rfl ?_
          refine own_iload (n := 29) X0 hx (hb hby d6_27) rfl rfl ?_
          by_cases c29 : p4 = p6
          · refine own_icmpYes (n := 44) X0 hx (hb hby d6_29) (Jvm.Free.XT.ii_eq_t c29) (by decide) (by decide) ?_
            refine own_iconst (n := 45) X0 hx (1 : Int32) (hb hby d6_44) rfl rfl ?_
            refine own_goto (n := 49) X0 hx (hb hby d6_45) (by decide) (by decide) ?_
            refine own_retN X0 hx lk hret (by simp) (hb hby d6_49) (by decide) (by decide) ?_
            rw [e0]
            have o0 : (0 : Int32).toInt = 0 := rfl
            have o1 : (1 : Int32).toInt = 1 := rfl
            have o2 : (2 : Int32).toInt = 2 := rfl
            have o3 : (3 : Int32).toInt = 3 := rfl
            rw [Int32.lt_iff_toInt_lt] at c1
            rw [Int32.lt_iff_toInt_lt] at c12
            rw [Int32.lt_iff_toInt_lt] at c23
            exact ⟨_, rfl, Or.inl ⟨rfl, 2, by omega, c29⟩, N0, rfl⟩
          · refine own_icmpNo (n := 32) X0 hx (hb hby d6_29) (Jvm.Free.XT.ii_eq_f c29) rfl ?_
            refine own_iloadN (n := 33) X0 hx (hb hby d6_32) rfl rfl ?_
            refine own_iconst (n := 34) X0 hx (3 : Int32) (hb hby d6_33) rfl rfl ?_
            by_cases c34 : (3 : Int32) < p1
            · refine own_icmpNo (n := 37) X0 hx (hb hby d6_34) (Jvm.Free.XT.ii_le_f c34) rfl ?_
              refine own_iload (n := 39) X0 hx (hb hby d6_37) rfl rfl ?_
              refine own_iload (n := 41) X0 hx (hb hby d6_39) rfl rfl ?_
              by_cases c41 : p5 = p6
              · refine own_icmpNo (n := 44) X0 hx (hb hby d6_41) (Jvm.Free.XT.ii_ne_f c41) rfl ?_
                refine own_iconst (n := 45) X0 hx (1 : Int32) (hb hby d6_44) rfl rfl ?_
                refine own_goto (n := 49) X0 hx (hb hby d6_45) (by decide) (by decide) ?_
                refine own_retN X0 hx lk hret (by simp) (hb hby d6_49) (by decide) (by decide) ?_
                rw [e0]
                have o0 : (0 : Int32).toInt = 0 := rfl
                have o1 : (1 : Int32).toInt = 1 := rfl
                have o2 : (2 : Int32).toInt = 2 := rfl
                have o3 : (3 : Int32).toInt = 3 := rfl
                rw [Int32.lt_iff_toInt_lt] at c1
                rw [Int32.lt_iff_toInt_lt] at c12
                rw [Int32.lt_iff_toInt_lt] at c23
                rw [Int32.lt_iff_toInt_lt] at c34
                exact ⟨_, rfl, Or.inl ⟨rfl, 3, by omega, c41⟩, N0, rfl⟩
              · refine own_icmpYes (n := 48) X0 hx (hb hby d6_41) (Jvm.Free.XT.ii_ne_t c41) (by decide) (by decide) ?_
                refine own_iconst (n := 49) X0 hx (0 : Int32) (hb hby d6_48) rfl rfl ?_
                refine own_retN X0 hx lk hret (by simp) (hb hby d6_49) (by decide) (by decide) ?_
                rw [e0]
                have o0 : (0 : Int32).toInt = 0 := rfl
                have o1 : (1 : Int32).toInt = 1 := rfl
                have o2 : (2 : Int32).toInt = 2 := rfl
                have o3 : (3 : Int32).toInt = 3 := rfl
                rw [Int32.lt_iff_toInt_lt] at c1
                rw [Int32.lt_iff_toInt_lt] at c12
                rw [Int32.lt_iff_toInt_lt] at c23
                rw [Int32.lt_iff_toInt_lt] at c34
                refine ⟨_, rfl, Or.inr ⟨rfl, ?_⟩, N0, rfl⟩
                rintro ⟨j, hj, e⟩
                rcases j with _ | _ | _ | _ | j <;> first | omega | exact c7 e | exact c29 e | exact c41 e
            · refine own_icmpYes (n := 48) X0 hx (hb hby d6_34) (Jvm.Free.XT.ii_le_t c34) (by decide) (by decide) ?_
              refine own_iconst (n := 49) X0 hx (0 : Int32) (hb hby d6_48) rfl rfl ?_
              refine own_retN X0 hx lk hret (by simp) (hb hby d6_49) (by decide) (by decide) ?_
              rw [e0]
              have o0 : (0 : Int32).toInt = 0 := rfl
              have o1 : (1 : Int32).toInt = 1 := rfl
              have o2 : (2 : Int32).toInt = 2 := rfl
              have o3 : (3 : Int32).toInt = 3 := rfl
              rw [Int32.lt_iff_toInt_lt] at c1
              rw [Int32.lt_iff_toInt_lt] at c12
              rw [Int32.lt_iff_toInt_lt] at c23
              rw [Int32.lt_iff_toInt_lt] at c34
              refine ⟨_, rfl, Or.inr ⟨rfl, ?_⟩, N0, rfl⟩
              rintro ⟨j, hj, e⟩
              rcases j with _ | _ | _ | _ | j <;> first | omega | exact c7 e | exact c29 e
        · refine own_icmpYes (n := 32) X0 hx (hb hby d6_23) (Jvm.Free.XT.ii_le_t c23) (by decide) (by decide) ?_
          refine own_iloadN (n := 33) X0 hx (hb hby d6_32) rfl rfl ?_
          refine own_iconst (n := 34) X0 hx (3 : Int32) (hb hby d6_33) rfl rfl ?_
          by_cases c34 : (3 : Int32) < p1
          · refine own_icmpNo (n := 37) X0 hx (hb hby d6_34) (Jvm.Free.XT.ii_le_f c34) rfl ?_
            refine own_iload (n := 39) X0 hx (hb hby d6_37) rfl rfl ?_
            refine own_iload (n := 41) X0 hx (hb hby d6_39) rfl rfl ?_
            by_cases c41 : p5 = p6
            · refine own_icmpNo (n := 44) X0 hx (hb hby d6_41) (Jvm.Free.XT.ii_ne_f c41) rfl ?_
              refine own_iconst (n := 45) X0 hx (1 : Int32) (hb hby d6_44) rfl rfl ?_
              refine own_goto (n := 49) X0 hx (hb hby d6_45) (by decide) (by decide) ?_
              refine own_retN X0 hx lk hret (by simp) (hb hby d6_49) (by decide) (by decide) ?_
              rw [e0]
              have o0 : (0 : Int32).toInt = 0 := rfl
              have o1 : (1 : Int32).toInt = 1 := rfl
              have o2 : (2 : Int32).toInt = 2 := rfl
              have o3 : (3 : Int32).toInt = 3 := rfl
              rw [Int32.lt_iff_toInt_lt] at c1
              rw [Int32.lt_iff_toInt_lt] at c12
              rw [Int32.lt_iff_toInt_lt] at c23
              rw [Int32.lt_iff_toInt_lt] at c34
              exact ⟨_, rfl, Or.inl ⟨rfl, 3, by omega, c41⟩, N0, rfl⟩
            · refine own_icmpYes (n := 48) X0 hx (hb hby d6_41) (Jvm.Free.XT.ii_ne_t c41) (by decide) (by decide) ?_
              refine own_iconst (n := 49) X0 hx (0 : Int32) (hb hby d6_48) rfl rfl ?_
              refine own_retN X0 hx lk hret (by simp) (hb hby d6_49) (by decide) (by decide) ?_
              rw [e0]
              have o0 : (0 : Int32).toInt = 0 := rfl
              have o1 : (1 : Int32).toInt = 1 := rfl
              have o2 : (2 : Int32).toInt = 2 := rfl
              have o3 : (3 : Int32).toInt = 3 := rfl
              rw [Int32.lt_iff_toInt_lt] at c1
              rw [Int32.lt_iff_toInt_lt] at c12
              rw [Int32.lt_iff_toInt_lt] at c23
              rw [Int32.lt_iff_toInt_lt] at c34
              refine ⟨_, rfl, Or.inr ⟨rfl, ?_⟩, N0, rfl⟩
              rintro ⟨j, hj, e⟩
              rcases j with _ | _ | _ | _ | j <;> first | omega | exact c7 e | exact c41 e
          · refine own_icmpYes (n := 48) X0 hx (hb hby d6_34) (Jvm.Free.XT.ii_le_t c34) (by decide) (by decide) ?_
            refine own_iconst (n := 49) X0 hx (0 : Int32) (hb hby d6_48) rfl rfl ?_
            refine own_retN X0 hx lk hret (by simp) (hb hby d6_49) (by decide) (by decide) ?_
            rw [e0]
            have o0 : (0 : Int32).toInt = 0 := rfl
            have o1 : (1 : Int32).toInt = 1 := rfl
            have o2 : (2 : Int32).toInt = 2 := rfl
            have o3 : (3 : Int32).toInt = 3 := rfl
            rw [Int32.lt_iff_toInt_lt] at c1
            rw [Int32.lt_iff_toInt_lt] at c12
            rw [Int32.lt_iff_toInt_lt] at c23
            rw [Int32.lt_iff_toInt_lt] at c34
            refine ⟨_, rfl, Or.inr ⟨rfl, ?_⟩, N0, rfl⟩
            rintro ⟨j, hj, e⟩
            rcases j with _ | _ | _ | _ | j <;> first | omega | exact c7 e
  · refine own_ifYes (n := 10) X0 hx (hb hby d6_1) (Jvm.Free.XT.i0_le_t c1) (by decide) (by decide) ?_
    refine own_iloadN (n := 11) X0 hx (hb hby d6_10) rfl rfl ?_
    refine own_iconst (n := 12) X0 hx (1 : Int32) (hb hby d6_11) rfl rfl ?_
    by_cases c12 : (1 : Int32) < p1
    · refine own_icmpNo (n := 15) X0 hx (hb hby d6_12) (Jvm.Free.XT.ii_le_f c12) rfl ?_
      refine own_iloadN (n := 16) X0 hx (hb hby d6_15) rfl rfl ?_
      refine own_iload (n := 18) X0 hx (hb hby d6_16) rfl rfl ?_
      by_cases c18 : p3 = p6
      · refine own_icmpYes (n := 44) X0 hx (hb hby d6_18) (Jvm.Free.XT.ii_eq_t c18) (by decide) (by decide) ?_
        refine own_iconst (n := 45) X0 hx (1 : Int32) (hb hby d6_44) rfl rfl ?_
        refine own_goto (n := 49) X0 hx (hb hby d6_45) (by decide) (by decide) ?_
        refine own_retN X0 hx lk hret (by simp) (hb hby d6_49) (by decide) (by decide) ?_
        rw [e0]
        have o0 : (0 : Int32).toInt = 0 := rfl
        have o1 : (1 : Int32).toInt = 1 := rfl
        have o2 : (2 : Int32).toInt = 2 := rfl
        have o3 : (3 : Int32).toInt = 3 := rfl
        rw [Int32.lt_iff_toInt_lt] at c1
        rw [Int32.lt_iff_toInt_lt] at c12
        exact ⟨_, rfl, Or.inl ⟨rfl, 1, by omega, c18⟩, N0, rfl⟩
      · refine own_icmpNo (n := 21) X0 hx (hb hby d6_18) (Jvm.Free.XT.ii_eq_f c18) rfl ?_
        refine own_iloadN (n := 22) X0 hx (hb hby d6_21) rfl rfl ?_
        refine own_iconst (n := 23) X0 hx (2 : Int32) (hb hby d6_22) rfl rfl ?_
        by_cases c23 : (2 : Int32) < p1
        · refine own_icmpNo (n := 26) X0 hx (hb hby d6_23) (Jvm.Free.XT.ii_le_f c23) rfl ?_
          refine own_iloadN (n := 27) X0 hx (hb hby d6_26) rfl rfl ?_
          refine own_iload (n := 29) X0 hx (hb hby d6_27) rfl rfl ?_
          by_cases c29 : p4 = p6
          · refine own_icmpYes (n := 44) X0 hx (hb hby d6_29) (Jvm.Free.XT.ii_eq_t c29) (by decide) (by decide) ?_
            refine own_iconst (n := 45) X0 hx (1 : Int32) (hb hby d6_44) rfl rfl ?_
            refine own_goto (n := 49) X0 hx (hb hby d6_45) (by decide) (by decide) ?_
            refine own_retN X0 hx lk hret (by simp) (hb hby d6_49) (by decide) (by decide) ?_
            rw [e0]
            have o0 : (0 : Int32).toInt = 0 := rfl
            have o1 : (1 : Int32).toInt = 1 := rfl
            have o2 : (2 : Int32).toInt = 2 := rfl
            have o3 : (3 : Int32).toInt = 3 := rfl
            rw [Int32.lt_iff_toInt_lt] at c1
            rw [Int32.lt_iff_toInt_lt] at c12
            rw [Int32.lt_iff_toInt_lt] at c23
            exact ⟨_, rfl, Or.inl ⟨rfl, 2, by omega, c29⟩, N0, rfl⟩
          · refine own_icmpNo (n := 32) X0 hx (hb hby d6_29) (Jvm.Free.XT.ii_eq_f c29) rfl ?_
            refine own_iloadN (n := 33) X0 hx (hb hby d6_32) rfl rfl ?_
            refine own_iconst (n := 34) X0 hx (3 : Int32) (hb hby d6_33) rfl rfl ?_
            by_cases c34 : (3 : Int32) < p1
            · refine own_icmpNo (n := 37) X0 hx (hb hby d6_34) (Jvm.Free.XT.ii_le_f c34) rfl ?_
              refine own_iload (n := 39) X0 hx (hb hby d6_37) rfl rfl ?_
              refine own_iload (n := 41) X0 hx (hb hby d6_39) rfl rfl ?_
              by_cases c41 : p5 = p6
              · refine own_icmpNo (n := 44) X0 hx (hb hby d6_41) (Jvm.Free.XT.ii_ne_f c41) rfl ?_
                refine own_iconst (n := 45) X0 hx (1 : Int32) (hb hby d6_44) rfl rfl ?_
                refine own_goto (n := 49) X0 hx (hb hby d6_45) (by decide) (by decide) ?_
                refine own_retN X0 hx lk hret (by simp) (hb hby d6_49) (by decide) (by decide) ?_
                rw [e0]
                have o0 : (0 : Int32).toInt = 0 := rfl
                have o1 : (1 : Int32).toInt = 1 := rfl
                have o2 : (2 : Int32).toInt = 2 := rfl
                have o3 : (3 : Int32).toInt = 3 := rfl
                rw [Int32.lt_iff_toInt_lt] at c1
                rw [Int32.lt_iff_toInt_lt] at c12
                rw [Int32.lt_iff_toInt_lt] at c23
                rw [Int32.lt_iff_toInt_lt] at c34
                exact ⟨_, rfl, Or.inl ⟨rfl, 3, by omega, c41⟩, N0, rfl⟩
              · refine own_icmpYes (n := 48) X0 hx (hb hby d6_41) (Jvm.Free.XT.ii_ne_t c41) (by decide) (by decide) ?_
                refine own_iconst (n := 49) X0 hx (0 : Int32) (hb hby d6_48) rfl rfl ?_
                refine own_retN X0 hx lk hret (by simp) (hb hby d6_49) (by decide) (by decide) ?_
                rw [e0]
                have o0 : (0 : Int32).toInt = 0 := rfl
                have o1 : (1 : Int32).toInt = 1 := rfl
                have o2 : (2 : Int32).toInt = 2 := rfl
                have o3 : (3 : Int32).toInt = 3 := rfl
                rw [Int32.lt_iff_toInt_lt] at c1
                rw [Int32.lt_iff_toInt_lt] at c12
                rw [Int32.lt_iff_toInt_lt] at c23
                rw [Int32.lt_iff_toInt_lt] at c34
                refine ⟨_, rfl, Or.inr ⟨rfl, ?_⟩, N0, rfl⟩
                rintro ⟨j, hj, e⟩
                rcases j with _ | _ | _ | _ | j <;> first | omega | exact c18 e | exact c29 e | exact c41 e
            · refine own_icmpYes (n := 48) X0 hx (hb hby d6_34) (Jvm.Free.XT.ii_le_t c34) (by decide) (by decide) ?_
              refine own_iconst (n := 49) X0 hx (0 : Int32) (hb hby d6_48) rfl rfl ?_
              refine own_retN X0 hx lk hret (by simp) (hb hby d6_49) (by decide) (by decide) ?_
              rw [e0]
              have o0 : (0 : Int32).toInt = 0 := rfl
              have o1 : (1 : Int32).toInt = 1 := rfl
              have o2 : (2 : Int32).toInt = 2 := rfl
              have o3 : (3 : Int32).toInt = 3 := rfl
              rw [Int32.lt_iff_toInt_lt] at c1
              rw [Int32.lt_iff_toInt_lt] at c12
              rw [Int32.lt_iff_toInt_lt] at c23
              rw [Int32.lt_iff_toInt_lt] at c34
              refine ⟨_, rfl, Or.inr ⟨rfl, ?_⟩, N0, rfl⟩
              rintro ⟨j, hj, e⟩
              rcases j with _ | _ | _ | _ | j <;> first | omega | exact c18 e | exact c29 e
        · refine own_icmpYes (n := 32) X0 hx (hb hby d6_23) (Jvm.Free.XT.ii_le_t c23) (by decide) (by decide) ?_
          refine own_iloadN (n := 33) X0 hx (hb hby d6_32) rfl rfl ?_
          refine own_iconst (n := 34) X0 hx (3 : Int32) (hb hby d6_33) rfl rfl ?_
          by_cases c34 : (3 : Int32) < p1
          · refine own_icmpNo (n := 37) X0 hx (hb hby d6_34) (Jvm.Free.XT.ii_le_f c34) rfl ?_
            refine own_iload (n := 39) X0 hx (hb hby d6_37) rfl rfl ?_
            refine own_iload (n := 41) X0 hx (hb hby d6_39) rfl rfl ?_
            by_cases c41 : p5 = p6
            · refine own_icmpNo (n := 44) X0 hx (hb hby d6_41) (Jvm.Free.XT.ii_ne_f c41) rfl ?_
              refine own_iconst (n := 45) X0 hx (1 : Int32) (hb hby d6_44) rfl rfl ?_
              refine own_goto (n := 49) X0 hx (hb hby d6_45) (by decide) (by decide) ?_
              refine own_retN X0 hx lk hret (by simp) (hb hby d6_49) (by decide) (by decide) ?_
              rw [e0]
              have o0 : (0 : Int32).toInt = 0 := rfl
              have o1 : (1 : Int32).toInt = 1 := rfl
              have o2 : (2 : Int32).toInt = 2 := rfl
              have o3 : (3 : Int32).toInt = 3 := rfl
              rw [Int32.lt_iff_toInt_lt] at c1
              rw [Int32.lt_iff_toInt_lt] at c12
              rw [Int32.lt_iff_toInt_lt] at c23
              rw [Int32.lt_iff_toInt_lt] at c34
              exact ⟨_, rfl, Or.inl ⟨rfl, 3, by omega, c41⟩, N0, rfl⟩
            · refine own_icmpYes (n := 48) X0 hx (hb hby d6_41) (Jvm.Free.XT.ii_ne_t c41) (by decide) (by decide) ?_
              refine own_iconst (n := 49) X0 hx (0 : Int32) (hb hby d6_48) rfl rfl ?_
              refine own_retN X0 hx lk hret (by simp) (hb hby d6_49) (by decide) (by decide) ?_
              rw [e0]
              have o0 : (0 : Int32).toInt = 0 := rfl
              have o1 : (1 : Int32).toInt = 1 := rfl
              have o2 : (2 : Int32).toInt = 2 := rfl
              have o3 : (3 : Int32).toInt = 3 := rfl
              rw [Int32.lt_iff_toInt_lt] at c1
              rw [Int32.lt_iff_toInt_lt] at c12
              rw [Int32.lt_iff_toInt_lt] at c23
              rw [Int32.lt_iff_toInt_lt] at c34
              refine ⟨_, rfl, Or.inr ⟨rfl, ?_⟩, N0, rfl⟩
              rintro ⟨j, hj, e⟩
              rcases j with _ | _ | _ | _ | j <;> first | omega | exact c18 e | exact c41 e
          · refine own_icmpYes (n := 48) X0 hx (hb hby d6_34) (Jvm.Free.XT.ii_le_t c34) (by decide) (by decide) ?_
            refine own_iconst (n := 49) X0 hx (0 : Int32) (hb hby d6_48) rfl rfl ?_
            refine own_retN X0 hx lk hret (by simp) (hb hby d6_49) (by decide) (by decide) ?_
            rw [e0]
            have o0 : (0 : Int32).toInt = 0 := rfl
            have o1 : (1 : Int32).toInt = 1 := rfl
            have o2 : (2 : Int32).toInt = 2 := rfl
            have o3 : (3 : Int32).toInt = 3 := rfl
            rw [Int32.lt_iff_toInt_lt] at c1
            rw [Int32.lt_iff_toInt_lt] at c12
            rw [Int32.lt_iff_toInt_lt] at c23
            rw [Int32.lt_iff_toInt_lt] at c34
            refine ⟨_, rfl, Or.inr ⟨rfl, ?_⟩, N0, rfl⟩
            rintro ⟨j, hj, e⟩
            rcases j with _ | _ | _ | _ | j <;> first | omega | exact c18 e
    · refine own_icmpYes (n := 21) X0 hx (hb hby d6_12) (Jvm.Free.XT.ii_le_t c12) (by decide) (by decide) ?_
      refine own_iloadN (n := 22) X0 hx (hb hby d6_21) rfl rfl ?_
      refine own_iconst (n := 23) X0 hx (2 : Int32) (hb hby d6_22) rfl rfl ?_
      by_cases c23 : (2 : Int32) < p1
      · refine own_icmpNo (n := 26) X0 hx (hb hby d6_23) (Jvm.Free.XT.ii_le_f c23) rfl ?_
        refine own_iloadN (n := 27) X0 hx (hb hby d6_26) rfl rfl ?_
        refine own_iload (n := 29) X0 hx (hb hby d6_27) rfl rfl ?_
        by_cases c29 : p4 = p6
        · refine own_icmpYes (n := 44) X0 hx (hb hby d6_29) (Jvm.Free.XT.ii_eq_t c29) (by decide) (by decide) ?_
          refine own_iconst (n := 45) X0 hx (1 : Int32) (hb hby d6_44) rfl rfl ?_
          refine own_goto (n := 49) X0 hx (hb hby d6_45) (by decide) (by decide) ?_
          refine own_retN X0 hx lk hret (by simp) (hb hby d6_49) (by decide) (by decide) ?_
          rw [e0]
          have o0 : (0 : Int32).toInt = 0 := rfl
          have o1 : (1 : Int32).toInt = 1 := rfl
          have o2 : (2 : Int32).toInt = 2 := rfl
          have o3 : (3 : Int32).toInt = 3 := rfl
          rw [Int32.lt_iff_toInt_lt] at c1
          rw [Int32.lt_iff_toInt_lt] at c12
          rw [Int32.lt_iff_toInt_lt] at c23
          exact ⟨_, rfl, Or.inl ⟨rfl, 2, by omega, c29⟩, N0, rfl⟩
        · refine own_icmpNo (n := 32) X0 hx (hb hby d6_29) (Jvm.Free.XT.ii_eq_f c29) rfl ?_
          refine own_iloadN (n := 33) X0 hx (hb hby d6_32) rfl rfl ?_
          refine own_iconst (n := 34) X0 hx (3 : Int32) (hb hby d6_33) rfl rfl ?_
          by_cases c34 : (3 : Int32) < p1
          · refine own_icmpNo (n := 37) X0 hx (hb hby d6_34) (Jvm.Free.XT.ii_le_f c34) rfl ?_
            refine own_iload (n := 39) X0 hx (hb hby d6_37) rfl rfl ?_
            refine own_iload (n := 41) X0 hx (hb hby d6_39) rfl rfl ?_
            by_cases c41 : p5 = p6
            · refine own_icmpNo (n := 44) X0 hx (hb hby d6_41) (Jvm.Free.XT.ii_ne_f c41) rfl ?_
              refine own_iconst (n := 45) X0 hx (1 : Int32) (hb hby d6_44) rfl rfl ?_
              refine own_goto (n := 49) X0 hx (hb hby d6_45) (by decide) (by decide) ?_
              refine own_retN X0 hx lk hret (by simp) (hb hby d6_49) (by decide) (by decide) ?_
              rw [e0]
              have o0 : (0 : Int32).toInt = 0 := rfl
              have o1 : (1 : Int32).toInt = 1 := rfl
              have o2 : (2 : Int32).toInt = 2 := rfl
              have o3 : (3 : Int32).toInt = 3 := rfl
              rw [Int32.lt_iff_toInt_lt] at c1
              rw [Int32.lt_iff_toInt_lt] at c12
              rw [Int32.lt_iff_toInt_lt] at c23
              rw [Int32.lt_iff_toInt_lt] at c34
              exact ⟨_, rfl, Or.inl ⟨rfl, 3, by omega, c41⟩, N0, rfl⟩
            · refine own_icmpYes (n := 48) X0 hx (hb hby d6_41) (Jvm.Free.XT.ii_ne_t c41) (by decide) (by decide) ?_
              refine own_iconst (n := 49) X0 hx (0 : Int32) (hb hby d6_48) rfl rfl ?_
              refine own_retN X0 hx lk hret (by simp) (hb hby d6_49) (by decide) (by decide) ?_
              rw [e0]
              have o0 : (0 : Int32).toInt = 0 := rfl
              have o1 : (1 : Int32).toInt = 1 := rfl
              have o2 : (2 : Int32).toInt = 2 := rfl
              have o3 : (3 : Int32).toInt = 3 := rfl
              rw [Int32.lt_iff_toInt_lt] at c1
              rw [Int32.lt_iff_toInt_lt] at c12
              rw [Int32.lt_iff_toInt_lt] at c23
              rw [Int32.lt_iff_toInt_lt] at c34
              refine ⟨_, rfl, Or.inr ⟨rfl, ?_⟩, N0, rfl⟩
              rintro ⟨j, hj, e⟩
              rcases j with _ | _ | _ | _ | j <;> first | omega | exact c29 e | exact c41 e
          · refine own_icmpYes (n := 48) X0 hx (hb hby d6_34) (Jvm.Free.XT.ii_le_t c34) (by decide) (by decide) ?_
            refine own_iconst (n := 49) X0 hx (0 : Int32) (hb hby d6_48) rfl rfl ?_
            refine own_retN X0 hx lk hret (by simp) (hb hby d6_49) (by decide) (by decide) ?_
            rw [e0]
            have o0 : (0 : Int32).toInt = 0 := rfl
            have o1 : (1 : Int32).toInt = 1 := rfl
            have o2 : (2 : Int32).toInt = 2 := rfl
            have o3 : (3 : Int32).toInt = 3 := rfl
            rw [Int32.lt_iff_toInt_lt] at c1
            rw [Int32.lt_iff_toInt_lt] at c12
            rw [Int32.lt_iff_toInt_lt] at c23
            rw [Int32.lt_iff_toInt_lt] at c34
            refine ⟨_, rfl, Or.inr ⟨rfl, ?_⟩, N0, rfl⟩
            rintro ⟨j, hj, e⟩
            rcases j with _ | _ | _ | _ | j <;> first | omega | exact c29 e
      · refine own_icmpYes (n := 32) X0 hx (hb hby d6_23) (Jvm.Free.XT.ii_le_t c23) (by decide) (by decide) ?_
        refine own_iloadN (n := 33) X0 hx (hb hby d6_32) rfl rfl ?_
        refine own_iconst (n := 34) X0 hx (3 : Int32) (hb hby d6_33) rfl rfl ?_
        by_cases c34 : (3 : Int32) < p1
        · refine own_icmpNo (n := 37) X0 hx (hb hby d6_34) (Jvm.Free.XT.ii_le_f c34) rfl ?_
          refine own_iload (n := 39) X0 hx (hb hby d6_37) rfl rfl ?_
          refine own_iload (n := 41) X0 hx (hb hby d6_39) rfl rfl ?_
          by_cases c41 : p5 = p6
          · refine own_icmpNo (n := 44) X0 hx (hb hby d6_41) (Jvm.Free.XT.ii_ne_f c41) rfl ?_
            refine own_iconst (n := 45) X0 hx (1 : Int32) (hb hby d6_44) rfl rfl ?_
            refine own_goto (n := 49) X0 hx (hb hby d6_45) (by decide) (by decide) ?_
            refine own_retN X0 hx lk hret (by simp) (hb hby d6_49) (by decide) (by decide) ?_
            rw [e0]
            have o0 : (0 : Int32).toInt = 0 := rfl
            have o1 : (1 : Int32).toInt = 1 := rfl
            have o2 : (2 : Int32).toInt = 2 := rfl
            have o3 : (3 : Int32).toInt = 3 := rfl
            rw [Int32.lt_iff_toInt_lt] at c1
            rw [Int32.lt_iff_toInt_lt] at c12
            rw [Int32.lt_iff_toInt_lt] at c23
            rw [Int32.lt_iff_toInt_lt] at c34
            exact ⟨_, rfl, Or.inl ⟨rfl, 3, by omega, c41⟩, N0, rfl⟩
          · refine own_icmpYes (n := 48) X0 hx (hb hby d6_41) (Jvm.Free.XT.ii_ne_t c41) (by decide) (by decide) ?_
            refine own_iconst (n := 49) X0 hx (0 : Int32) (hb hby d6_48) rfl rfl ?_
            refine own_retN X0 hx lk hret (by simp) (hb hby d6_49) (by decide) (by decide) ?_
            rw [e0]
            have o0 : (0 : Int32).toInt = 0 := rfl
            have o1 : (1 : Int32).toInt = 1 := rfl
            have o2 : (2 : Int32).toInt = 2 := rfl
            have o3 : (3 : Int32).toInt = 3 := rfl
            rw [Int32.lt_iff_toInt_lt] at c1
            rw [Int32.lt_iff_toInt_lt] at c12
            rw [Int32.lt_iff_toInt_lt] at c23
            rw [Int32.lt_iff_toInt_lt] at c34
            refine ⟨_, rfl, Or.inr ⟨rfl, ?_⟩, N0, rfl⟩
            rintro ⟨j, hj, e⟩
            rcases j with _ | _ | _ | _ | j <;> first | omega | exact c41 e
        · refine own_icmpYes (n := 48) X0 hx (hb hby d6_34) (Jvm.Free.XT.ii_le_t c34) (by decide) (by decide) ?_
          refine own_iconst (n := 49) X0 hx (0 : Int32) (hb hby d6_48) rfl rfl ?_
          refine own_retN X0 hx lk hret (by simp) (hb hby d6_49) (by decide) (by decide) ?_
          rw [e0]
          have o0 : (0 : Int32).toInt = 0 := rfl
          have o1 : (1 : Int32).toInt = 1 := rfl
          have o2 : (2 : Int32).toInt = 2 := rfl
          have o3 : (3 : Int32).toInt = 3 := rfl
          rw [Int32.lt_iff_toInt_lt] at c1
          rw [Int32.lt_iff_toInt_lt] at c12
          rw [Int32.lt_iff_toInt_lt] at c23
          rw [Int32.lt_iff_toInt_lt] at c34
          refine ⟨_, rfl, Or.inr ⟨rfl, ?_⟩, N0, rfl⟩
          rintro ⟨j, hj, e⟩
          rcases j with _ | _ | _ | _ | j <;> first | omega
theorem d14_0 : decode jdk_43_method_4_code 0 = .ok (.iload_n 0, 1) := by decide +kernel
theorem d14_1 : decode jdk_43_method_4_code 1 = .ok (.ifCond .lt 14, 3) := by decide +kernel
theorem d14_4 : decode jdk_43_method_4_code 4 = .ok (.iload_n 0, 1) := by decide +kernel
theorem d14_5 : decode jdk_43_method_4_code 5 = .ok (.sipush 255, 3) := by decide +kernel
theorem d14_8 : decode jdk_43_method_4_code 8 = .ok (.if_icmp .gt 7, 3) := by decide +kernel
theorem d14_11 : decode jdk_43_method_4_code 11 = .ok (.iconst 1, 1) := by decide +kernel
theorem d14_12 : decode jdk_43_method_4_code 12 = .ok (.goto 4, 3) := by decide +kernel
theorem d14_15 : decode jdk_43_method_4_code 15 = .ok (.iconst 0, 1) := by decide +kernel
theorem d14_16 : decode jdk_43_method_4_code 16 = .ok (.ireturn, 1) := by decide +kernel
theorem pn_14 : plainFor (⟨"java/lang/StringLatin1", "canEncode", "(I)Z"⟩ : MethodName) = true := by first | exact plainFor_of_name (by first | (simp [plainName, overriddenIn]; done) | decide +kernel) | decide +kernel
theorem ef_14 (m : MethodId) (p1 : Int32) : entryFrame m #[(.int p1)] 1 = mkF m 0 #[.val (.int p1)] [] := by first | (simp [entryFrame, argsToLocals, Value.category, Array.replicate]; done) | rfl
theorem pd_14 : parseMethodDescriptor "(I)Z" = some ⟨[.int], some .boolean⟩ := by decide +kernel
def Q14 (Z : State) (p1 : Int32)  (h0 : Heap) (n0 : Nat) (v : Option Value) (h : Heap) (L : List Loc) : Prop := v = some (.int 1) ∧ Fr n0 L ∧ h0 = h
theorem rm14 (l : Launch) (Z : State) (a0 : Array Value) (hw : ∀ d ∈ tables_1, d.before a0 Z = true) (ws : List Jvm.Cond) (p1 : Int32)  (h0 : Heap) (n0 : Nat) (Z0 : n0 ≤ h0.size) (q0 : ¬ p1 < 0) (q1 : ¬ (255 : Int32) < p1) :
    MetFree l (⟨"java/lang/StringLatin1", "canEncode", "(I)Z"⟩ : MethodName) (head1 (Jvm.Cond.code (⟨"java/lang/StringLatin1", "canEncode", "(I)Z"⟩ : MethodName) jdk_43_method_4_code 1 (some .boolean) :: ws) ({ frames := 0, cells := 0, slots := 0, locals := 0 } : Room)) (fun a U => a = #[(.int p1)] ∧ Z.Warmed39 U.vm ∧ U.heap = h0) (fun _ _ _ _ _ => True) (fun _ U o U' => ∃ v L, o = .returned v ∧ (Q14 Z p1  h0 n0) v U'.heap L ∧ FrameEnd U o U' L ({ frames := 0, cells := 0, slots := 0, locals := 0 } : Room).cells ({ frames := 0, cells := 0, slots := 0, locals := 0 } : Room).slots) := by
  refine MetFree.of_bodySF pn_14 hisR ?_
  intro p e s m args below meth c s₁ Bd hml0 hP hK
  obtain ⟨rfl, hZ, hh⟩ := hP
  have hx := Bd.exec
  have hby := Bd.bytes
  have hml : c.maxLocals = 1 := hml0
  have hown : s.vm.findClass "java/lang/StringLatin1" = some m.cls := findClass_of_methodNamed Bd.named
  have hnm := (name_of_methodNamed Bd.named Bd.method).1
  have X0 : Stand p l e ({ frames := 0, cells := 0, slots := 0, locals := 0 } : Room) s m #[(.int p1)] below meth c s₁ [] 0 0 := Stand.of_body Bd
  have e0 : s₁.heap = h0 := by rw [← hh, Bd.state]; rfl
  have N0 := Fr.nil n0
  have lk : meth.locks = false := BodyLoose.notSynchronized Bd
  have hret := Bd.returns
  show Ends p e below (EF s ({ frames := 0, cells := 0, slots := 0, locals := 0 } : Room).cells ({ frames := 0, cells := 0, slots := 0, locals := 0 } : Room).slots) (Q14 Z p1  h0 n0) (s₁.setTop (entryFrame m #[(.int p1)] 1))
  refine Ends.cast (ef_14 m p1) ?_
  refine own_iloadN (n := 1) X0 hx (hb hby d14_0) rfl rfl ?_
  refine own_ifNo (n := 4) X0 hx (hb hby d14_1) (Jvm.Free.XT.i0_lt_f q0) rfl ?_
  refine own_iloadN (n := 5) X0 hx (hb hby d14_4) rfl rfl ?_
  refine own_sipush (n := 8) X0 hx (255 : Int32) (hb hby d14_5) rfl rfl ?_
  refine own_icmpNo (n := 11) X0 hx (hb hby d14_8) (Jvm.Free.XT.ii_gt_f q1) rfl ?_
  refine own_iconst (n := 12) X0 hx (1 : Int32) (hb hby d14_11) rfl rfl ?_
  refine own_goto (n := 16) X0 hx (hb hby d14_12) (by decide) (by decide) ?_
  refine own_retN X0 hx lk hret (by simp) (hb hby d14_16) (by decide) (by decide) ?_
  rw [e0]
  exact ⟨rfl, N0, rfl⟩
theorem d15_0 : decode jdk_29_method_65_code 0 = .ok (.iload_n 0, 1) := by decide +kernel
theorem d15_1 : decode jdk_29_method_65_code 1 = .ok (.iload_n 1, 1) := by decide +kernel
theorem d15_2 : decode jdk_29_method_65_code 2 = .ok (.if_icmp .lt 7, 3) := by decide +kernel
theorem d15_5 : decode jdk_29_method_65_code 5 = .ok (.iload_n 0, 1) := by decide +kernel
theorem d15_6 : decode jdk_29_method_65_code 6 = .ok (.goto 4, 3) := by decide +kernel
theorem d15_9 : decode jdk_29_method_65_code 9 = .ok (.iload_n 1, 1) := by decide +kernel
theorem d15_10 : decode jdk_29_method_65_code 10 = .ok (.ireturn, 1) := by decide +kernel
theorem pn_15 : plainFor (⟨"java/lang/Math", "max", "(II)I"⟩ : MethodName) = true := by first | exact plainFor_of_name (by first | (simp [plainName, overriddenIn]; done) | decide +kernel) | decide +kernel
theorem ef_15 (m : MethodId) (p1 : Int32) (p2 : Int32) : entryFrame m #[(.int p1), (.int p2)] 2 = mkF m 0 #[.val (.int p1), .val (.int p2)] [] := by first | (simp [entryFrame, argsToLocals, Value.category, Array.replicate]; done) | rfl
theorem pd_15 : parseMethodDescriptor "(II)I" = some ⟨[.int, .int], some .int⟩ := by decide +kernel
def Q15 (Z : State) (p1 : Int32) (p2 : Int32)  (h0 : Heap) (n0 : Nat) (v : Option Value) (h : Heap) (L : List Loc) : Prop := v = some (.int p1) ∧ Fr n0 L ∧ h0 = h
theorem rm15 (l : Launch) (Z : State) (a0 : Array Value) (hw : ∀ d ∈ tables_1, d.before a0 Z = true) (ws : List Jvm.Cond) (p1 : Int32) (p2 : Int32)  (h0 : Heap) (n0 : Nat) (Z0 : n0 ≤ h0.size) (q1 : ¬ p1 < p2) :
    MetFree l (⟨"java/lang/Math", "max", "(II)I"⟩ : MethodName) (head1 (Jvm.Cond.code (⟨"java/lang/Math", "max", "(II)I"⟩ : MethodName) jdk_29_method_65_code 2 (some .int) :: ws) ({ frames := 0, cells := 0, slots := 0, locals := 0 } : Room)) (fun a U => a = #[(.int p1), (.int p2)] ∧ Z.Warmed39 U.vm ∧ U.heap = h0) (fun _ _ _ _ _ => True) (fun _ U o U' => ∃ v L, o = .returned v ∧ (Q15 Z p1 p2  h0 n0) v U'.heap L ∧ FrameEnd U o U' L ({ frames := 0, cells := 0, slots := 0, locals := 0 } : Room).cells ({ frames := 0, cells := 0, slots := 0, locals := 0 } : Room).slots) := by
  refine MetFree.of_bodySF pn_15 hisR ?_
  intro p e s m args below meth c s₁ Bd hml0 hP hK
  obtain ⟨rfl, hZ, hh⟩ := hP
  have hx := Bd.exec
  have hby := Bd.bytes
  have hml : c.maxLocals = 2 := hml0
  have hown : s.vm.findClass "java/lang/Math" = some m.cls := findClass_of_methodNamed Bd.named
  have hnm := (name_of_methodNamed Bd.named Bd.method).1
  have X0 : Stand p l e ({ frames := 0, cells := 0, slots := 0, locals := 0 } : Room) s m #[(.int p1), (.int p2)] below meth c s₁ [] 0 0 := Stand.of_body Bd
  have e0 : s₁.heap = h0 := by rw [← hh, Bd.state]; rfl
  have N0 := Fr.nil n0
  have lk : meth.locks = false := BodyLoose.notSynchronized Bd
  have hret := Bd.returns
  show Ends p e below (EF s ({ frames := 0, cells := 0, slots := 0, locals := 0 } : Room).cells ({ frames := 0, cells := 0, slots := 0, locals := 0 } : Room).slots) (Q15 Z p1 p2  h0 n0) (s₁.setTop (entryFrame m #[(.int p1), (.int p2)] 2))
  refine Ends.cast (ef_15 m p1 p2) ?_
  refine own_iloadN (n := 1) X0 hx (hb hby d15_0) rfl rfl ?_
  refine own_iloadN (n := 2) X0 hx (hb hby d15_1) rfl rfl ?_
  refine own_icmpNo (n := 5) X0 hx (hb hby d15_2) (Jvm.Free.XT.ii_lt_f q1) rfl ?_
  refine own_iloadN (n := 6) X0 hx (hb hby d15_5) rfl rfl ?_
  refine own_goto (n := 10) X0 hx (hb hby d15_6) (by decide) (by decide) ?_
  refine own_retI X0 hx lk hret (hb hby d15_10) (by decide) (by decide) ?_
  rw [e0]
  exact ⟨rfl, N0, rfl⟩
theorem d16_0 : decode jdk_29_method_69_code 0 = .ok (.iload_n 0, 1) := by decide +kernel
theorem d16_1 : decode jdk_29_method_69_code 1 = .ok (.iload_n 1, 1) := by decide +kernel
theorem d16_2 : decode jdk_29_method_69_code 2 = .ok (.if_icmp .gt 7, 3) := by decide +kernel
theorem d16_5 : decode jdk_29_method_69_code 5 = .ok (.iload_n 0, 1) := by decide +kernel
theorem d16_6 : decode jdk_29_method_69_code 6 = .ok (.goto 4, 3) := by decide +kernel
theorem d16_9 : decode jdk_29_method_69_code 9 = .ok (.iload_n 1, 1) := by decide +kernel
theorem d16_10 : decode jdk_29_method_69_code 10 = .ok (.ireturn, 1) := by decide +kernel
theorem pn_16 : plainFor (⟨"java/lang/Math", "min", "(II)I"⟩ : MethodName) = true := by first | exact plainFor_of_name (by first | (simp [plainName, overriddenIn]; done) | decide +kernel) | decide +kernel
theorem ef_16 (m : MethodId) (p1 : Int32) (p2 : Int32) : entryFrame m #[(.int p1), (.int p2)] 2 = mkF m 0 #[.val (.int p1), .val (.int p2)] [] := by first | (simp [entryFrame, argsToLocals, Value.category, Array.replicate]; done) | rfl
theorem pd_16 : parseMethodDescriptor "(II)I" = some ⟨[.int, .int], some .int⟩ := by decide +kernel
def Q16 (Z : State) (p1 : Int32) (p2 : Int32)  (h0 : Heap) (n0 : Nat) (v : Option Value) (h : Heap) (L : List Loc) : Prop := v = some (.int p1) ∧ Fr n0 L ∧ h0 = h
theorem rm16 (l : Launch) (Z : State) (a0 : Array Value) (hw : ∀ d ∈ tables_1, d.before a0 Z = true) (ws : List Jvm.Cond) (p1 : Int32) (p2 : Int32)  (h0 : Heap) (n0 : Nat) (Z0 : n0 ≤ h0.size) (q1 : ¬ p2 < p1) :
    MetFree l (⟨"java/lang/Math", "min", "(II)I"⟩ : MethodName) (head1 (Jvm.Cond.code (⟨"java/lang/Math", "min", "(II)I"⟩ : MethodName) jdk_29_method_69_code 2 (some .int) :: ws) ({ frames := 0, cells := 0, slots := 0, locals := 0 } : Room)) (fun a U => a = #[(.int p1), (.int p2)] ∧ Z.Warmed39 U.vm ∧ U.heap = h0) (fun _ _ _ _ _ => True) (fun _ U o U' => ∃ v L, o = .returned v ∧ (Q16 Z p1 p2  h0 n0) v U'.heap L ∧ FrameEnd U o U' L ({ frames := 0, cells := 0, slots := 0, locals := 0 } : Room).cells ({ frames := 0, cells := 0, slots := 0, locals := 0 } : Room).slots) := by
  refine MetFree.of_bodySF pn_16 hisR ?_
  intro p e s m args below meth c s₁ Bd hml0 hP hK
  obtain ⟨rfl, hZ, hh⟩ := hP
  have hx := Bd.exec
  have hby := Bd.bytes
  have hml : c.maxLocals = 2 := hml0
  have hown : s.vm.findClass "java/lang/Math" = some m.cls := findClass_of_methodNamed Bd.named
  have hnm := (name_of_methodNamed Bd.named Bd.method).1
  have X0 : Stand p l e ({ frames := 0, cells := 0, slots := 0, locals := 0 } : Room) s m #[(.int p1), (.int p2)] below meth c s₁ [] 0 0 := Stand.of_body Bd
  have e0 : s₁.heap = h0 := by rw [← hh, Bd.state]; rfl
  have N0 := Fr.nil n0
  have lk : meth.locks = false := BodyLoose.notSynchronized Bd
  have hret := Bd.returns
  show Ends p e below (EF s ({ frames := 0, cells := 0, slots := 0, locals := 0 } : Room).cells ({ frames := 0, cells := 0, slots := 0, locals := 0 } : Room).slots) (Q16 Z p1 p2  h0 n0) (s₁.setTop (entryFrame m #[(.int p1), (.int p2)] 2))
  refine Ends.cast (ef_16 m p1 p2) ?_
  refine own_iloadN (n := 1) X0 hx (hb hby d16_0) rfl rfl ?_
  refine own_iloadN (n := 2) X0 hx (hb hby d16_1) rfl rfl ?_
  refine own_icmpNo (n := 5) X0 hx (hb hby d16_2) (Jvm.Free.XT.ii_gt_f q1) rfl ?_
  refine own_iloadN (n := 6) X0 hx (hb hby d16_5) rfl rfl ?_
  refine own_goto (n := 10) X0 hx (hb hby d16_6) (by decide) (by decide) ?_
  refine own_retI X0 hx lk hret (hb hby d16_10) (by decide) (by decide) ?_
  rw [e0]
  exact ⟨rfl, N0, rfl⟩
theorem d19_0 : decode jdk_52_method_15_code 0 = .ok (.iload_n 1, 1) := by decide +kernel
theorem d19_1 : decode jdk_52_method_15_code 1 = .ok (.aload_n 0, 1) := by decide +kernel
theorem d19_2 : decode jdk_52_method_15_code 2 = .ok (.arraylength, 1) := by decide +kernel
theorem d19_3 : decode jdk_52_method_15_code 3 = .ok (.isub, 1) := by decide +kernel
theorem d19_4 : decode jdk_52_method_15_code 4 = .ok (.bipush 31, 2) := by decide +kernel
theorem d19_6 : decode jdk_52_method_15_code 6 = .ok (.iushr, 1) := by decide +kernel
theorem d19_7 : decode jdk_52_method_15_code 7 = .ok (.i2b, 1) := by decide +kernel
theorem d19_8 : decode jdk_52_method_15_code 8 = .ok (.ireturn, 1) := by decide +kernel
theorem pn_19 : plainFor (⟨"java/lang/StringUTF16", "coderFromArrayLen", "([BI)B"⟩ : MethodName) = true := by first | exact plainFor_of_name (by first | (simp [plainName, overriddenIn]; done) | decide +kernel) | decide +kernel
theorem ef_19 (m : MethodId) (a1 : Addr) (p2 : Int32) : entryFrame m #[(.ref a1), (.int p2)] 2 = mkF m 0 #[.val (.ref a1), .val (.int p2)] [] := by first | (simp [entryFrame, argsToLocals, Value.category, Array.replicate]; done) | rfl
theorem pd_19 : parseMethodDescriptor "([BI)B" = some ⟨[(.array .byte), .int], some .byte⟩ := by decide +kernel
def Q19 (Z : State) (a1 : Addr) (p2 : Int32) (n : Nat) (f : Nat → Int32) (w : Int32) (h0 : Heap) (n0 : Nat) (v : Option Value) (h : Heap) (L : List Loc) : Prop := v = some (.int w) ∧ Fr n0 L ∧ h0 = h
theorem rm19 (l : Launch) (Z : State) (a0 : Array Value) (hw : ∀ d ∈ tables_1, d.before a0 Z = true) (ws : List Jvm.Cond) (a1 : Addr) (p2 : Int32) (n : Nat) (f : Nat → Int32) (w : Int32) (h0 : Heap) (n0 : Nat) (Z0 : n0 ≤ h0.size) (A : PA Z h0 a1 .byte n f) (hr : nar .byte (((p2 - Nat.toInt32 n).toUInt32 >>> ((31 : Int32) &&& 31).toUInt32).toInt32.toInt8.toInt32) = w) :
    MetFree l (⟨"java/lang/StringUTF16", "coderFromArrayLen", "([BI)B"⟩ : MethodName) (head1 (Jvm.Cond.code (⟨"java/lang/StringUTF16", "coderFromArrayLen", "([BI)B"⟩ : MethodName) jdk_52_method_15_code 2 (some .byte) :: ws) ({ frames := 0, cells := 0, slots := 0, locals := 0 } : Room)) (fun a U => a = #[(.ref a1), (.int p2)] ∧ Z.Warmed39 U.vm ∧ U.heap = h0) (fun _ _ _ _ _ => True) (fun _ U o U' => ∃ v L, o = .returned v ∧ (Q19 Z a1 p2 n f w h0 n0) v U'.heap L ∧ FrameEnd U o U' L ({ frames := 0, cells := 0, slots := 0, locals := 0 } : Room).cells ({ frames := 0, cells := 0, slots := 0, locals := 0 } : Room).slots) := by
  refine MetFree.of_bodySF pn_19 hisR ?_
  intro p e s m args below meth c s₁ Bd hml0 hP hK
  obtain ⟨rfl, hZ, hh⟩ := hP
  have hx := Bd.exec
  have hby := Bd.bytes
  have hml : c.maxLocals = 2 := hml0
  have hown : s.vm.findClass "java/lang/StringUTF16" = some m.cls := findClass_of_methodNamed Bd.named
  have hnm := (name_of_methodNamed Bd.named Bd.method).1
  have X0 : Stand p l e ({ frames := 0, cells := 0, slots := 0, locals := 0 } : Room) s m #[(.ref a1), (.int p2)] below meth c s₁ [] 0 0 := Stand.of_body Bd
  have e0 : s₁.heap = h0 := by rw [← hh, Bd.state]; rfl
  have N0 := Fr.nil n0
  have lk : meth.locks = false := BodyLoose.notSynchronized Bd
  have hret := Bd.returns
  show Ends p e below (EF s ({ frames := 0, cells := 0, slots := 0, locals := 0 } : Room).cells ({ frames := 0, cells := 0, slots := 0, locals := 0 } : Room).slots) (Q19 Z a1 p2 n f w h0 n0) (s₁.setTop (entryFrame m #[(.ref a1), (.int p2)] 2))
  refine Ends.cast (ef_19 m a1 p2) ?_
  refine own_iloadN (n := 1) X0 hx (hb hby d19_0) rfl rfl ?_
  refine own_aloadN (n := 2) X0 hx (hb hby d19_1) rfl rfl rfl ?_
  refine own_arraylength (n := 3) X0 hx hZ e0 A (v := (Nat.toInt32 n)) (len_toInt A.1) (hb hby d19_2) rfl ?_
  refine own_isub (n := 4) X0 hx (hb hby d19_3) rfl ?_
  refine own_bipush (n := 6) X0 hx (31 : Int32) (hb hby d19_4) rfl rfl ?_
  refine own_iushr (n := 7) X0 hx (hb hby d19_6) rfl ?_
  refine own_i2b (n := 8) X0 hx (hb hby d19_7) rfl ?_
  refine own_retN X0 hx lk hret (by simp) (hb hby d19_8) (by decide) (by decide) ?_
  rw [e0]
  exact ⟨congrArg (fun z => some (Value.int z)) hr, N0, rfl⟩
theorem d29_0 : decode jdk_52_method_6_code 0 = .ok (.aload_n 0, 1) := by decide +kernel
theorem d29_1 : decode jdk_52_method_6_code 1 = .ok (.arraylength, 1) := by decide +kernel
theorem d29_2 : decode jdk_52_method_6_code 2 = .ok (.iconst 1, 1) := by decide +kernel
theorem d29_3 : decode jdk_52_method_6_code 3 = .ok (.ishr, 1) := by decide +kernel
theorem d29_4 : decode jdk_52_method_6_code 4 = .ok (.ireturn, 1) := by decide +kernel
theorem pn_29 : plainFor (⟨"java/lang/StringUTF16", "length", "([B)I"⟩ : MethodName) = true := by first | exact plainFor_of_name (by first | (simp [plainName, overriddenIn]; done) | decide +kernel) | decide +kernel
theorem ef_29 (m : MethodId) (a1 : Addr) : entryFrame m #[(.ref a1)] 1 = mkF m 0 #[.val (.ref a1)] [] := by first | (simp [entryFrame, argsToLocals, Value.category, Array.replicate]; done) | rfl
theorem pd_29 : parseMethodDescriptor "([B)I" = some ⟨[(.array .byte)], some .int⟩ := by decide +kernel
def Q29 (Z : State) (a1 : Addr) (n : Nat) (f : Nat → Int32) (h0 : Heap) (n0 : Nat) (v : Option Value) (h : Heap) (L : List Loc) : Prop := v = some (.int (Nat.toInt32 n >>> ((1 : Int32) &&& 31))) ∧ Fr n0 L ∧ h0 = h
theorem rm29 (l : Launch) (Z : State) (a0 : Array Value) (hw : ∀ d ∈ tables_1, d.before a0 Z = true) (ws : List Jvm.Cond) (a1 : Addr) (n : Nat) (f : Nat → Int32) (h0 : Heap) (n0 : Nat) (Z0 : n0 ≤ h0.size) (A : PA Z h0 a1 .byte n f) :
    MetFree l (⟨"java/lang/StringUTF16", "length", "([B)I"⟩ : MethodName) (head1 (Jvm.Cond.code (⟨"java/lang/StringUTF16", "length", "([B)I"⟩ : MethodName) jdk_52_method_6_code 1 (some .int) :: ws) ({ frames := 0, cells := 0, slots := 0, locals := 0 } : Room)) (fun a U => a = #[(.ref a1)] ∧ Z.Warmed39 U.vm ∧ U.heap = h0) (fun _ _ _ _ _ => True) (fun _ U o U' => ∃ v L, o = .returned v ∧ (Q29 Z a1 n f h0 n0) v U'.heap L ∧ FrameEnd U o U' L ({ frames := 0, cells := 0, slots := 0, locals := 0 } : Room).cells ({ frames := 0, cells := 0, slots := 0, locals := 0 } : Room).slots) := by
  refine MetFree.of_bodySF pn_29 hisR ?_
  intro p e s m args below meth c s₁ Bd hml0 hP hK
  obtain ⟨rfl, hZ, hh⟩ := hP
  have hx := Bd.exec
  have hby := Bd.bytes
  have hml : c.maxLocals = 1 := hml0
  have hown : s.vm.findClass "java/lang/StringUTF16" = some m.cls := findClass_of_methodNamed Bd.named
  have hnm := (name_of_methodNamed Bd.named Bd.method).1
  have X0 : Stand p l e ({ frames := 0, cells := 0, slots := 0, locals := 0 } : Room) s m #[(.ref a1)] below meth c s₁ [] 0 0 := Stand.of_body Bd
  have e0 : s₁.heap = h0 := by rw [← hh, Bd.state]; rfl
  have N0 := Fr.nil n0
  have lk : meth.locks = false := BodyLoose.notSynchronized Bd
  have hret := Bd.returns
  show Ends p e below (EF s ({ frames := 0, cells := 0, slots := 0, locals := 0 } : Room).cells ({ frames := 0, cells := 0, slots := 0, locals := 0 } : Room).slots) (Q29 Z a1 n f h0 n0) (s₁.setTop (entryFrame m #[(.ref a1)] 1))
  refine Ends.cast (ef_29 m a1) ?_
  refine own_aloadN (n := 1) X0 hx (hb hby d29_0) rfl rfl rfl ?_
  refine own_arraylength (n := 2) X0 hx hZ e0 A (v := (Nat.toInt32 n)) (len_toInt A.1) (hb hby d29_1) rfl ?_
  refine own_iconst (n := 3) X0 hx (1 : Int32) (hb hby d29_2) rfl rfl ?_
  refine own_ishr (n := 4) X0 hx (hb hby d29_3) rfl ?_
  refine own_retI X0 hx lk hret (hb hby d29_4) (by decide) (by decide) ?_
  rw [e0]
  exact ⟨rfl, N0, rfl⟩
theorem d31_0 : decode jdk_41_method_12_code 0 = .ok (.iload_n 0, 1) := by decide +kernel
theorem d31_1 : decode jdk_41_method_12_code 1 = .ok (.ifCond .lt 13, 3) := by decide +kernel
theorem d31_4 : decode jdk_41_method_12_code 4 = .ok (.iload_n 0, 1) := by decide +kernel
theorem d31_5 : decode jdk_41_method_12_code 5 = .ok (.iload_n 1, 1) := by decide +kernel
theorem d31_6 : decode jdk_41_method_12_code 6 = .ok (.if_icmp .gt 8, 3) := by decide +kernel
theorem d31_9 : decode jdk_41_method_12_code 9 = .ok (.iload_n 1, 1) := by decide +kernel
theorem d31_10 : decode jdk_41_method_12_code 10 = .ok (.iload_n 2, 1) := by decide +kernel
theorem d31_11 : decode jdk_41_method_12_code 11 = .ok (.if_icmp .le 11, 3) := by decide +kernel
theorem d31_14 : decode jdk_41_method_12_code 14 = .ok (.aload_n 3, 1) := by decide +kernel
theorem d31_15 : decode jdk_41_method_12_code 15 = .ok (.iload_n 0, 1) := by decide +kernel
theorem d31_16 : decode jdk_41_method_12_code 16 = .ok (.iload_n 1, 1) := by decide +kernel
theorem d31_17 : decode jdk_41_method_12_code 17 = .ok (.iload_n 2, 1) := by decide +kernel
theorem d31_18 : decode jdk_41_method_12_code 18 = .ok (.invokestatic 99, 3) := by decide +kernel
theorem d31_21 : decode jdk_41_method_12_code 21 = .ok (.athrow, 1) := by decide +kernel
theorem d31_22 : decode jdk_41_method_12_code 22 = .ok (.iload_n 0, 1) := by decide +kernel
theorem d31_23 : decode jdk_41_method_12_code 23 = .ok (.ireturn, 1) := by decide +kernel
theorem pn_31 : plainFor (⟨"jdk/internal/util/Preconditions", "checkFromToIndex", "(IIILjava/util/function/BiFunction;)I"⟩ : MethodName) = true := by first | exact plainFor_of_name (by first | (simp [plainName, overriddenIn]; done) | decide +kernel) | decide +kernel
theorem ef_31 (m : MethodId) (p1 : Int32) (p2 : Int32) (p3 : Int32) (x4 : Value) (hx4 : x4.isRef = true) : entryFrame m #[(.int p1), (.int p2), (.int p3), x4] 4 = mkF m 0 #[.val (.int p1), .val (.int p2), .val (.int p3), .val x4] [] := by
  rcases ref_cases hx4 with rfl | ⟨_, rfl⟩ <;> rfl
theorem pd_31 : parseMethodDescriptor "(IIILjava/util/function/BiFunction;)I" = some ⟨[.int, .int, .int, (.object "java/util/function/BiFunction")], some .int⟩ := by decide +kernel
def Q31 (Z : State) (p1 : Int32) (p2 : Int32) (p3 : Int32) (x4 : Value)  (h0 : Heap) (n0 : Nat) (v : Option Value) (h : Heap) (L : List Loc) : Prop := v = some (.int p1) ∧ Fr n0 L ∧ h0 = h
theorem rm31 (l : Launch) (Z : State) (a0 : Array Value) (hw : ∀ d ∈ tables_1, d.before a0 Z = true) (ws : List Jvm.Cond) (p1 : Int32) (p2 : Int32) (p3 : Int32) (x4 : Value)  (h0 : Heap) (n0 : Nat) (Z0 : n0 ≤ h0.size) (hx4 : x4.isRef = true) (q0 : ¬ p1 < 0) (q1 : ¬ p2 < p1) (q2 : ¬ p3 < p2) :
    MetFree l (⟨"jdk/internal/util/Preconditions", "checkFromToIndex", "(IIILjava/util/function/BiFunction;)I"⟩ : MethodName) (head1 (Jvm.Cond.code (⟨"jdk/internal/util/Preconditions", "checkFromToIndex", "(IIILjava/util/function/BiFunction;)I"⟩ : MethodName) jdk_41_method_12_code 4 (some .int) :: ws) ({ frames := 0, cells := 0, slots := 0, locals := 0 } : Room)) (fun a U => a = #[(.int p1), (.int p2), (.int p3), x4] ∧ Z.Warmed39 U.vm ∧ U.heap = h0) (fun _ _ _ _ _ => True) (fun _ U o U' => ∃ v L, o = .returned v ∧ (Q31 Z p1 p2 p3 x4  h0 n0) v U'.heap L ∧ FrameEnd U o U' L ({ frames := 0, cells := 0, slots := 0, locals := 0 } : Room).cells ({ frames := 0, cells := 0, slots := 0, locals := 0 } : Room).slots) := by
  refine MetFree.of_bodySF pn_31 hisR ?_
  intro p e s m args below meth c s₁ Bd hml0 hP hK
  obtain ⟨rfl, hZ, hh⟩ := hP
  have hx := Bd.exec
  have hby := Bd.bytes
  have hml : c.maxLocals = 4 := hml0
  have hown : s.vm.findClass "jdk/internal/util/Preconditions" = some m.cls := findClass_of_methodNamed Bd.named
  have hnm := (name_of_methodNamed Bd.named Bd.method).1
  have X0 : Stand p l e ({ frames := 0, cells := 0, slots := 0, locals := 0 } : Room) s m #[(.int p1), (.int p2), (.int p3), x4] below meth c s₁ [] 0 0 := Stand.of_body Bd
  have e0 : s₁.heap = h0 := by rw [← hh, Bd.state]; rfl
  have N0 := Fr.nil n0
  have lk : meth.locks = false := BodyLoose.notSynchronized Bd
  have hret := Bd.returns
  show Ends p e below (EF s ({ frames := 0, cells := 0, slots := 0, locals := 0 } : Room).cells ({ frames := 0, cells := 0, slots := 0, locals := 0 } : Room).slots) (Q31 Z p1 p2 p3 x4  h0 n0) (s₁.setTop (entryFrame m #[(.int p1), (.int p2), (.int p3), x4] 4))
  refine Ends.cast (ef_31 m p1 p2 p3 x4 hx4) ?_
  refine own_iloadN (n := 1) X0 hx (hb hby d31_0) rfl rfl ?_
  refine own_ifNo (n := 4) X0 hx (hb hby d31_1) (Jvm.Free.XT.i0_lt_f q0) rfl ?_
  refine own_iloadN (n := 5) X0 hx (hb hby d31_4) rfl rfl ?_
  refine own_iloadN (n := 6) X0 hx (hb hby d31_5) rfl rfl ?_
  refine own_icmpNo (n := 9) X0 hx (hb hby d31_6) (Jvm.Free.XT.ii_gt_f q1) rfl ?_
  refine own_iloadN (n := 10) X0 hx (hb hby d31_9) rfl rfl ?_
  refine own_iloadN (n := 11) X0 hx (hb hby d31_10) rfl rfl ?_
  refine own_icmpYes (n := 22) X0 hx (hb hby d31_11) (Jvm.Free.XT.ii_le_t q2) (by decide) (by decide) ?_
  refine own_iloadN (n := 23) X0 hx (hb hby d31_22) rfl rfl ?_
  refine own_retI X0 hx lk hret (hb hby d31_23) (by decide) (by decide) ?_
  rw [e0]
  exact ⟨rfl, N0, rfl⟩
theorem d30_0 : decode jdk_42_method_158_code 0 = .ok (.iload_n 0, 1) := by decide +kernel
theorem d30_1 : decode jdk_42_method_158_code 1 = .ok (.iload_n 1, 1) := by decide +kernel
theorem d30_2 : decode jdk_42_method_158_code 2 = .ok (.iload_n 2, 1) := by decide +kernel
theorem d30_3 : decode jdk_42_method_158_code 3 = .ok (.getstatic 1053, 3) := by decide +kernel
theorem d30_6 : decode jdk_42_method_158_code 6 = .ok (.invokestatic 1062, 3) := by decide +kernel
theorem d30_9 : decode jdk_42_method_158_code 9 = .ok (.pop, 1) := by decide +kernel
theorem d30_10 : decode jdk_42_method_158_code 10 = .ok (.return_, 1) := by decide +kernel
theorem pn_30 : plainFor (⟨"java/lang/String", "checkBoundsBeginEnd", "(III)V"⟩ : MethodName) = true := by first | exact plainFor_of_name (by first | (simp [plainName, overriddenIn]; done) | decide +kernel) | decide +kernel
theorem ef_30 (m : MethodId) (p1 : Int32) (p2 : Int32) (p3 : Int32) : entryFrame m #[(.int p1), (.int p2), (.int p3)] 3 = mkF m 0 #[.val (.int p1), .val (.int p2), .val (.int p3)] [] := by first | (simp [entryFrame, argsToLocals, Value.category, Array.replicate]; done) | rfl
theorem pd_30 : parseMethodDescriptor "(III)V" = some ⟨[.int, .int, .int], none⟩ := by decide +kernel
def Q30 (Z : State) (p1 : Int32) (p2 : Int32) (p3 : Int32)  (h0 : Heap) (n0 : Nat) (v : Option Value) (h : Heap) (L : List Loc) : Prop := v = none ∧ Fr n0 L ∧ h0 = h
theorem rm30 (l : Launch) (Z : State) (a0 : Array Value) (hw : ∀ d ∈ tables_1, d.before a0 Z = true) (ws : List Jvm.Cond) (p1 : Int32) (p2 : Int32) (p3 : Int32)  (h0 : Heap) (n0 : Nat) (Z0 : n0 ≤ h0.size) (cs : Int32) (fm : Value) (TT : STT Z cs fm) (OL : Old Z n0 h0) (q0 : ¬ p1 < 0) (q1 : ¬ p2 < p1) (q2 : ¬ p3 < p2) :
    MetFree l (⟨"java/lang/String", "checkBoundsBeginEnd", "(III)V"⟩ : MethodName) (head1 (Jvm.Cond.code (⟨"java/lang/String", "checkBoundsBeginEnd", "(III)V"⟩ : MethodName) jdk_42_method_158_code 3 (none) :: ws) ({ frames := 1, cells := 0, slots := 0, locals := 15 } : Room)) (fun a U => a = #[(.int p1), (.int p2), (.int p3)] ∧ Z.Warmed39 U.vm ∧ U.heap = h0) (fun _ _ _ _ _ => True) (fun _ U o U' => ∃ v L, o = .returned v ∧ (Q30 Z p1 p2 p3  h0 n0) v U'.heap L ∧ FrameEnd U o U' L ({ frames := 1, cells := 0, slots := 0, locals := 15 } : Room).cells ({ frames := 1, cells := 0, slots := 0, locals := 15 } : Room).slots) := by
  refine MetFree.of_bodySF pn_30 hisR ?_
  intro p e s m args below meth c s₁ Bd hml0 hP hK
  obtain ⟨rfl, hZ, hh⟩ := hP
  have hx := Bd.exec
  have hby := Bd.bytes
  have hml : c.maxLocals = 3 := hml0
  have hown : s.vm.findClass "java/lang/String" = some m.cls := findClass_of_methodNamed Bd.named
  have hnm := (name_of_methodNamed Bd.named Bd.method).1
  have X0 : Stand p l e ({ frames := 1, cells := 0, slots := 0, locals := 15 } : Room) s m #[(.int p1), (.int p2), (.int p3)] below meth c s₁ [] 0 0 := Stand.of_body Bd
  have e0 : s₁.heap = h0 := by rw [← hh, Bd.state]; rfl
  have N0 := Fr.nil n0
  have lk : meth.locks = false := BodyLoose.notSynchronized Bd
  have hret := Bd.returns
  show Ends p e below (EF s ({ frames := 1, cells := 0, slots := 0, locals := 15 } : Room).cells ({ frames := 1, cells := 0, slots := 0, locals := 15 } : Room).slots) (Q30 Z p1 p2 p3  h0 n0) (s₁.setTop (entryFrame m #[(.int p1), (.int p2), (.int p3)] 3))
  refine Ends.cast (ef_30 m p1 p2 p3) ?_
  have hfm := TT.2.1
  refine own_iloadN (n := 1) X0 hx (hb hby d30_0) rfl rfl ?_
  refine own_iloadN (n := 2) X0 hx (hb hby d30_1) rfl rfl ?_
  refine own_iloadN (n := 3) X0 hx (hb hby d30_2) rfl rfl ?_
  refine own_getS (n := 6) X0 hx hZ hown (hw _ (List.mem_of_getElem? (i := 127) rfl)) e0 (TT.2.2.2.2.2.2.ext OL.2) (hb hby d30_3) rfl ?_
  intro T1 X1 e1
  refine own_callS (n := 9) X1 hx hZ hown (hw _ (List.mem_of_getElem? (i := 129) rfl)) (hw _ (List.mem_of_getElem? (i := 130) rfl)) (hw _ (List.mem_of_getElem? (i := 128) rfl)) (hw _ (List.mem_of_getElem? (i := 131) rfl)) (by decide) e1 (rm31 l Z a0 hw [] p1 p2 p3 fm h0 n0 Z0 hfm q0 q1 q2) (W := 0) (by decide) (by decide) (by decide) (by decide) (by rw [hml]; rfl) (argsL := [(.int p1), (.int p2), (.int p3), fm]) (rest := []) pd_31 rfl (by rfl) (Nat.le_of_eq rfl) (hb hby d30_6) rfl rfl ?_
  intro v2 T2 h2 L2 X2 e2 q2
  obtain ⟨rfl, M2, rfl⟩ := q2
  have N2 := Fr.app N0 M2
  refine own_pop (n := 10) X2 hx (hb hby d30_9) rfl rfl ?_
  refine own_retV X2 hx lk hret (hb hby d30_10) (by decide) (by decide) ?_
  rw [e2]
  exact ⟨rfl, N2, rfl⟩
theorem d28_0 : decode jdk_52_method_93_code 0 = .ok (.iload_n 0, 1) := by decide +kernel
theorem d28_1 : decode jdk_52_method_93_code 1 = .ok (.iload_n 1, 1) := by decide +kernel
theorem d28_2 : decode jdk_52_method_93_code 2 = .ok (.aload_n 2, 1) := by decide +kernel
theorem d28_3 : decode jdk_52_method_93_code 3 = .ok (.invokestatic 48, 3) := by decide +kernel
theorem d28_6 : decode jdk_52_method_93_code 6 = .ok (.invokestatic 241, 3) := by decide +kernel
theorem d28_9 : decode jdk_52_method_93_code 9 = .ok (.return_, 1) := by decide +kernel
theorem pn_28 : plainFor (⟨"java/lang/StringUTF16", "checkBoundsBeginEnd", "(II[B)V"⟩ : MethodName) = true := by first | exact plainFor_of_name (by first | (simp [plainName, overriddenIn]; done) | decide +kernel) | decide +kernel
theorem ef_28 (m : MethodId) (p1 : Int32) (p2 : Int32) (a3 : Addr) : entryFrame m #[(.int p1), (.int p2), (.ref a3)] 3 = mkF m 0 #[.val (.int p1), .val (.int p2), .val (.ref a3)] [] := by first | (simp [entryFrame, argsToLocals, Value.category, Array.replicate]; done) | rfl
theorem pd_28 : parseMethodDescriptor "(II[B)V" = some ⟨[.int, .int, (.array .byte)], none⟩ := by decide +kernel
def Q28 (Z : State) (p1 : Int32) (p2 : Int32) (a3 : Addr) (n : Nat) (f : Nat → Int32) (h0 : Heap) (n0 : Nat) (v : Option Value) (h : Heap) (L : List Loc) : Prop := v = none ∧ Fr n0 L ∧ h0 = h
theorem rm28 (l : Launch) (Z : State) (a0 : Array Value) (hw : ∀ d ∈ tables_1, d.before a0 Z = true) (ws : List Jvm.Cond) (p1 : Int32) (p2 : Int32) (a3 : Addr) (n : Nat) (f : Nat → Int32) (h0 : Heap) (n0 : Nat) (Z0 : n0 ≤ h0.size) (cs : Int32) (fm : Value) (TT : STT Z cs fm) (OL : Old Z n0 h0) (A : PA Z h0 a3 .byte n f) (q0 : ¬ p1 < 0) (q1 : ¬ p2 < p1) (q2 : ¬ (Nat.toInt32 n >>> ((1 : Int32) &&& 31)) < p2) :
    MetFree l (⟨"java/lang/StringUTF16", "checkBoundsBeginEnd", "(II[B)V"⟩ : MethodName) (head1 (Jvm.Cond.code (⟨"java/lang/StringUTF16", "checkBoundsBeginEnd", "(II[B)V"⟩ : MethodName) jdk_52_method_93_code 3 (none) :: ws) ({ frames := 2, cells := 0, slots := 0, locals := 29 } : Room)) (fun a U => a = #[(.int p1), (.int p2), (.ref a3)] ∧ Z.Warmed39 U.vm ∧ U.heap = h0) (fun _ _ _ _ _ => True) (fun _ U o U' => ∃ v L, o = .returned v ∧ (Q28 Z p1 p2 a3 n f h0 n0) v U'.heap L ∧ FrameEnd U o U' L ({ frames := 2, cells := 0, slots := 0, locals := 29 } : Room).cells ({ frames := 2, cells := 0, slots := 0, locals := 29 } : Room).slots) := by
  refine MetFree.of_bodySF pn_28 hisR ?_
  intro p e s m args below meth c s₁ Bd hml0 hP hK
  obtain ⟨rfl, hZ, hh⟩ := hP
  have hx := Bd.exec
  have hby := Bd.bytes
  have hml : c.maxLocals = 3 := hml0
  have hown : s.vm.findClass "java/lang/StringUTF16" = some m.cls := findClass_of_methodNamed Bd.named
  have hnm := (name_of_methodNamed Bd.named Bd.method).1
  have X0 : Stand p l e ({ frames := 2, cells := 0, slots := 0, locals := 29 } : Room) s m #[(.int p1), (.int p2), (.ref a3)] below meth c s₁ [] 0 0 := Stand.of_body Bd
  have e0 : s₁.heap = h0 := by rw [← hh, Bd.state]; rfl
  have N0 := Fr.nil n0
  have lk : meth.locks = false := BodyLoose.notSynchronized Bd
  have hret := Bd.returns
  show Ends p e below (EF s ({ frames := 2, cells := 0, slots := 0, locals := 29 } : Room).cells ({ frames := 2, cells := 0, slots := 0, locals := 29 } : Room).slots) (Q28 Z p1 p2 a3 n f h0 n0) (s₁.setTop (entryFrame m #[(.int p1), (.int p2), (.ref a3)] 3))
  refine Ends.cast (ef_28 m p1 p2 a3) ?_
  refine own_iloadN (n := 1) X0 hx (hb hby d28_0) rfl rfl ?_
  refine own_iloadN (n := 2) X0 hx (hb hby d28_1) rfl rfl ?_
  refine own_aloadN (n := 3) X0 hx (hb hby d28_2) rfl rfl rfl ?_
  refine own_callS (n := 6) X0 hx hZ hown (hw _ (List.mem_of_getElem? (i := 121) rfl)) (hw _ (List.mem_of_getElem? (i := 122) rfl)) (hw _ (List.mem_of_getElem? (i := 79) rfl)) (hw _ (List.mem_of_getElem? (i := 123) rfl)) (by decide) e0 (rm29 l Z a0 hw [] a3 n f h0 n0 Z0 A) (W := 2) (by decide) (by decide) (by decide) (by decide) (by rw [hml]; rfl) (argsL := [(.ref a3)]) (rest := [(.int p2), (.int p1)]) pd_29 rfl (by rfl) (Nat.le_of_eq rfl) (hb hby d28_3) rfl rfl ?_
  intro v1 T1 h1 L1 X1 e1 q1
  obtain ⟨rfl, M1, rfl⟩ := q1
  have N1 := Fr.app N0 M1
  refine own_callS (n := 9) X1 hx hZ hown (hw _ (List.mem_of_getElem? (i := 124) rfl)) (hw _ (List.mem_of_getElem? (i := 125) rfl)) (hw _ (List.mem_of_getElem? (i := 10) rfl)) (hw _ (List.mem_of_getElem? (i := 126) rfl)) (by decide) e1 (rm30 l Z a0 hw [] p1 p2 (Nat.toInt32 n >>> ((1 : Int32) &&& 31)) h0 n0 Z0 cs fm TT OL q0 q1 q2) (W := 0) (by decide) (by decide) (by decide) (by decide) (by rw [hml]; rfl) (argsL := [(.int p1), (.int p2), (.int (Nat.toInt32 n >>> ((1 : Int32) &&& 31)))]) (rest := []) pd_30 rfl (by rfl) (Nat.le_of_eq rfl) (hb hby d28_6) rfl rfl ?_
  intro v2 T2 h2 L2 X2 e2 q2
  obtain ⟨rfl, M2, rfl⟩ := q2
  have N2 := Fr.app N1 M2
  refine own_retV X2 hx lk hret (hb hby d28_9) (by decide) (by decide) ?_
  rw [e2]
  exact ⟨rfl, N2, rfl⟩
theorem d25_0 : decode jdk_52_method_5_code 0 = .ok (.getstatic 44, 3) := by decide +kernel
theorem d25_3 : decode jdk_52_method_5_code 3 = .ok (.ifCond .ne 25, 3) := by decide +kernel
theorem d25_6 : decode jdk_52_method_5_code 6 = .ok (.iload_n 1, 1) := by decide +kernel
theorem d25_7 : decode jdk_52_method_5_code 7 = .ok (.ifCond .lt 11, 3) := by decide +kernel
theorem d25_10 : decode jdk_52_method_5_code 10 = .ok (.iload_n 1, 1) := by decide +kernel
theorem d25_11 : decode jdk_52_method_5_code 11 = .ok (.aload_n 0, 1) := by decide +kernel
theorem d25_12 : decode jdk_52_method_5_code 12 = .ok (.invokestatic 48, 3) := by decide +kernel
theorem d25_15 : decode jdk_52_method_5_code 15 = .ok (.if_icmp .lt 13, 3) := by decide +kernel
theorem d25_18 : decode jdk_52_method_5_code 18 = .ok (.new 52, 3) := by decide +kernel
theorem d25_21 : decode jdk_52_method_5_code 21 = .ok (.dup, 1) := by decide +kernel
theorem d25_22 : decode jdk_52_method_5_code 22 = .ok (.ldc 54, 2) := by decide +kernel
theorem d25_24 : decode jdk_52_method_5_code 24 = .ok (.invokespecial 56, 3) := by decide +kernel
theorem d25_27 : decode jdk_52_method_5_code 27 = .ok (.athrow, 1) := by decide +kernel
theorem d25_28 : decode jdk_52_method_5_code 28 = .ok (.iload_n 1, 1) := by decide +kernel
theorem d25_29 : decode jdk_52_method_5_code 29 = .ok (.iconst 1, 1) := by decide +kernel
theorem d25_30 : decode jdk_52_method_5_code 30 = .ok (.ishl, 1) := by decide +kernel
theorem d25_31 : decode jdk_52_method_5_code 31 = .ok (.istore_n 1, 1) := by decide +kernel
theorem d25_32 : decode jdk_52_method_5_code 32 = .ok (.aload_n 0, 1) := by decide +kernel
theorem d25_33 : decode jdk_52_method_5_code 33 = .ok (.iload_n 1, 1) := by decide +kernel
theorem d25_34 : decode jdk_52_method_5_code 34 = .ok (.iinc 1 1, 3) := by decide +kernel
theorem d25_37 : decode jdk_52_method_5_code 37 = .ok (.baload, 1) := by decide +kernel
theorem d25_38 : decode jdk_52_method_5_code 38 = .ok (.sipush 255, 3) := by decide +kernel
theorem d25_41 : decode jdk_52_method_5_code 41 = .ok (.iand, 1) := by decide +kernel
theorem d25_42 : decode jdk_52_method_5_code 42 = .ok (.getstatic 59, 3) := by decide +kernel
theorem d25_45 : decode jdk_52_method_5_code 45 = .ok (.ishl, 1) := by decide +kernel
theorem d25_46 : decode jdk_52_method_5_code 46 = .ok (.aload_n 0, 1) := by decide +kernel
theorem d25_47 : decode jdk_52_method_5_code 47 = .ok (.iload_n 1, 1) := by decide +kernel
theorem d25_48 : decode jdk_52_method_5_code 48 = .ok (.baload, 1) := by decide +kernel
theorem d25_49 : decode jdk_52_method_5_code 49 = .ok (.sipush 255, 3) := by decide +kernel
theorem d25_52 : decode jdk_52_method_5_code 52 = .ok (.iand, 1) := by decide +kernel
theorem d25_53 : decode jdk_52_method_5_code 53 = .ok (.getstatic 63, 3) := by decide +kernel
theorem d25_56 : decode jdk_52_method_5_code 56 = .ok (.ishl, 1) := by decide +kernel
theorem d25_57 : decode jdk_52_method_5_code 57 = .ok (.ior, 1) := by decide +kernel
theorem d25_58 : decode jdk_52_method_5_code 58 = .ok (.i2c, 1) := by decide +kernel
theorem d25_59 : decode jdk_52_method_5_code 59 = .ok (.ireturn, 1) := by decide +kernel
theorem pn_25 : plainFor (⟨"java/lang/StringUTF16", "getChar", "([BI)C"⟩ : MethodName) = true := by first | exact plainFor_of_name (by first | (simp [plainName, overriddenIn]; done) | decide +kernel) | decide +kernel
theorem ef_25 (m : MethodId) (a1 : Addr) (p2 : Int32) : entryFrame m #[(.ref a1), (.int p2)] 2 = mkF m 0 #[.val (.ref a1), .val (.int p2)] [] := by first | (simp [entryFrame, argsToLocals, Value.category, Array.replicate]; done) | rfl
theorem pd_25 : parseMethodDescriptor "([BI)C" = some ⟨[(.array .byte), .int], some .char⟩ := by decide +kernel
def Q25 (Z : State) (a1 : Addr) (p2 : Int32) (n : Nat) (f : Nat → Int32) (i : Nat) (h0 : Heap) (n0 : Nat) (v : Option Value) (h : Heap) (L : List Loc) : Prop := v = some (.int (GC (f (2 * i)) (f (2 * i + 1)))) ∧ Fr n0 L ∧ h0 = h
theorem rm25 (l : Launch) (Z : State) (a0 : Array Value) (hw : ∀ d ∈ tables_1, d.before a0 Z = true) (ws : List Jvm.Cond) (a1 : Addr) (p2 : Int32) (n : Nat) (f : Nat → Int32) (i : Nat) (h0 : Heap) (n0 : Nat) (Z0 : n0 ≤ h0.size) (cs : Int32) (fm : Value) (TT : STT Z cs fm) (OL : Old Z n0 h0) (A : PA Z h0 a1 .byte n f) (hp : p2.toInt = (i : Int)) (hi : 2 * i + 1 < n) (hi2 : i < 100) :
    MetFree l (⟨"java/lang/StringUTF16", "getChar", "([BI)C"⟩ : MethodName) (head1 (Jvm.Cond.code (⟨"java/lang/StringUTF16", "getChar", "([BI)C"⟩ : MethodName) jdk_52_method_5_code 2 (some .char) :: ws) ({ frames := 0, cells := 0, slots := 0, locals := 0 } : Room)) (fun a U => a = #[(.ref a1), (.int p2)] ∧ Z.Warmed39 U.vm ∧ U.heap = h0) (fun _ _ _ _ _ => True) (fun _ U o U' => ∃ v L, o = .returned v ∧ (Q25 Z a1 p2 n f i h0 n0) v U'.heap L ∧ FrameEnd U o U' L ({ frames := 0, cells := 0, slots := 0, locals := 0 } : Room).cells ({ frames := 0, cells := 0, slots := 0, locals := 0 } : Room).slots) := by
  refine MetFree.of_bodySF pn_25 hisR ?_
  intro p e s m args below meth c s₁ Bd hml0 hP hK
  obtain ⟨rfl, hZ, hh⟩ := hP
  have hx := Bd.exec
  have hby := Bd.bytes
  have hml : c.maxLocals = 2 := hml0
  have hown : s.vm.findClass "java/lang/StringUTF16" = some m.cls := findClass_of_methodNamed Bd.named
  have hnm := (name_of_methodNamed Bd.named Bd.method).1
  have X0 : Stand p l e ({ frames := 0, cells := 0, slots := 0, locals := 0 } : Room) s m #[(.ref a1), (.int p2)] below meth c s₁ [] 0 0 := Stand.of_body Bd
  have e0 : s₁.heap = h0 := by rw [← hh, Bd.state]; rfl
  have N0 := Fr.nil n0
  have lk : meth.locks = false := BodyLoose.notSynchronized Bd
  have hret := Bd.returns
  show Ends p e below (EF s ({ frames := 0, cells := 0, slots := 0, locals := 0 } : Room).cells ({ frames := 0, cells := 0, slots := 0, locals := 0 } : Room).slots) (Q25 Z a1 p2 n f i h0 n0) (s₁.setTop (entryFrame m #[(.ref a1), (.int p2)] 2))
  refine Ends.cast (ef_25 m a1 p2) ?_
  refine own_getS (n := 3) X0 hx hZ hown (hw _ (List.mem_of_getElem? (i := 103) rfl)) e0 (TT.2.2.2.1.ext OL.2) (hb hby d25_0) rfl ?_
  intro T1 X1 e1
  refine own_ifYes (n := 28) X1 hx (hb hby d25_3) (Jvm.Free.XT.i0_ne_t (by decide)) (by decide) (by decide) ?_
  refine own_iloadN (n := 29) X1 hx (hb hby d25_28) rfl rfl ?_
  refine own_iconst (n := 30) X1 hx (1 : Int32) (hb hby d25_29) rfl rfl ?_
  refine own_ishl (n := 31) X1 hx (hb hby d25_30) rfl ?_
  refine own_istoreN (n := 32) X1 hx (hb hby d25_31) (l' := #[.val (.ref a1), .val (.int (p2 <<< ((1 : Int32) &&& 31)))]) rfl rfl ?_
  refine own_aloadN (n := 33) X1 hx (hb hby d25_32) rfl rfl rfl ?_
  refine own_iloadN (n := 34) X1 hx (hb hby d25_33) rfl rfl ?_
  refine own_iinc (n := 37) X1 hx (hb hby d25_34) rfl (v := (1 : Int32)) rfl (l' := #[.val (.ref a1), .val (.int ((p2 <<< ((1 : Int32) &&& 31)) + (1 : Int32)))]) rfl rfl ?_
  refine own_baload (n := 38) X1 hx hZ e1 A (i := (2 * i)) (own_sh1 hp (by omega)) (by omega) (hb hby d25_37) rfl ?_
  refine own_sipush (n := 41) X1 hx (255 : Int32) (hb hby d25_38) rfl rfl ?_
  refine own_iand (n := 42) X1 hx (hb hby d25_41) rfl ?_
  refine own_getS (n := 45) X1 hx hZ hown (hw _ (List.mem_of_getElem? (i := 104) rfl)) e1 (TT.2.2.2.2.1.ext OL.2) (hb hby d25_42) rfl ?_
  intro T2 X2 e2
  refine own_ishl (n := 46) X2 hx (hb hby d25_45) rfl ?_
  refine own_aloadN (n := 47) X2 hx (hb hby d25_46) rfl rfl rfl ?_
  refine own_iloadN (n := 48) X2 hx (hb hby d25_47) rfl rfl ?_
  refine own_baload (n := 49) X2 hx hZ e2 A (i := (2 * i + 1)) (own_sh2 hp (by omega)) hi (hb hby d25_48) rfl ?_
  refine own_sipush (n := 52) X2 hx (255 : Int32) (hb hby d25_49) rfl rfl ?_
  refine own_iand (n := 53) X2 hx (hb hby d25_52) rfl ?_
  refine own_getS (n := 56) X2 hx hZ hown (hw _ (List.mem_of_getElem? (i := 105) rfl)) e2 (TT.2.2.2.2.2.1.ext OL.2) (hb hby d25_53) rfl ?_
  intro T3 X3 e3
  refine own_ishl (n := 57) X3 hx (hb hby d25_56) rfl ?_
  refine own_ior (n := 58) X3 hx (hb hby d25_57) rfl ?_
  refine own_i2c (n := 59) X3 hx (hb hby d25_58) rfl ?_
  refine own_retN X3 hx lk hret (by simp) (hb hby d25_59) (by decide) (by decide) ?_
  rw [e3]
  exact ⟨rfl, N0, rfl⟩
theorem d24_0 : decode jdk_52_method_4_code 0 = .ok (.getstatic 44, 3) := by decide +kernel
theorem d24_3 : decode jdk_52_method_4_code 3 = .ok (.ifCond .ne 25, 3) := by decide +kernel
theorem d24_6 : decode jdk_52_method_4_code 6 = .ok (.iload_n 1, 1) := by decide +kernel
theorem d24_7 : decode jdk_52_method_4_code 7 = .ok (.ifCond .lt 11, 3) := by decide +kernel
theorem d24_10 : decode jdk_52_method_4_code 10 = .ok (.iload_n 1, 1) := by decide +kernel
theorem d24_11 : decode jdk_52_method_4_code 11 = .ok (.aload_n 0, 1) := by decide +kernel
theorem d24_12 : decode jdk_52_method_4_code 12 = .ok (.invokestatic 48, 3) := by decide +kernel
theorem d24_15 : decode jdk_52_method_4_code 15 = .ok (.if_icmp .lt 13, 3) := by decide +kernel
theorem d24_18 : decode jdk_52_method_4_code 18 = .ok (.new 52, 3) := by decide +kernel
theorem d24_21 : decode jdk_52_method_4_code 21 = .ok (.dup, 1) := by decide +kernel
theorem d24_22 : decode jdk_52_method_4_code 22 = .ok (.ldc 54, 2) := by decide +kernel
theorem d24_24 : decode jdk_52_method_4_code 24 = .ok (.invokespecial 56, 3) := by decide +kernel
theorem d24_27 : decode jdk_52_method_4_code 27 = .ok (.athrow, 1) := by decide +kernel
theorem d24_28 : decode jdk_52_method_4_code 28 = .ok (.iload_n 1, 1) := by decide +kernel
theorem d24_29 : decode jdk_52_method_4_code 29 = .ok (.iconst 1, 1) := by decide +kernel
theorem d24_30 : decode jdk_52_method_4_code 30 = .ok (.ishl, 1) := by decide +kernel
theorem d24_31 : decode jdk_52_method_4_code 31 = .ok (.istore_n 1, 1) := by decide +kernel
theorem d24_32 : decode jdk_52_method_4_code 32 = .ok (.aload_n 0, 1) := by decide +kernel
theorem d24_33 : decode jdk_52_method_4_code 33 = .ok (.iload_n 1, 1) := by decide +kernel
theorem d24_34 : decode jdk_52_method_4_code 34 = .ok (.iinc 1 1, 3) := by decide +kernel
theorem d24_37 : decode jdk_52_method_4_code 37 = .ok (.iload_n 2, 1) := by decide +kernel
theorem d24_38 : decode jdk_52_method_4_code 38 = .ok (.getstatic 59, 3) := by decide +kernel
theorem d24_41 : decode jdk_52_method_4_code 41 = .ok (.ishr, 1) := by decide +kernel
theorem d24_42 : decode jdk_52_method_4_code 42 = .ok (.i2b, 1) := by decide +kernel
theorem d24_43 : decode jdk_52_method_4_code 43 = .ok (.bastore, 1) := by decide +kernel
theorem d24_44 : decode jdk_52_method_4_code 44 = .ok (.aload_n 0, 1) := by decide +kernel
theorem d24_45 : decode jdk_52_method_4_code 45 = .ok (.iload_n 1, 1) := by decide +kernel
theorem d24_46 : decode jdk_52_method_4_code 46 = .ok (.iload_n 2, 1) := by decide +kernel
theorem d24_47 : decode jdk_52_method_4_code 47 = .ok (.getstatic 63, 3) := by decide +kernel
theorem d24_50 : decode jdk_52_method_4_code 50 = .ok (.ishr, 1) := by decide +kernel
theorem d24_51 : decode jdk_52_method_4_code 51 = .ok (.i2b, 1) := by decide +kernel
theorem d24_52 : decode jdk_52_method_4_code 52 = .ok (.bastore, 1) := by decide +kernel
theorem d24_53 : decode jdk_52_method_4_code 53 = .ok (.return_, 1) := by decide +kernel
theorem pn_24 : plainFor (⟨"java/lang/StringUTF16", "putChar", "([BII)V"⟩ : MethodName) = true := by first | exact plainFor_of_name (by first | (simp [plainName, overriddenIn]; done) | decide +kernel) | decide +kernel
theorem ef_24 (m : MethodId) (a1 : Addr) (p2 : Int32) (p3 : Int32) : entryFrame m #[(.ref a1), (.int p2), (.int p3)] 3 = mkF m 0 #[.val (.ref a1), .val (.int p2), .val (.int p3)] [] := by first | (simp [entryFrame, argsToLocals, Value.category, Array.replicate]; done) | rfl
theorem pd_24 : parseMethodDescriptor "([BII)V" = some ⟨[(.array .byte), .int, .int], none⟩ := by decide +kernel
def Q24 (Z : State) (a1 : Addr) (p2 : Int32) (p3 : Int32) (n : Nat) (f : Nat → Int32) (i : Nat) (h0 : Heap) (n0 : Nat) (v : Option Value) (h : Heap) (L : List Loc) : Prop := v = none ∧ Fr n0 L ∧ Keep h0 h [a1] ∧ PA Z h a1 .byte n (fun y => if y = 2 * i + 1 then HIB p3 else (fun y => if y = 2 * i then LOB p3 else f y) y)
theorem rm24 (l : Launch) (Z : State) (a0 : Array Value) (hw : ∀ d ∈ tables_1, d.before a0 Z = true) (ws : List Jvm.Cond) (a1 : Addr) (p2 : Int32) (p3 : Int32) (n : Nat) (f : Nat → Int32) (i : Nat) (h0 : Heap) (n0 : Nat) (Z0 : n0 ≤ h0.size) (cs : Int32) (fm : Value) (TT : STT Z cs fm) (OL : Old Z n0 h0) (A : PA Z h0 a1 .byte n f) (hp : p2.toInt = (i : Int)) (hi : 2 * i + 1 < n) (hi2 : i < 100) (nb : n0 ≤ a1) :
    MetFree l (⟨"java/lang/StringUTF16", "putChar", "([BII)V"⟩ : MethodName) (head1 (Jvm.Cond.code (⟨"java/lang/StringUTF16", "putChar", "([BII)V"⟩ : MethodName) jdk_52_method_4_code 3 (none) :: ws) ({ frames := 0, cells := 0, slots := 0, locals := 0 } : Room)) (fun a U => a = #[(.ref a1), (.int p2), (.int p3)] ∧ Z.Warmed39 U.vm ∧ U.heap = h0) (fun _ _ _ _ _ => True) (fun _ U o U' => ∃ v L, o = .returned v ∧ (Q24 Z a1 p2 p3 n f i h0 n0) v U'.heap L ∧ FrameEnd U o U' L ({ frames := 0, cells := 0, slots := 0, locals := 0 } : Room).cells ({ frames := 0, cells := 0, slots := 0, locals := 0 } : Room).slots) := by
  refine MetFree.of_bodySF pn_24 hisR ?_
  intro p e s m args below meth c s₁ Bd hml0 hP hK
  obtain ⟨rfl, hZ, hh⟩ := hP
  have hx := Bd.exec
  have hby := Bd.bytes
  have hml : c.maxLocals = 3 := hml0
  have hown : s.vm.findClass "java/lang/StringUTF16" = some m.cls := findClass_of_methodNamed Bd.named
  have hnm := (name_of_methodNamed Bd.named Bd.method).1
  have X0 : Stand p l e ({ frames := 0, cells := 0, slots := 0, locals := 0 } : Room) s m #[(.ref a1), (.int p2), (.int p3)] below meth c s₁ [] 0 0 := Stand.of_body Bd
  have e0 : s₁.heap = h0 := by rw [← hh, Bd.state]; rfl
  have N0 := Fr.nil n0
  have lk : meth.locks = false := BodyLoose.notSynchronized Bd
  have hret := Bd.returns
  show Ends p e below (EF s ({ frames := 0, cells := 0, slots := 0, locals := 0 } : Room).cells ({ frames := 0, cells := 0, slots := 0, locals := 0 } : Room).slots) (Q24 Z a1 p2 p3 n f i h0 n0) (s₁.setTop (entryFrame m #[(.ref a1), (.int p2), (.int p3)] 3))
  refine Ends.cast (ef_24 m a1 p2 p3) ?_
  refine own_getS (n := 3) X0 hx hZ hown (hw _ (List.mem_of_getElem? (i := 103) rfl)) e0 (TT.2.2.2.1.ext OL.2) (hb hby d24_0) rfl ?_
  intro T1 X1 e1
  refine own_ifYes (n := 28) X1 hx (hb hby d24_3) (Jvm.Free.XT.i0_ne_t (by decide)) (by decide) (by decide) ?_
  refine own_iloadN (n := 29) X1 hx (hb hby d24_28) rfl rfl ?_
  refine own_iconst (n := 30) X1 hx (1 : Int32) (hb hby d24_29) rfl rfl ?_
  refine own_ishl (n := 31) X1 hx (hb hby d24_30) rfl ?_
  refine own_istoreN (n := 32) X1 hx (hb hby d24_31) (l' := #[.val (.ref a1), .val (.int (p2 <<< ((1 : Int32) &&& 31))), .val (.int p3)]) rfl rfl ?_
  refine own_aloadN (n := 33) X1 hx (hb hby d24_32) rfl rfl rfl ?_
  refine own_iloadN (n := 34) X1 hx (hb hby d24_33) rfl rfl ?_
  refine own_iinc (n := 37) X1 hx (hb hby d24_34) rfl (v := (1 : Int32)) rfl (l' := #[.val (.ref a1), .val (.int ((p2 <<< ((1 : Int32) &&& 31)) + (1 : Int32))), .val (.int p3)]) rfl rfl ?_
  refine own_iloadN (n := 38) X1 hx (hb hby d24_37) rfl rfl ?_
  refine own_getS (n := 41) X1 hx hZ hown (hw _ (List.mem_of_getElem? (i := 104) rfl)) e1 (TT.2.2.2.2.1.ext OL.2) (hb hby d24_38) rfl ?_
  intro T2 X2 e2
  refine own_ishr (n := 42) X2 hx (hb hby d24_41) rfl ?_
  refine own_i2b (n := 43) X2 hx (hb hby d24_42) rfl ?_
  refine own_bastore (n := 44) X2 hx hZ e2 A (i := (2 * i)) (own_sh1 hp (by omega)) (by omega) (hb hby d24_43) rfl ?_
  intro T3 h3 X3 e3 W3 A3
  have N3 := Fr.snoc X3 N0 nb
  have Z3 : n0 ≤ h3.size := Nat.le_trans Z0 (Keep.of_wr W3).1
  have OL3 := OL.wr W3 nb
  have K3 : Keep h0 h3 [a1] := (Keep.refl h0 [a1]).wr W3 (Or.inl (List.mem_of_getElem? (i := 0) rfl))
  refine own_aloadN (n := 45) X3 hx (hb hby d24_44) rfl rfl rfl ?_
  refine own_iloadN (n := 46) X3 hx (hb hby d24_45) rfl rfl ?_
  refine own_iloadN (n := 47) X3 hx (hb hby d24_46) rfl rfl ?_
  refine own_getS (n := 50) X3 hx hZ hown (hw _ (List.mem_of_getElem? (i := 105) rfl)) e3 (TT.2.2.2.2.2.1.ext OL3.2) (hb hby d24_47) rfl ?_
  intro T4 X4 e4
  refine own_ishr (n := 51) X4 hx (hb hby d24_50) rfl ?_
  refine own_i2b (n := 52) X4 hx (hb hby d24_51) rfl ?_
  refine own_bastore (n := 53) X4 hx hZ e4 A3 (i := (2 * i + 1)) (own_sh2 hp (by omega)) hi (hb hby d24_52) rfl ?_
  intro T5 h5 X5 e5 W5 A5
  have N5 := Fr.snoc X5 N3 nb
  have Z5 : n0 ≤ h5.size := Nat.le_trans Z3 (Keep.of_wr W5).1
  have OL5 := OL3.wr W5 nb
  have K5 : Keep h0 h5 [a1] := K3.wr W5 (Or.inl (List.mem_of_getElem? (i := 0) rfl))
  refine own_retV X5 hx lk hret (hb hby d24_53) (by decide) (by decide) ?_
  rw [e5]
  exact ⟨rfl, N5, K5, A5⟩
theorem d23_0 : decode jdk_52_method_3_code 0 = .ok (.iload_n 0, 1) := by decide +kernel
theorem d23_1 : decode jdk_52_method_3_code 1 = .ok (.ifCond .ge 11, 3) := by decide +kernel
theorem d23_4 : decode jdk_52_method_3_code 4 = .ok (.new 17, 3) := by decide +kernel
theorem d23_7 : decode jdk_52_method_3_code 7 = .ok (.dup, 1) := by decide +kernel
theorem d23_8 : decode jdk_52_method_3_code 8 = .ok (.invokespecial 19, 3) := by decide +kernel
theorem d23_11 : decode jdk_52_method_3_code 11 = .ok (.athrow, 1) := by decide +kernel
theorem d23_12 : decode jdk_52_method_3_code 12 = .ok (.iload_n 0, 1) := by decide +kernel
theorem d23_13 : decode jdk_52_method_3_code 13 = .ok (.ldc 20, 2) := by decide +kernel
theorem d23_15 : decode jdk_52_method_3_code 15 = .ok (.if_icmp .lt 40, 3) := by decide +kernel
theorem d23_18 : decode jdk_52_method_3_code 18 = .ok (.new 21, 3) := by decide +kernel
theorem d23_21 : decode jdk_52_method_3_code 21 = .ok (.dup, 1) := by decide +kernel
theorem d23_22 : decode jdk_52_method_3_code 22 = .ok (.new 23, 3) := by decide +kernel
theorem d23_25 : decode jdk_52_method_3_code 25 = .ok (.dup, 1) := by decide +kernel
theorem d23_26 : decode jdk_52_method_3_code 26 = .ok (.invokespecial 25, 3) := by decide +kernel
theorem d23_29 : decode jdk_52_method_3_code 29 = .ok (.ldc 26, 2) := by decide +kernel
theorem d23_31 : decode jdk_52_method_3_code 31 = .ok (.invokevirtual 28, 3) := by decide +kernel
theorem d23_34 : decode jdk_52_method_3_code 34 = .ok (.iload_n 0, 1) := by decide +kernel
theorem d23_35 : decode jdk_52_method_3_code 35 = .ok (.invokevirtual 32, 3) := by decide +kernel
theorem d23_38 : decode jdk_52_method_3_code 38 = .ok (.ldc 35, 2) := by decide +kernel
theorem d23_40 : decode jdk_52_method_3_code 40 = .ok (.invokevirtual 28, 3) := by decide +kernel
theorem d23_43 : decode jdk_52_method_3_code 43 = .ok (.ldc 20, 2) := by decide +kernel
theorem d23_45 : decode jdk_52_method_3_code 45 = .ok (.invokevirtual 32, 3) := by decide +kernel
theorem d23_48 : decode jdk_52_method_3_code 48 = .ok (.invokevirtual 37, 3) := by decide +kernel
theorem d23_51 : decode jdk_52_method_3_code 51 = .ok (.invokespecial 41, 3) := by decide +kernel
theorem d23_54 : decode jdk_52_method_3_code 54 = .ok (.athrow, 1) := by decide +kernel
theorem d23_55 : decode jdk_52_method_3_code 55 = .ok (.iload_n 0, 1) := by decide +kernel
theorem d23_56 : decode jdk_52_method_3_code 56 = .ok (.iconst 1, 1) := by decide +kernel
theorem d23_57 : decode jdk_52_method_3_code 57 = .ok (.ishl, 1) := by decide +kernel
theorem d23_58 : decode jdk_52_method_3_code 58 = .ok (.ireturn, 1) := by decide +kernel
theorem pn_23 : plainFor (⟨"java/lang/StringUTF16", "newBytesLength", "(I)I"⟩ : MethodName) = true := by first | exact plainFor_of_name (by first | (simp [plainName, overriddenIn]; done) | decide +kernel) | decide +kernel
theorem ef_23 (m : MethodId) (p1 : Int32) : entryFrame m #[(.int p1)] 1 = mkF m 0 #[.val (.int p1)] [] := by first | (simp [entryFrame, argsToLocals, Value.category, Array.replicate]; done) | rfl
theorem pd_23 : parseMethodDescriptor "(I)I" = some ⟨[.int], some .int⟩ := by decide +kernel
def Q23 (Z : State) (p1 : Int32) (k : Nat) (h0 : Heap) (n0 : Nat) (v : Option Value) (h : Heap) (L : List Loc) : Prop := v = some (.int (p1 <<< ((1 : Int32) &&& 31))) ∧ Fr n0 L ∧ h0 = h
theorem rm23 (l : Launch) (Z : State) (a0 : Array Value) (hw : ∀ d ∈ tables_1, d.before a0 Z = true) (ws : List Jvm.Cond) (p1 : Int32) (k : Nat) (h0 : Heap) (n0 : Nat) (Z0 : n0 ≤ h0.size) (hk : p1.toInt = (k : Int)) (hk4 : k ≤ 4) :
    MetFree l (⟨"java/lang/StringUTF16", "newBytesLength", "(I)I"⟩ : MethodName) (head1 (Jvm.Cond.code (⟨"java/lang/StringUTF16", "newBytesLength", "(I)I"⟩ : MethodName) jdk_52_method_3_code 1 (some .int) :: ws) ({ frames := 0, cells := 0, slots := 0, locals := 0 } : Room)) (fun a U => a = #[(.int p1)] ∧ Z.Warmed39 U.vm ∧ U.heap = h0) (fun _ _ _ _ _ => True) (fun _ U o U' => ∃ v L, o = .returned v ∧ (Q23 Z p1 k h0 n0) v U'.heap L ∧ FrameEnd U o U' L ({ frames := 0, cells := 0, slots := 0, locals := 0 } : Room).cells ({ frames := 0, cells := 0, slots := 0, locals := 0 } : Room).slots) := by
  refine MetFree.of_bodySF pn_23 hisR ?_
  intro p e s m args below meth c s₁ Bd hml0 hP hK
  obtain ⟨rfl, hZ, hh⟩ := hP
  have hx := Bd.exec
  have hby := Bd.bytes
  have hml : c.maxLocals = 1 := hml0
  have hown : s.vm.findClass "java/lang/StringUTF16" = some m.cls := findClass_of_methodNamed Bd.named
  have hnm := (name_of_methodNamed Bd.named Bd.method).1
  have X0 : Stand p l e ({ frames := 0, cells := 0, slots := 0, locals := 0 } : Room) s m #[(.int p1)] below meth c s₁ [] 0 0 := Stand.of_body Bd
  have e0 : s₁.heap = h0 := by rw [← hh, Bd.state]; rfl
  have N0 := Fr.nil n0
  have lk : meth.locks = false := BodyLoose.notSynchronized Bd
  have hret := Bd.returns
  show Ends p e below (EF s ({ frames := 0, cells := 0, slots := 0, locals := 0 } : Room).cells ({ frames := 0, cells := 0, slots := 0, locals := 0 } : Room).slots) (Q23 Z p1 k h0 n0) (s₁.setTop (entryFrame m #[(.int p1)] 1))
  refine Ends.cast (ef_23 m p1) ?_
  refine own_iloadN (n := 1) X0 hx (hb hby d23_0) rfl rfl ?_
  refine own_ifYes (n := 12) X0 hx (hb hby d23_1) (Jvm.Free.XT.i0_ge_t (by have o0 : (0 : Int32).toInt = 0 := rfl; rw [Int32.lt_iff_toInt_lt]; omega)) (by decide) (by decide) ?_
  refine own_iloadN (n := 13) X0 hx (hb hby d23_12) rfl rfl ?_
  refine own_ldc (n := 15) X0 hx hZ hown (hw _ (List.mem_of_getElem? (i := 99) rfl)) (hb hby d23_13) rfl ?_
  refine own_icmpYes (n := 55) X0 hx (hb hby d23_15) (Jvm.Free.XT.ii_lt_t (by have o0 : (1073741823 : Int32).toInt = 1073741823 := rfl; rw [Int32.lt_iff_toInt_lt, o0]; omega)) (by decide) (by decide) ?_
  refine own_iloadN (n := 56) X0 hx (hb hby d23_55) rfl rfl ?_
  refine own_iconst (n := 57) X0 hx (1 : Int32) (hb hby d23_56) rfl rfl ?_
  refine own_ishl (n := 58) X0 hx (hb hby d23_57) rfl ?_
  refine own_retI X0 hx lk hret (hb hby d23_58) (by decide) (by decide) ?_
  rw [e0]
  exact ⟨rfl, N0, rfl⟩
theorem d22_0 : decode jdk_52_method_2_code 0 = .ok (.iload_n 0, 1) := by decide +kernel
theorem d22_1 : decode jdk_52_method_2_code 1 = .ok (.invokestatic 11, 3) := by decide +kernel
theorem d22_4 : decode jdk_52_method_2_code 4 = .ok (.newarray .byte, 2) := by decide +kernel
theorem d22_6 : decode jdk_52_method_2_code 6 = .ok (.areturn, 1) := by decide +kernel
theorem pn_22 : plainFor (⟨"java/lang/StringUTF16", "newBytesFor", "(I)[B"⟩ : MethodName) = true := by first | exact plainFor_of_name (by first | (simp [plainName, overriddenIn]; done) | decide +kernel) | decide +kernel
theorem ef_22 (m : MethodId) (p1 : Int32) : entryFrame m #[(.int p1)] 1 = mkF m 0 #[.val (.int p1)] [] := by first | (simp [entryFrame, argsToLocals, Value.category, Array.replicate]; done) | rfl
theorem pd_22 : parseMethodDescriptor "(I)[B" = some ⟨[.int], some (.array .byte)⟩ := by decide +kernel
def Q22 (Z : State) (p1 : Int32) (k : Nat) (h0 : Heap) (n0 : Nat) (v : Option Value) (h : Heap) (L : List Loc) : Prop := ∃ a, v = some (.ref a) ∧ Fr n0 L ∧ Keep h0 h [] ∧ PA Z h a .byte (2 * k) (fun _ => 0) ∧ h0.size ≤ a
theorem rm22 (l : Launch) (Z : State) (a0 : Array Value) (hw : ∀ d ∈ tables_1, d.before a0 Z = true) (ws : List Jvm.Cond) (p1 : Int32) (k : Nat) (h0 : Heap) (n0 : Nat) (Z0 : n0 ≤ h0.size) (hk : p1.toInt = (k : Int)) (hk4 : k ≤ 4) :
    MetFree l (⟨"java/lang/StringUTF16", "newBytesFor", "(I)[B"⟩ : MethodName) (head1 (Jvm.Cond.code (⟨"java/lang/StringUTF16", "newBytesFor", "(I)[B"⟩ : MethodName) jdk_52_method_2_code 1 (some (.array .byte)) :: ws) ({ frames := 1, cells := 1, slots := 8, locals := 12 } : Room)) (fun a U => a = #[(.int p1)] ∧ Z.Warmed39 U.vm ∧ U.heap = h0) (fun _ _ _ _ _ => True) (fun _ U o U' => ∃ v L, o = .returned v ∧ (Q22 Z p1 k h0 n0) v U'.heap L ∧ FrameEnd U o U' L ({ frames := 1, cells := 1, slots := 8, locals := 12 } : Room).cells ({ frames := 1, cells := 1, slots := 8, locals := 12 } : Room).slots) := by
  refine MetFree.of_bodySF pn_22 hisR ?_
  intro p e s m args below meth c s₁ Bd hml0 hP hK
  obtain ⟨rfl, hZ, hh⟩ := hP
  have hx := Bd.exec
  have hby := Bd.bytes
  have hml : c.maxLocals = 1 := hml0
  have hown : s.vm.findClass "java/lang/StringUTF16" = some m.cls := findClass_of_methodNamed Bd.named
  have hnm := (name_of_methodNamed Bd.named Bd.method).1
  have X0 : Stand p l e ({ frames := 1, cells := 1, slots := 8, locals := 12 } : Room) s m #[(.int p1)] below meth c s₁ [] 0 0 := Stand.of_body Bd
  have e0 : s₁.heap = h0 := by rw [← hh, Bd.state]; rfl
  have N0 := Fr.nil n0
  have lk : meth.locks = false := BodyLoose.notSynchronized Bd
  have hret := Bd.returns
  show Ends p e below (EF s ({ frames := 1, cells := 1, slots := 8, locals := 12 } : Room).cells ({ frames := 1, cells := 1, slots := 8, locals := 12 } : Room).slots) (Q22 Z p1 k h0 n0) (s₁.setTop (entryFrame m #[(.int p1)] 1))
  refine Ends.cast (ef_22 m p1) ?_
  refine own_iloadN (n := 1) X0 hx (hb hby d22_0) rfl rfl ?_
  refine own_callS (n := 4) X0 hx hZ hown (hw _ (List.mem_of_getElem? (i := 96) rfl)) (hw _ (List.mem_of_getElem? (i := 97) rfl)) (hw _ (List.mem_of_getElem? (i := 79) rfl)) (hw _ (List.mem_of_getElem? (i := 98) rfl)) (by decide) e0 (rm23 l Z a0 hw [] p1 k h0 n0 Z0 hk hk4) (W := 0) (by decide) (by decide) (by decide) (by decide) (by rw [hml]; rfl) (argsL := [(.int p1)]) (rest := []) pd_23 rfl (by rfl) (Nat.le_of_eq rfl) (hb hby d22_1) rfl rfl ?_
  intro v1 T1 h1 L1 X1 e1 q1
  obtain ⟨rfl, M1, rfl⟩ := q1
  have N1 := Fr.app N0 M1
  refine own_newarr (n := 6) X1 hx hZ (ty := .byte) rfl rfl (hw _ (List.mem_of_getElem? (i := 23) rfl)) e1 (i := (2 * k)) (cap := 8) (own_sh1 hk (by omega)) (by omega) (by decide) (by decide) (by decide) (hb hby d22_4) rfl ?_
  intro T2 h2 b2 X2 e2 g2 E2 A2
  have Z2 : n0 ≤ h2.size := Nat.le_trans Z0 E2.1
  have nb_b2 : n0 ≤ b2 := Nat.le_trans Z0 (Nat.le_of_eq g2.symm)
  have K2 : Keep h0 h2 [] := (Keep.refl h0 []).ext E2
  have big_b2 : h0.size ≤ b2 := Nat.le_trans (Keep.refl h0 []).1 (Nat.le_of_eq g2.symm)
  refine own_retA X2 hx lk hret rfl rfl (hb hby d22_6) (by decide) (by decide) ?_
  rw [e2]
  exact ⟨_, rfl, N1, K2, A2, big_b2⟩
theorem d21_0 : decode jdk_52_method_14_code 0 = .ok (.iload_n 2, 1) := by decide +kernel
theorem d21_1 : decode jdk_52_method_14_code 1 = .ok (.invokestatic 107, 3) := by decide +kernel
theorem d21_4 : decode jdk_52_method_14_code 4 = .ok (.astore_n 3, 1) := by decide +kernel
theorem d21_5 : decode jdk_52_method_14_code 5 = .ok (.iconst 0, 1) := by decide +kernel
theorem d21_6 : decode jdk_52_method_14_code 6 = .ok (.istore 4, 2) := by decide +kernel
theorem d21_8 : decode jdk_52_method_14_code 8 = .ok (.iload 4, 2) := by decide +kernel
theorem d21_10 : decode jdk_52_method_14_code 10 = .ok (.iload_n 2, 1) := by decide +kernel
theorem d21_11 : decode jdk_52_method_14_code 11 = .ok (.if_icmp .ge 21, 3) := by decide +kernel
theorem d21_14 : decode jdk_52_method_14_code 14 = .ok (.aload_n 3, 1) := by decide +kernel
theorem d21_15 : decode jdk_52_method_14_code 15 = .ok (.iload 4, 2) := by decide +kernel
theorem d21_17 : decode jdk_52_method_14_code 17 = .ok (.aload_n 0, 1) := by decide +kernel
theorem d21_18 : decode jdk_52_method_14_code 18 = .ok (.iload_n 1, 1) := by decide +kernel
theorem d21_19 : decode jdk_52_method_14_code 19 = .ok (.caload, 1) := by decide +kernel
theorem d21_20 : decode jdk_52_method_14_code 20 = .ok (.invokestatic 111, 3) := by decide +kernel
theorem d21_23 : decode jdk_52_method_14_code 23 = .ok (.iinc 1 1, 3) := by decide +kernel
theorem d21_26 : decode jdk_52_method_14_code 26 = .ok (.iinc 4 1, 3) := by decide +kernel
theorem d21_29 : decode jdk_52_method_14_code 29 = .ok (.goto (-21), 3) := by decide +kernel
theorem d21_32 : decode jdk_52_method_14_code 32 = .ok (.aload_n 3, 1) := by decide +kernel
theorem d21_33 : decode jdk_52_method_14_code 33 = .ok (.areturn, 1) := by decide +kernel
theorem pn_21 : plainFor (⟨"java/lang/StringUTF16", "toBytes", "([CII)[B"⟩ : MethodName) = true := by first | exact plainFor_of_name (by first | (simp [plainName, overriddenIn]; done) | decide +kernel) | decide +kernel
theorem ef_21 (m : MethodId) (a1 : Addr) (p2 : Int32) (p3 : Int32) : entryFrame m #[(.ref a1), (.int p2), (.int p3)] 5 = mkF m 0 #[.val (.ref a1), .val (.int p2), .val (.int p3), .unset, .unset] [] := by first | (simp [entryFrame, argsToLocals, Value.category, Array.replicate]; done) | rfl
theorem pd_21 : parseMethodDescriptor "([CII)[B" = some ⟨[(.array .char), .int, .int], some (.array .byte)⟩ := by decide +kernel
def Q21 (Z : State) (a1 : Addr) (p2 : Int32) (p3 : Int32) (k : Nat) (g : Nat → Int32) (h0 : Heap) (n0 : Nat) (v : Option Value) (h : Heap) (L : List Loc) : Prop := ∃ a f, v = some (.ref a) ∧ Fr n0 L ∧ Keep h0 h [] ∧ PA Z h a .byte (2 * k) f ∧ h0.size ≤ a ∧ UTF g f k
theorem rm21 (l : Launch) (Z : State) (a0 : Array Value) (hw : ∀ d ∈ tables_1, d.before a0 Z = true) (ws : List Jvm.Cond) (a1 : Addr) (p2 : Int32) (p3 : Int32) (k : Nat) (g : Nat → Int32) (h0 : Heap) (n0 : Nat) (Z0 : n0 ≤ h0.size) (cs : Int32) (fm : Value) (TT : STT Z cs fm) (OL : Old Z n0 h0) (A : PA Z h0 a1 .char k g) (zp2 : p2 = 0) (hk : p3.toInt = (k : Int)) (hk4 : k ≤ 4) :
    MetFree l (⟨"java/lang/StringUTF16", "toBytes", "([CII)[B"⟩ : MethodName) (head1 (Jvm.Cond.code (⟨"java/lang/StringUTF16", "toBytes", "([CII)[B"⟩ : MethodName) jdk_52_method_14_code 5 (some (.array .byte)) :: ws) ({ frames := 2, cells := 1, slots := 8, locals := 24 } : Room)) (fun a U => a = #[(.ref a1), (.int p2), (.int p3)] ∧ Z.Warmed39 U.vm ∧ U.heap = h0) (fun _ _ _ _ _ => True) (fun _ U o U' => ∃ v L, o = .returned v ∧ (Q21 Z a1 p2 p3 k g h0 n0) v U'.heap L ∧ FrameEnd U o U' L ({ frames := 2, cells := 1, slots := 8, locals := 24 } : Room).cells ({ frames := 2, cells := 1, slots := 8, locals := 24 } : Room).slots) := by
  refine MetFree.of_bodySF pn_21 hisR ?_
  intro p e s m args below meth c s₁ Bd hml0 hP hK
  obtain ⟨rfl, hZ, hh⟩ := hP
  have hx := Bd.exec
  have hby := Bd.bytes
  have hml : c.maxLocals = 5 := hml0
  have hown : s.vm.findClass "java/lang/StringUTF16" = some m.cls := findClass_of_methodNamed Bd.named
  have hnm := (name_of_methodNamed Bd.named Bd.method).1
  have X0 : Stand p l e ({ frames := 2, cells := 1, slots := 8, locals := 24 } : Room) s m #[(.ref a1), (.int p2), (.int p3)] below meth c s₁ [] 0 0 := Stand.of_body Bd
  have e0 : s₁.heap = h0 := by rw [← hh, Bd.state]; rfl
  have N0 := Fr.nil n0
  have lk : meth.locks = false := BodyLoose.notSynchronized Bd
  have hret := Bd.returns
  show Ends p e below (EF s ({ frames := 2, cells := 1, slots := 8, locals := 24 } : Room).cells ({ frames := 2, cells := 1, slots := 8, locals := 24 } : Room).slots) (Q21 Z a1 p2 p3 k g h0 n0) (s₁.setTop (entryFrame m #[(.ref a1), (.int p2), (.int p3)] 5))
  refine Ends.cast (ef_21 m a1 p2 p3) ?_
  have loop : ∀ (n : Nat) (TB : State) (hB : Heap) (lB : List Loc) (d : Addr) (ii : Int32) (q2 : Int32) (i : Nat) (f : Nat → Int32) (XB : Stand p l e ({ frames := 2, cells := 1, slots := 8, locals := 24 } : Room) s m #[(.ref a1), (.int p2), (.int p3)] below meth c TB lB (0 + 1) (0 + 8)) (eB : TB.heap = hB) (NB : Fr n0 lB) (ZB : n0 ≤ hB.size) (hii : ii.toInt = (i : Int)) (gq2 : q2.toInt = (i : Int)) (hin : i + n = k) (OB : Old Z n0 hB) (A : PA Z hB a1 .char k g) (B : PA Z hB d .byte (2 * k) f) (hne : a1 ≠ d) (nd : n0 ≤ d) (bd : h0.size ≤ d) (KB : Keep h0 hB []) (UB : ∀ j, j < i → f (2 * j) = LOB (g j) ∧ f (2 * j + 1) = HIB (g j)), Ends p e below (EF s ({ frames := 2, cells := 1, slots := 8, locals := 24 } : Room).cells ({ frames := 2, cells := 1, slots := 8, locals := 24 } : Room).slots) (Q21 Z a1 p2 p3 k g h0 n0) (TB.setTop (mkF m 8 #[.val (.ref a1), .val (.int q2), .val (.int p3), .val (.ref d), .val (.int ii)] [])) := by
    intro n
    induction n with
    | zero =>
      intro TB hB lB d ii q2 i f XB eB NB ZB hii gq2 hin OB A B hne nd bd KB UB
      refine own_iload (n := 10) XB hx (hb hby d21_8) rfl rfl ?_
      refine own_iloadN (n := 11) XB hx (hb hby d21_10) rfl rfl ?_
      refine own_icmpYes (n := 32) XB hx (hb hby d21_11) (Jvm.Free.XT.ii_ge_t (by rw [Int32.lt_iff_toInt_lt]; omega)) (by decide) (by decide) ?_
      refine own_aloadN (n := 33) XB hx (hb hby d21_32) rfl rfl rfl ?_
      refine own_retA XB hx lk hret rfl rfl (hb hby d21_33) (by decide) (by decide) ?_
      rw [eB]
      exact ⟨_, _, rfl, NB, KB, B, bd, fun j hj => UB j (by omega)⟩
    | succ n ih =>
      intro TB hB lB d ii q2 i f XB eB NB ZB hii gq2 hin OB A B hne nd bd KB UB
      refine own_iload (n := 10) XB hx (hb hby d21_8) rfl rfl ?_
      refine own_iloadN (n := 11) XB hx (hb hby d21_10) rfl rfl ?_
      refine own_icmpNo (n := 14) XB hx (hb hby d21_11) (Jvm.Free.XT.ii_ge_f (by rw [Int32.lt_iff_toInt_lt]; omega)) rfl ?_
      refine own_aloadN (n := 15) XB hx (hb hby d21_14) rfl rfl rfl ?_
      refine own_iload (n := 17) XB hx (hb hby d21_15) rfl rfl ?_
      refine own_aloadN (n := 18) XB hx (hb hby d21_17) rfl rfl rfl ?_
      refine own_iloadN (n := 19) XB hx (hb hby d21_18) rfl rfl ?_
      refine own_caload (n := 20) XB hx hZ eB A (i := i) gq2 (by omega) (hb hby d21_19) rfl ?_
      refine own_callS (n := 23) XB hx hZ hown (hw _ (List.mem_of_getElem? (i := 100) rfl)) (hw _ (List.mem_of_getElem? (i := 101) rfl)) (hw _ (List.mem_of_getElem? (i := 79) rfl)) (hw _ (List.mem_of_getElem? (i := 102) rfl)) (by decide) eB (rm24 l Z a0 hw [] d ii (g i) (2 * k) f i hB n0 ZB cs fm TT OB B hii (by omega) (by omega) nd) (W := 0) (by decide) (by decide) (by decide) (by decide) (by rw [hml]; rfl) (argsL := [(.ref d), (.int ii), (.int (g i))]) (rest := []) pd_24 rfl (by rfl) (Nat.le_of_eq rfl) (hb hby d21_20) rfl rfl ?_
      intro v1 T1 h1 L1 X1 e1 q1
      obtain ⟨rfl, M1, K1, F1⟩ := q1
      have N1 := Fr.app NB M1
      have Z1 : n0 ≤ h1.size := Nat.le_trans ZB K1.1
      have OL1 := OB.keep K1 (allS nd all0)
      have F1_a1 := A.keep K1 (ninS hne nin0)
      have KK1 := KB.trans K1 (fun z hz => by cases List.mem_singleton.mp hz; exact Or.inr bd)
      refine own_iinc (n := 26) X1 hx (hb hby d21_23) rfl (v := (1 : Int32)) rfl (l' := #[.val (.ref a1), .val (.int (q2 + (1 : Int32))), .val (.int p3), .val (.ref d), .val (.int ii)]) rfl rfl ?_
      refine own_iinc (n := 29) X1 hx (hb hby d21_26) rfl (v := (1 : Int32)) rfl (l' := #[.val (.ref a1), .val (.int (q2 + (1 : Int32))), .val (.int p3), .val (.ref d), .val (.int (ii + (1 : Int32)))]) rfl rfl ?_
      refine own_goto (n := 8) X1 hx (hb hby d21_29) (by decide) (by decide) ?_
      show Ends p e below (EF s ({ frames := 2, cells := 1, slots := 8, locals := 24 } : Room).cells ({ frames := 2, cells := 1, slots := 8, locals := 24 } : Room).slots) (Q21 Z a1 p2 p3 k g h0 n0) (T1.setTop (mkF m 8 #[.val (.ref a1), .val (.int (q2 + (1 : Int32))), .val (.int p3), .val (.ref d), .val (.int (ii + (1 : Int32)))] []))
      exact ih _ _ _ d _ _ (i + 1) _ X1 e1 N1 Z1 (own_add1 hii (by omega)) (own_add1 gq2 (by omega)) (by omega) OL1 F1_a1 F1 hne nd bd KK1 (fun j hj => by
        by_cases e : j = i
        · subst e
          refine ⟨?_, ?_⟩
          · show (if 2 * j = 2 * j + 1 then HIB (g j) else (if 2 * j = 2 * j then LOB (g j) else f (2 * j))) = _
            rw [if_neg (by omega), if_pos rfl]
          · show (if 2 * j + 1 = 2 * j + 1 then HIB (g j) else _) = _
            rw [if_pos rfl]
        · refine ⟨?_, ?_⟩
          · show (if 2 * j = 2 * i + 1 then HIB (g i) else (if 2 * j = 2 * i then LOB (g i) else f (2 * j))) = _
            rw [if_neg (by omega), if_neg (by omega)]; exact (UB j (by omega)).1
          · show (if 2 * j + 1 = 2 * i + 1 then HIB (g i) else (if 2 * j + 1 = 2 * i then LOB (g i) else f (2 * j + 1))) = _
            rw [if_neg (by omega), if_neg (by omega)]; exact (UB j (by omega)).2)
  refine own_iloadN (n := 1) X0 hx (hb hby d21_0) rfl rfl ?_
  refine own_callS (n := 4) X0 hx hZ hown (hw _ (List.mem_of_getElem? (i := 93) rfl)) (hw _ (List.mem_of_getElem? (i := 94) rfl)) (hw _ (List.mem_of_getElem? (i := 79) rfl)) (hw _ (List.mem_of_getElem? (i := 95) rfl)) (by decide) e0 (rm22 l Z a0 hw [] p3 k h0 n0 Z0 hk hk4) (W := 0) (by decide) (by decide) (by decide) (by decide) (by rw [hml]; rfl) (argsL := [(.int p3)]) (rest := []) pd_22 rfl (by rfl) (Nat.le_of_eq rfl) (hb hby d21_1) rfl rfl ?_
  intro v2 T2 h2 L2 X2 e2 q2
  obtain ⟨d2, rfl, M2, K2, F2, bd2⟩ := q2
  have N2 := Fr.app N0 M2
  have Z2 : n0 ≤ h2.size := Nat.le_trans Z0 K2.1
  have OL2 := OL.keep K2 all0
  have F2_a1 := A.keep K2 nin0
  have ne_d2 : a1 ≠ d2 := Nat.ne_of_lt (Nat.lt_of_lt_of_le A.lt bd2)
  refine own_astoreN (n := 5) X2 hx (hb hby d21_4) rfl (l' := #[.val (.ref a1), .val (.int p2), .val (.int p3), .val (.ref d2), .unset]) rfl rfl ?_
  refine own_iconst (n := 6) X2 hx (0 : Int32) (hb hby d21_5) rfl rfl ?_
  refine own_istore (n := 8) X2 hx (hb hby d21_6) (l' := #[.val (.ref a1), .val (.int p2), .val (.int p3), .val (.ref d2), .val (.int (0 : Int32))]) rfl rfl ?_
  show Ends p e below (EF s ({ frames := 2, cells := 1, slots := 8, locals := 24 } : Room).cells ({ frames := 2, cells := 1, slots := 8, locals := 24 } : Room).slots) (Q21 Z a1 p2 p3 k g h0 n0) (T2.setTop (mkF m 8 #[.val (.ref a1), .val (.int p2), .val (.int p3), .val (.ref d2), .val (.int (0 : Int32))] []))
  exact loop k _ _ _ d2 _ _ 0 _ X2 e2 N2 Z2 rfl (by rw [zp2]; rfl) (by omega) OL2 F2_a1 F2 ne_d2 (Nat.le_trans Z0 bd2) bd2 K2 (fun j hj => absurd hj (Nat.not_lt_zero _))
theorem d18_0 : decode jdk_52_method_21_code 0 = .ok (.iconst 0, 1) := by decide +kernel
theorem d18_1 : decode jdk_52_method_21_code 1 = .ok (.istore 5, 2) := by decide +kernel
theorem d18_3 : decode jdk_52_method_21_code 3 = .ok (.iload 5, 2) := by decide +kernel
theorem d18_5 : decode jdk_52_method_21_code 5 = .ok (.iload 4, 2) := by decide +kernel
theorem d18_7 : decode jdk_52_method_21_code 7 = .ok (.if_icmp .ge 37, 3) := by decide +kernel
theorem d18_10 : decode jdk_52_method_21_code 10 = .ok (.aload_n 0, 1) := by decide +kernel
theorem d18_11 : decode jdk_52_method_21_code 11 = .ok (.iload_n 1, 1) := by decide +kernel
theorem d18_12 : decode jdk_52_method_21_code 12 = .ok (.caload, 1) := by decide +kernel
theorem d18_13 : decode jdk_52_method_21_code 13 = .ok (.istore 6, 2) := by decide +kernel
theorem d18_15 : decode jdk_52_method_21_code 15 = .ok (.iload 6, 2) := by decide +kernel
theorem d18_17 : decode jdk_52_method_21_code 17 = .ok (.sipush 255, 3) := by decide +kernel
theorem d18_20 : decode jdk_52_method_21_code 20 = .ok (.if_icmp .le 6, 3) := by decide +kernel
theorem d18_23 : decode jdk_52_method_21_code 23 = .ok (.iload 5, 2) := by decide +kernel
theorem d18_25 : decode jdk_52_method_21_code 25 = .ok (.ireturn, 1) := by decide +kernel
theorem d18_26 : decode jdk_52_method_21_code 26 = .ok (.aload_n 2, 1) := by decide +kernel
theorem d18_27 : decode jdk_52_method_21_code 27 = .ok (.iload_n 3, 1) := by decide +kernel
theorem d18_28 : decode jdk_52_method_21_code 28 = .ok (.iload 6, 2) := by decide +kernel
theorem d18_30 : decode jdk_52_method_21_code 30 = .ok (.i2b, 1) := by decide +kernel
theorem d18_31 : decode jdk_52_method_21_code 31 = .ok (.bastore, 1) := by decide +kernel
theorem d18_32 : decode jdk_52_method_21_code 32 = .ok (.iinc 1 1, 3) := by decide +kernel
theorem d18_35 : decode jdk_52_method_21_code 35 = .ok (.iinc 3 1, 3) := by decide +kernel
theorem d18_38 : decode jdk_52_method_21_code 38 = .ok (.iinc 5 1, 3) := by decide +kernel
theorem d18_41 : decode jdk_52_method_21_code 41 = .ok (.goto (-38), 3) := by decide +kernel
theorem d18_44 : decode jdk_52_method_21_code 44 = .ok (.iload 4, 2) := by decide +kernel
theorem d18_46 : decode jdk_52_method_21_code 46 = .ok (.ireturn, 1) := by decide +kernel
theorem pn_18 : plainFor (⟨"java/lang/StringUTF16", "compress", "([CI[BII)I"⟩ : MethodName) = true := by first | exact plainFor_of_name (by first | (simp [plainName, overriddenIn]; done) | decide +kernel) | decide +kernel
theorem ef_18 (m : MethodId) (a1 : Addr) (p2 : Int32) (a3 : Addr) (p4 : Int32) (p5 : Int32) : entryFrame m #[(.ref a1), (.int p2), (.ref a3), (.int p4), (.int p5)] 7 = mkF m 0 #[.val (.ref a1), .val (.int p2), .val (.ref a3), .val (.int p4), .val (.int p5), .unset, .unset] [] := by first | (simp [entryFrame, argsToLocals, Value.category, Array.replicate]; done) | rfl
theorem pd_18 : parseMethodDescriptor "([CI[BII)I" = some ⟨[(.array .char), .int, (.array .byte), .int, .int], some .int⟩ := by decide +kernel
def Q18 (Z : State) (a1 : Addr) (p2 : Int32) (a3 : Addr) (p4 : Int32) (p5 : Int32) (k : Nat) (g : Nat → Int32) (f : Nat → Int32) (h0 : Heap) (n0 : Nat) (v : Option Value) (h : Heap) (L : List Loc) : Prop := ∃ r f', v = some (.int r) ∧ Fr n0 L ∧ Keep h0 h [a3] ∧ PA Z h a3 .byte k f' ∧ ((r = p5 ∧ LAT g f' k) ∨ ∃ i, i < k ∧ r.toInt = (i : Int) ∧ (255 : Int32) < g i)
theorem rm18 (l : Launch) (Z : State) (a0 : Array Value) (hw : ∀ d ∈ tables_1, d.before a0 Z = true) (ws : List Jvm.Cond) (a1 : Addr) (p2 : Int32) (a3 : Addr) (p4 : Int32) (p5 : Int32) (k : Nat) (g : Nat → Int32) (f : Nat → Int32) (h0 : Heap) (n0 : Nat) (Z0 : n0 ≤ h0.size) (A : PA Z h0 a1 .char k g) (B : PA Z h0 a3 .byte k f) (hne : a1 ≠ a3) (nb : n0 ≤ a3) (zp2 : p2 = 0) (zp4 : p4 = 0) (hk : p5.toInt = (k : Int)) (hk1 : 1 ≤ k) (hk4 : k ≤ 4) :
    MetFree l (⟨"java/lang/StringUTF16", "compress", "([CI[BII)I"⟩ : MethodName) (head1 (Jvm.Cond.code (⟨"java/lang/StringUTF16", "compress", "([CI[BII)I"⟩ : MethodName) jdk_52_method_21_code 7 (some .int) :: ws) ({ frames := 0, cells := 0, slots := 0, locals := 0 } : Room)) (fun a U => a = #[(.ref a1), (.int p2), (.ref a3), (.int p4), (.int p5)] ∧ Z.Warmed39 U.vm ∧ U.heap = h0) (fun _ _ _ _ _ => True) (fun _ U o U' => ∃ v L, o = .returned v ∧ (Q18 Z a1 p2 a3 p4 p5 k g f h0 n0) v U'.heap L ∧ FrameEnd U o U' L ({ frames := 0, cells := 0, slots := 0, locals := 0 } : Room).cells ({ frames := 0, cells := 0, slots := 0, locals := 0 } : Room).slots) := by
  refine MetFree.of_bodySF pn_18 hisR ?_
  intro p e s m args below meth c s₁ Bd hml0 hP hK
  obtain ⟨rfl, hZ, hh⟩ := hP
  have hx := Bd.exec
  have hby := Bd.bytes
  have hml : c.maxLocals = 7 := hml0
  have hown : s.vm.findClass "java/lang/StringUTF16" = some m.cls := findClass_of_methodNamed Bd.named
  have hnm := (name_of_methodNamed Bd.named Bd.method).1
  have X0 : Stand p l e ({ frames := 0, cells := 0, slots := 0, locals := 0 } : Room) s m #[(.ref a1), (.int p2), (.ref a3), (.int p4), (.int p5)] below meth c s₁ [] 0 0 := Stand.of_body Bd
  have e0 : s₁.heap = h0 := by rw [← hh, Bd.state]; rfl
  have N0 := Fr.nil n0
  have lk : meth.locks = false := BodyLoose.notSynchronized Bd
  have hret := Bd.returns
  show Ends p e below (EF s ({ frames := 0, cells := 0, slots := 0, locals := 0 } : Room).cells ({ frames := 0, cells := 0, slots := 0, locals := 0 } : Room).slots) (Q18 Z a1 p2 a3 p4 p5 k g f h0 n0) (s₁.setTop (entryFrame m #[(.ref a1), (.int p2), (.ref a3), (.int p4), (.int p5)] 7))
  refine Ends.cast (ef_18 m a1 p2 a3 p4 p5) ?_
  have loop : ∀ (n : Nat) (TB : State) (hB : Heap) (lB : List Loc) (ii : Int32) (q2 : Int32) (q4 : Int32) (ch : Int32) (i : Nat) (fb : Nat → Int32) (XB : Stand p l e ({ frames := 0, cells := 0, slots := 0, locals := 0 } : Room) s m #[(.ref a1), (.int p2), (.ref a3), (.int p4), (.int p5)] below meth c TB lB (0) (0)) (eB : TB.heap = hB) (NB : Fr n0 lB) (ZB : n0 ≤ hB.size) (hii : ii.toInt = (i : Int)) (gq2 : q2.toInt = (i : Int)) (gq4 : q4.toInt = (i : Int)) (hin : i + n = k) (A : PA Z hB a1 .char k g) (B : PA Z hB a3 .byte k fb) (KB : Keep h0 hB [a3]) (LB : ∀ j, j < i → ¬ (255 : Int32) < g j ∧ fb j = nar .byte ((g j).toInt8.toInt32)), Ends p e below (EF s ({ frames := 0, cells := 0, slots := 0, locals := 0 } : Room).cells ({ frames := 0, cells := 0, slots := 0, locals := 0 } : Room).slots) (Q18 Z a1 p2 a3 p4 p5 k g f h0 n0) (TB.setTop (mkF m 3 #[.val (.ref a1), .val (.int q2), .val (.ref a3), .val (.int q4), .val (.int p5), .val (.int ii), .val (.int ch)] [])) := by
    intro n
    induction n with
    | zero =>
      intro TB hB lB ii q2 q4 ch i fb XB eB NB ZB hii gq2 gq4 hin A B KB LB
      refine own_iload (n := 5) XB hx (hb hby d18_3) rfl rfl ?_
      refine own_iload (n := 7) XB hx (hb hby d18_5) rfl rfl ?_
      refine own_icmpYes (n := 44) XB hx (hb hby d18_7) (Jvm.Free.XT.ii_ge_t (by rw [Int32.lt_iff_toInt_lt]; omega)) (by decide) (by decide) ?_
      refine own_iload (n := 46) XB hx (hb hby d18_44) rfl rfl ?_
      refine own_retI XB hx lk hret (hb hby d18_46) (by decide) (by decide) ?_
      rw [eB]
      exact ⟨_, _, rfl, NB, KB, B, Or.inl ⟨rfl, fun j hj => LB j (by omega)⟩⟩
    | succ n ih =>
      intro TB hB lB ii q2 q4 ch i fb XB eB NB ZB hii gq2 gq4 hin A B KB LB
      refine own_iload (n := 5) XB hx (hb hby d18_3) rfl rfl ?_
      refine own_iload (n := 7) XB hx (hb hby d18_5) rfl rfl ?_
      refine own_icmpNo (n := 10) XB hx (hb hby d18_7) (Jvm.Free.XT.ii_ge_f (by rw [Int32.lt_iff_toInt_lt]; omega)) rfl ?_
      refine own_aloadN (n := 11) XB hx (hb hby d18_10) rfl rfl rfl ?_
      refine own_iloadN (n := 12) XB hx (hb hby d18_11) rfl rfl ?_
      refine own_caload (n := 13) XB hx hZ eB A (i := i) gq2 (by omega) (hb hby d18_12) rfl ?_
      refine own_istore (n := 15) XB hx (hb hby d18_13) (l' := #[.val (.ref a1), .val (.int q2), .val (.ref a3), .val (.int q4), .val (.int p5), .val (.int ii), .val (.int (g i))]) rfl rfl ?_
      refine own_iload (n := 17) XB hx (hb hby d18_15) rfl rfl ?_
      refine own_sipush (n := 20) XB hx (255 : Int32) (hb hby d18_17) rfl rfl ?_
      by_cases c20 : (255 : Int32) < (g i)
      · refine own_icmpNo (n := 23) XB hx (hb hby d18_20) (Jvm.Free.XT.ii_le_f c20) rfl ?_
        refine own_iload (n := 25) XB hx (hb hby d18_23) rfl rfl ?_
        refine own_retI XB hx lk hret (hb hby d18_25) (by decide) (by decide) ?_
        rw [eB]
        exact ⟨_, _, rfl, NB, KB, B, Or.inr ⟨i, by omega, hii, c20⟩⟩
      · refine own_icmpYes (n := 26) XB hx (hb hby d18_20) (Jvm.Free.XT.ii_le_t c20) (by decide) (by decide) ?_
        refine own_aloadN (n := 27) XB hx (hb hby d18_26) rfl rfl rfl ?_
        refine own_iloadN (n := 28) XB hx (hb hby d18_27) rfl rfl ?_
        refine own_iload (n := 30) XB hx (hb hby d18_28) rfl rfl ?_
        refine own_i2b (n := 31) XB hx (hb hby d18_30) rfl ?_
        refine own_bastore (n := 32) XB hx hZ eB B (i := i) gq4 (by omega) (hb hby d18_31) rfl ?_
        intro T1 h1 X1 e1 W1 A1
        have N1 := Fr.snoc X1 NB nb
        have Z1 : n0 ≤ h1.size := Nat.le_trans ZB (Keep.of_wr W1).1
        have F1_a1 := A.wrO W1 hne
        have K1 : Keep h0 h1 [a3] := KB.wr W1 (Or.inl (List.mem_of_getElem? (i := 0) rfl))
        refine own_iinc (n := 35) X1 hx (hb hby d18_32) rfl (v := (1 : Int32)) rfl (l' := #[.val (.ref a1), .val (.int (q2 + (1 : Int32))), .val (.ref a3), .val (.int q4), .val (.int p5), .val (.int ii), .val (.int (g i))]) rfl rfl ?_
        refine own_iinc (n := 38) X1 hx (hb hby d18_35) rfl (v := (1 : Int32)) rfl (l' := #[.val (.ref a1), .val (.int (q2 + (1 : Int32))), .val (.ref a3), .val (.int (q4 + (1 : Int32))), .val (.int p5), .val (.int ii), .val (.int (g i))]) rfl rfl ?_
        refine own_iinc (n := 41) X1 hx (hb hby d18_38) rfl (v := (1 : Int32)) rfl (l' := #[.val (.ref a1), .val (.int (q2 + (1 : Int32))), .val (.ref a3), .val (.int (q4 + (1 : Int32))), .val (.int p5), .val (.int (ii + (1 : Int32))), .val (.int (g i))]) rfl rfl ?_
        refine own_goto (n := 3) X1 hx (hb hby d18_41) (by decide) (by decide) ?_
        show Ends p e below (EF s ({ frames := 0, cells := 0, slots := 0, locals := 0 } : Room).cells ({ frames := 0, cells := 0, slots := 0, locals := 0 } : Room).slots) (Q18 Z a1 p2 a3 p4 p5 k g f h0 n0) (T1.setTop (mkF m 3 #[.val (.ref a1), .val (.int (q2 + (1 : Int32))), .val (.ref a3), .val (.int (q4 + (1 : Int32))), .val (.int p5), .val (.int (ii + (1 : Int32))), .val (.int (g i))] []))
        exact ih _ _ _ _ _ _ _ (i + 1) _ X1 e1 N1 Z1 (own_add1 hii (by omega)) (own_add1 gq2 (by omega)) (own_add1 gq4 (by omega)) (by omega) F1_a1 A1 K1 (fun j hj => by
          by_cases e : j = i
          · subst e
            exact ⟨c20, if_pos rfl⟩
          · refine ⟨(LB j (by omega)).1, ?_⟩
            show (if j = i then _ else fb j) = _
            rw [if_neg e]; exact (LB j (by omega)).2)
  refine own_iconst (n := 1) X0 hx (0 : Int32) (hb hby d18_0) rfl rfl ?_
  refine own_istore (n := 3) X0 hx (hb hby d18_1) (l' := #[.val (.ref a1), .val (.int p2), .val (.ref a3), .val (.int p4), .val (.int p5), .val (.int (0 : Int32)), .unset]) rfl rfl ?_
  refine own_iload (n := 5) X0 hx (hb hby d18_3) rfl rfl ?_
  refine own_iload (n := 7) X0 hx (hb hby d18_5) rfl rfl ?_
  refine own_icmpNo (n := 10) X0 hx (hb hby d18_7) (Jvm.Free.XT.ii_ge_f (by rw [Int32.lt_iff_toInt_lt]; have o0 : (0 : Int32).toInt = 0 := rfl; omega)) rfl ?_
  refine own_aloadN (n := 11) X0 hx (hb hby d18_10) rfl rfl rfl ?_
  refine own_iloadN (n := 12) X0 hx (hb hby d18_11) rfl rfl ?_
  refine own_caload (n := 13) X0 hx hZ e0 A (i := 0) (by rw [zp2]; rfl) (by omega) (hb hby d18_12) rfl ?_
  refine own_istore (n := 15) X0 hx (hb hby d18_13) (l' := #[.val (.ref a1), .val (.int p2), .val (.ref a3), .val (.int p4), .val (.int p5), .val (.int (0 : Int32)), .val (.int (g 0))]) rfl rfl ?_
  refine own_iload (n := 17) X0 hx (hb hby d18_15) rfl rfl ?_
  refine own_sipush (n := 20) X0 hx (255 : Int32) (hb hby d18_17) rfl rfl ?_
  by_cases c20 : (255 : Int32) < (g 0)
  · refine own_icmpNo (n := 23) X0 hx (hb hby d18_20) (Jvm.Free.XT.ii_le_f c20) rfl ?_
    refine own_iload (n := 25) X0 hx (hb hby d18_23) rfl rfl ?_
    refine own_retI X0 hx lk hret (hb hby d18_25) (by decide) (by decide) ?_
    rw [e0]
    exact ⟨_, _, rfl, N0, (Keep.refl h0 [a3]), B, Or.inr ⟨0, by omega, rfl, c20⟩⟩
  · refine own_icmpYes (n := 26) X0 hx (hb hby d18_20) (Jvm.Free.XT.ii_le_t c20) (by decide) (by decide) ?_
    refine own_aloadN (n := 27) X0 hx (hb hby d18_26) rfl rfl rfl ?_
    refine own_iloadN (n := 28) X0 hx (hb hby d18_27) rfl rfl ?_
    refine own_iload (n := 30) X0 hx (hb hby d18_28) rfl rfl ?_
    refine own_i2b (n := 31) X0 hx (hb hby d18_30) rfl ?_
    refine own_bastore (n := 32) X0 hx hZ e0 B (i := 0) (by rw [zp4]; rfl) (by omega) (hb hby d18_31) rfl ?_
    intro T2 h2 X2 e2 W2 A2
    have N2 := Fr.snoc X2 N0 nb
    have Z2 : n0 ≤ h2.size := Nat.le_trans Z0 (Keep.of_wr W2).1
    have F2_a1 := A.wrO W2 hne
    have K2 : Keep h0 h2 [a3] := (Keep.refl h0 [a3]).wr W2 (Or.inl (List.mem_of_getElem? (i := 0) rfl))
    refine own_iinc (n := 35) X2 hx (hb hby d18_32) rfl (v := (1 : Int32)) rfl (l' := #[.val (.ref a1), .val (.int (p2 + (1 : Int32))), .val (.ref a3), .val (.int p4), .val (.int p5), .val (.int (0 : Int32)), .val (.int (g 0))]) rfl rfl ?_
    refine own_iinc (n := 38) X2 hx (hb hby d18_35) rfl (v := (1 : Int32)) rfl (l' := #[.val (.ref a1), .val (.int (p2 + (1 : Int32))), .val (.ref a3), .val (.int (p4 + (1 : Int32))), .val (.int p5), .val (.int (0 : Int32)), .val (.int (g 0))]) rfl rfl ?_
    refine own_iinc (n := 41) X2 hx (hb hby d18_38) rfl (v := (1 : Int32)) rfl (l' := #[.val (.ref a1), .val (.int (p2 + (1 : Int32))), .val (.ref a3), .val (.int (p4 + (1 : Int32))), .val (.int p5), .val (.int ((0 : Int32) + (1 : Int32))), .val (.int (g 0))]) rfl rfl ?_
    refine own_goto (n := 3) X2 hx (hb hby d18_41) (by decide) (by decide) ?_
    show Ends p e below (EF s ({ frames := 0, cells := 0, slots := 0, locals := 0 } : Room).cells ({ frames := 0, cells := 0, slots := 0, locals := 0 } : Room).slots) (Q18 Z a1 p2 a3 p4 p5 k g f h0 n0) (T2.setTop (mkF m 3 #[.val (.ref a1), .val (.int (p2 + (1 : Int32))), .val (.ref a3), .val (.int (p4 + (1 : Int32))), .val (.int p5), .val (.int ((0 : Int32) + (1 : Int32))), .val (.int (g 0))] []))
    exact loop (k - 1) _ _ _ _ _ _ _ 1 _ X2 e2 N2 Z2 (by rfl) (by rw [zp2]; rfl) (by rw [zp4]; rfl) (by omega) F2_a1 A2 K2 (fun j hj => by
      obtain rfl : j = 0 := by omega
      exact ⟨c20, if_pos rfl⟩)
theorem d17_0 : decode jdk_52_method_16_code 0 = .ok (.iload_n 2, 1) := by decide +kernel
theorem d17_1 : decode jdk_52_method_16_code 1 = .ok (.newarray .byte, 2) := by decide +kernel
theorem d17_3 : decode jdk_52_method_16_code 3 = .ok (.astore_n 3, 1) := by decide +kernel
theorem d17_4 : decode jdk_52_method_16_code 4 = .ok (.aload_n 0, 1) := by decide +kernel
theorem d17_5 : decode jdk_52_method_16_code 5 = .ok (.iload_n 1, 1) := by decide +kernel
theorem d17_6 : decode jdk_52_method_16_code 6 = .ok (.aload_n 3, 1) := by decide +kernel
theorem d17_7 : decode jdk_52_method_16_code 7 = .ok (.iconst 0, 1) := by decide +kernel
theorem d17_8 : decode jdk_52_method_16_code 8 = .ok (.iload_n 2, 1) := by decide +kernel
theorem d17_9 : decode jdk_52_method_16_code 9 = .ok (.invokestatic 115, 3) := by decide +kernel
theorem d17_12 : decode jdk_52_method_16_code 12 = .ok (.istore 4, 2) := by decide +kernel
theorem d17_14 : decode jdk_52_method_16_code 14 = .ok (.iload 4, 2) := by decide +kernel
theorem d17_16 : decode jdk_52_method_16_code 16 = .ok (.iload_n 2, 1) := by decide +kernel
theorem d17_17 : decode jdk_52_method_16_code 17 = .ok (.if_icmp .eq 40, 3) := by decide +kernel
theorem d17_20 : decode jdk_52_method_16_code 20 = .ok (.aload_n 0, 1) := by decide +kernel
theorem d17_21 : decode jdk_52_method_16_code 21 = .ok (.iload_n 1, 1) := by decide +kernel
theorem d17_22 : decode jdk_52_method_16_code 22 = .ok (.iload_n 2, 1) := by decide +kernel
theorem d17_23 : decode jdk_52_method_16_code 23 = .ok (.invokestatic 119, 3) := by decide +kernel
theorem d17_26 : decode jdk_52_method_16_code 26 = .ok (.astore 5, 2) := by decide +kernel
theorem d17_28 : decode jdk_52_method_16_code 28 = .ok (.aload 5, 2) := by decide +kernel
theorem d17_30 : decode jdk_52_method_16_code 30 = .ok (.iload 4, 2) := by decide +kernel
theorem d17_32 : decode jdk_52_method_16_code 32 = .ok (.invokestatic 71, 3) := by decide +kernel
theorem d17_35 : decode jdk_52_method_16_code 35 = .ok (.sipush 255, 3) := by decide +kernel
theorem d17_38 : decode jdk_52_method_16_code 38 = .ok (.if_icmp .gt 16, 3) := by decide +kernel
theorem d17_41 : decode jdk_52_method_16_code 41 = .ok (.aload 5, 2) := by decide +kernel
theorem d17_43 : decode jdk_52_method_16_code 43 = .ok (.iconst 0, 1) := by decide +kernel
theorem d17_44 : decode jdk_52_method_16_code 44 = .ok (.aload_n 3, 1) := by decide +kernel
theorem d17_45 : decode jdk_52_method_16_code 45 = .ok (.iconst 0, 1) := by decide +kernel
theorem d17_46 : decode jdk_52_method_16_code 46 = .ok (.iload_n 2, 1) := by decide +kernel
theorem d17_47 : decode jdk_52_method_16_code 47 = .ok (.invokestatic 123, 3) := by decide +kernel
theorem d17_50 : decode jdk_52_method_16_code 50 = .ok (.iload_n 2, 1) := by decide +kernel
theorem d17_51 : decode jdk_52_method_16_code 51 = .ok (.if_icmp .eq 6, 3) := by decide +kernel
theorem d17_54 : decode jdk_52_method_16_code 54 = .ok (.aload 5, 2) := by decide +kernel
theorem d17_56 : decode jdk_52_method_16_code 56 = .ok (.areturn, 1) := by decide +kernel
theorem d17_57 : decode jdk_52_method_16_code 57 = .ok (.aload_n 3, 1) := by decide +kernel
theorem d17_58 : decode jdk_52_method_16_code 58 = .ok (.areturn, 1) := by decide +kernel
theorem pn_17 : plainFor (⟨"java/lang/StringUTF16", "compress", "([CII)[B"⟩ : MethodName) = true := by first | exact plainFor_of_name (by first | (simp [plainName, overriddenIn]; done) | decide +kernel) | decide +kernel
theorem ef_17 (m : MethodId) (a1 : Addr) (p2 : Int32) (p3 : Int32) : entryFrame m #[(.ref a1), (.int p2), (.int p3)] 6 = mkF m 0 #[.val (.ref a1), .val (.int p2), .val (.int p3), .unset, .unset, .unset] [] := by first | (simp [entryFrame, argsToLocals, Value.category, Array.replicate]; done) | rfl
theorem pd_17 : parseMethodDescriptor "([CII)[B" = some ⟨[(.array .char), .int, .int], some (.array .byte)⟩ := by decide +kernel
def Q17 (Z : State) (a1 : Addr) (p2 : Int32) (p3 : Int32) (k : Nat) (g : Nat → Int32) (h0 : Heap) (n0 : Nat) (v : Option Value) (h : Heap) (L : List Loc) : Prop := ∃ a f n, v = some (.ref a) ∧ Fr n0 L ∧ Keep h0 h [] ∧ PA Z h a .byte n f ∧ h0.size ≤ a ∧ ((n = k ∧ LAT g f k) ∨ (n = 2 * k ∧ UTF g f k))
theorem rm17 (l : Launch) (Z : State) (a0 : Array Value) (hw : ∀ d ∈ tables_1, d.before a0 Z = true) (ws : List Jvm.Cond) (a1 : Addr) (p2 : Int32) (p3 : Int32) (k : Nat) (g : Nat → Int32) (h0 : Heap) (n0 : Nat) (Z0 : n0 ≤ h0.size) (cs : Int32) (fm : Value) (TT : STT Z cs fm) (OL : Old Z n0 h0) (A : PA Z h0 a1 .char k g) (hg : CHS g k) (zp2 : p2 = 0) (hk : p3.toInt = (k : Int)) (hk1 : 1 ≤ k) (hk4 : k ≤ 4) :
    MetFree l (⟨"java/lang/StringUTF16", "compress", "([CII)[B"⟩ : MethodName) (head1 (Jvm.Cond.code (⟨"java/lang/StringUTF16", "compress", "([CII)[B"⟩ : MethodName) jdk_52_method_16_code 6 (some (.array .byte)) :: ws) ({ frames := 3, cells := 2, slots := 12, locals := 40 } : Room)) (fun a U => a = #[(.ref a1), (.int p2), (.int p3)] ∧ Z.Warmed39 U.vm ∧ U.heap = h0) (fun _ _ _ _ _ => True) (fun _ U o U' => ∃ v L, o = .returned v ∧ (Q17 Z a1 p2 p3 k g h0 n0) v U'.heap L ∧ FrameEnd U o U' L ({ frames := 3, cells := 2, slots := 12, locals := 40 } : Room).cells ({ frames := 3, cells := 2, slots := 12, locals := 40 } : Room).slots) := by
  refine MetFree.of_bodySF pn_17 hisR ?_
  intro p e s m args below meth c s₁ Bd hml0 hP hK
  obtain ⟨rfl, hZ, hh⟩ := hP
  have hx := Bd.exec
  have hby := Bd.bytes
  have hml : c.maxLocals = 6 := hml0
  have hown : s.vm.findClass "java/lang/StringUTF16" = some m.cls := findClass_of_methodNamed Bd.named
  have hnm := (name_of_methodNamed Bd.named Bd.method).1
  have X0 : Stand p l e ({ frames := 3, cells := 2, slots := 12, locals := 40 } : Room) s m #[(.ref a1), (.int p2), (.int p3)] below meth c s₁ [] 0 0 := Stand.of_body Bd
  have e0 : s₁.heap = h0 := by rw [← hh, Bd.state]; rfl
  have N0 := Fr.nil n0
  have lk : meth.locks = false := BodyLoose.notSynchronized Bd
  have hret := Bd.returns
  show Ends p e below (EF s ({ frames := 3, cells := 2, slots := 12, locals := 40 } : Room).cells ({ frames := 3, cells := 2, slots := 12, locals := 40 } : Room).slots) (Q17 Z a1 p2 p3 k g h0 n0) (s₁.setTop (entryFrame m #[(.ref a1), (.int p2), (.int p3)] 6))
  refine Ends.cast (ef_17 m a1 p2 p3) ?_
  refine own_iloadN (n := 1) X0 hx (hb hby d17_0) rfl rfl ?_
  refine own_newarr (n := 3) X0 hx hZ (ty := .byte) rfl rfl (hw _ (List.mem_of_getElem? (i := 23) rfl)) e0 (i := k) (cap := 4) hk hk4 (by decide) (by decide) (by decide) (hb hby d17_1) rfl ?_
  intro T1 h1 b1 X1 e1 g1 E1 A1
  have Z1 : n0 ≤ h1.size := Nat.le_trans Z0 E1.1
  have nb_b1 : n0 ≤ b1 := Nat.le_trans Z0 (Nat.le_of_eq g1.symm)
  have OL1 := OL.ext E1
  have ne_a1_b1 : a1 ≠ b1 := Nat.ne_of_lt (Nat.lt_of_lt_of_le A.lt (Nat.le_of_eq g1.symm))
  have F1_a1 := A.ext E1
  have K1 : Keep h0 h1 [] := (Keep.refl h0 []).ext E1
  have big_b1 : h0.size ≤ b1 := Nat.le_trans (Keep.refl h0 []).1 (Nat.le_of_eq g1.symm)
  refine own_astoreN (n := 4) X1 hx (hb hby d17_3) rfl (l' := #[.val (.ref a1), .val (.int p2), .val (.int p3), .val (.ref b1), .unset, .unset]) rfl rfl ?_
  refine own_aloadN (n := 5) X1 hx (hb hby d17_4) rfl rfl rfl ?_
  refine own_iloadN (n := 6) X1 hx (hb hby d17_5) rfl rfl ?_
  refine own_aloadN (n := 7) X1 hx (hb hby d17_6) rfl rfl rfl ?_
  refine own_iconst (n := 8) X1 hx (0 : Int32) (hb hby d17_7) rfl rfl ?_
  refine own_iloadN (n := 9) X1 hx (hb hby d17_8) rfl rfl ?_
  refine own_callS (n := 12) X1 hx hZ hown (hw _ (List.mem_of_getElem? (i := 81) rfl)) (hw _ (List.mem_of_getElem? (i := 82) rfl)) (hw _ (List.mem_of_getElem? (i := 79) rfl)) (hw _ (List.mem_of_getElem? (i := 83) rfl)) (by decide) e1 (rm18 l Z a0 hw [] a1 p2 b1 0 p3 k g (fun _ => 0) h1 n0 Z1 F1_a1 A1 ne_a1_b1 nb_b1 zp2 rfl hk hk1 hk4) (W := 0) (by decide) (by decide) (by decide) (by decide) (by rw [hml]; rfl) (argsL := [(.ref a1), (.int p2), (.ref b1), (.int (0 : Int32)), (.int p3)]) (rest := []) pd_18 rfl (by rfl) (Nat.le_of_eq rfl) (hb hby d17_9) rfl rfl ?_
  intro v2 T2 h2 L2 X2 e2 q2
  obtain ⟨r2, f2, rfl, M2, K2, A2, D2⟩ := q2
  have N2 := Fr.app N0 M2
  have Z2 : n0 ≤ h2.size := Nat.le_trans Z1 K2.1
  have OL2 := OL1.keep K2 (allS nb_b1 all0)
  have F2_a1 := F1_a1.keep K2 (ninS ne_a1_b1 nin0)
  have KK2 := K1.trans K2 (fun z hz => by cases List.mem_singleton.mp hz; exact Or.inr big_b1)
  refine own_istore (n := 14) X2 hx (hb hby d17_12) (l' := #[.val (.ref a1), .val (.int p2), .val (.int p3), .val (.ref b1), .val (.int r2), .unset]) rfl rfl ?_
  refine own_iload (n := 16) X2 hx (hb hby d17_14) rfl rfl ?_
  refine own_iloadN (n := 17) X2 hx (hb hby d17_16) rfl rfl ?_
  by_cases c17 : r2 = p3
  · refine own_icmpYes (n := 57) X2 hx (hb hby d17_17) (Jvm.Free.XT.ii_eq_t c17) (by decide) (by decide) ?_
    refine own_aloadN (n := 58) X2 hx (hb hby d17_57) rfl rfl rfl ?_
    refine own_retA X2 hx lk hret rfl rfl (hb hby d17_58) (by decide) (by decide) ?_
    rw [e2]
    rcases D2 with ⟨-, LL⟩ | ⟨i, hi, hri, -⟩
    · exact ⟨_, _, _, rfl, N2, KK2, A2, big_b1, Or.inl ⟨rfl, LL⟩⟩
    · rw [c17] at hri; omega
  · refine own_icmpNo (n := 20) X2 hx (hb hby d17_17) (Jvm.Free.XT.ii_eq_f c17) rfl ?_
    refine own_aloadN (n := 21) X2 hx (hb hby d17_20) rfl rfl rfl ?_
    refine own_iloadN (n := 22) X2 hx (hb hby d17_21) rfl rfl ?_
    refine own_iloadN (n := 23) X2 hx (hb hby d17_22) rfl rfl ?_
    obtain ⟨i, hi, hri, hgi⟩ := D2.resolve_left (fun z => c17 z.1)
    refine own_callS (n := 26) X2 hx hZ hown (hw _ (List.mem_of_getElem? (i := 90) rfl)) (hw _ (List.mem_of_getElem? (i := 91) rfl)) (hw _ (List.mem_of_getElem? (i := 79) rfl)) (hw _ (List.mem_of_getElem? (i := 92) rfl)) (by decide) e2 (rm21 l Z a0 hw [] a1 p2 p3 k g h2 n0 Z2 cs fm TT OL2 F2_a1 zp2 hk hk4) (W := 0) (by decide) (by decide) (by decide) (by decide) (by rw [hml]; rfl) (argsL := [(.ref a1), (.int p2), (.int p3)]) (rest := []) pd_21 rfl (by rfl) (Nat.le_of_eq rfl) (hb hby d17_23) rfl rfl ?_
    intro v3 T3 h3 L3 X3 e3 q3
    obtain ⟨d3, f3, rfl, M3, K3, F3, bd3, U3⟩ := q3
    have N3 := Fr.app N2 M3
    have Z3 : n0 ≤ h3.size := Nat.le_trans Z2 K3.1
    have OL3 := OL2.keep K3 all0
    have F3_a1 := F2_a1.keep K3 nin0
    have F3_b1 := A2.keep K3 nin0
    have KK3 := KK2.trans K3 (fun z hz => absurd hz (by simp))
    have big_d3 : h0.size ≤ d3 := Nat.le_trans KK2.1 bd3
    refine own_astore (n := 28) X3 hx (hb hby d17_26) rfl (l' := #[.val (.ref a1), .val (.int p2), .val (.int p3), .val (.ref b1), .val (.int r2), .val (.ref d3)]) rfl rfl ?_
    refine own_aload (n := 30) X3 hx (hb hby d17_28) rfl rfl rfl ?_
    refine own_iload (n := 32) X3 hx (hb hby d17_30) rfl rfl ?_
    refine own_callS (n := 35) X3 hx hZ hown (hw _ (List.mem_of_getElem? (i := 106) rfl)) (hw _ (List.mem_of_getElem? (i := 107) rfl)) (hw _ (List.mem_of_getElem? (i := 79) rfl)) (hw _ (List.mem_of_getElem? (i := 108) rfl)) (by decide) e3 (rm25 l Z a0 hw [] d3 r2 (2 * k) f3 i h3 n0 Z3 cs fm TT OL3 F3 hri (by omega) (by omega)) (W := 0) (by decide) (by decide) (by decide) (by decide) (by rw [hml]; rfl) (argsL := [(.ref d3), (.int r2)]) (rest := []) pd_25 rfl (by rfl) (Nat.le_of_eq rfl) (hb hby d17_32) rfl rfl ?_
    intro v4 T4 h4 L4 X4 e4 q4
    obtain ⟨rfl, M4, rfl⟩ := q4
    have N4 := Fr.app N3 M4
    refine own_sipush (n := 38) X4 hx (255 : Int32) (hb hby d17_35) rfl rfl ?_
    refine own_icmpYes (n := 54) X4 hx (hb hby d17_38) (Jvm.Free.XT.ii_gt_t (by rw [(U3 i hi).1, (U3 i hi).2, own_gc _ (hg i hi).1 (hg i hi).2]; exact hgi)) (by decide) (by decide) ?_
    refine own_aload (n := 56) X4 hx (hb hby d17_54) rfl rfl rfl ?_
    refine own_retA X4 hx lk hret rfl rfl (hb hby d17_56) (by decide) (by decide) ?_
    rw [e4]
    exact ⟨_, _, _, rfl, N4, KK3, F3, big_d3, Or.inr ⟨rfl, U3⟩⟩
theorem d4_0 : decode jdk_42_method_149_code 0 = .ok (.aload_n 0, 1) := by decide +kernel
theorem d4_1 : decode jdk_42_method_149_code 1 = .ok (.invokespecial 1, 3) := by decide +kernel
theorem d4_4 : decode jdk_42_method_149_code 4 = .ok (.iload_n 3, 1) := by decide +kernel
theorem d4_5 : decode jdk_42_method_149_code 5 = .ok (.ifCond .ne 22, 3) := by decide +kernel
theorem d4_8 : decode jdk_42_method_149_code 8 = .ok (.aload_n 0, 1) := by decide +kernel
theorem d4_9 : decode jdk_42_method_149_code 9 = .ok (.ldc 7, 2) := by decide +kernel
theorem d4_11 : decode jdk_42_method_149_code 11 = .ok (.getfield 9, 3) := by decide +kernel
theorem d4_14 : decode jdk_42_method_149_code 14 = .ok (.putfield 9, 3) := by decide +kernel
theorem d4_17 : decode jdk_42_method_149_code 17 = .ok (.aload_n 0, 1) := by decide +kernel
theorem d4_18 : decode jdk_42_method_149_code 18 = .ok (.ldc 7, 2) := by decide +kernel
theorem d4_20 : decode jdk_42_method_149_code 20 = .ok (.getfield 15, 3) := by decide +kernel
theorem d4_23 : decode jdk_42_method_149_code 23 = .ok (.putfield 15, 3) := by decide +kernel
theorem d4_26 : decode jdk_42_method_149_code 26 = .ok (.return_, 1) := by decide +kernel
theorem d4_27 : decode jdk_42_method_149_code 27 = .ok (.getstatic 38, 3) := by decide +kernel
theorem d4_30 : decode jdk_42_method_149_code 30 = .ok (.ifCond .eq 28, 3) := by decide +kernel
theorem d4_33 : decode jdk_42_method_149_code 33 = .ok (.aload_n 1, 1) := by decide +kernel
theorem d4_34 : decode jdk_42_method_149_code 34 = .ok (.iload_n 2, 1) := by decide +kernel
theorem d4_35 : decode jdk_42_method_149_code 35 = .ok (.iload_n 3, 1) := by decide +kernel
theorem d4_36 : decode jdk_42_method_149_code 36 = .ok (.invokestatic 177, 3) := by decide +kernel
theorem d4_39 : decode jdk_42_method_149_code 39 = .ok (.astore 5, 2) := by decide +kernel
theorem d4_41 : decode jdk_42_method_149_code 41 = .ok (.aload_n 0, 1) := by decide +kernel
theorem d4_42 : decode jdk_42_method_149_code 42 = .ok (.aload 5, 2) := by decide +kernel
theorem d4_44 : decode jdk_42_method_149_code 44 = .ok (.iload_n 3, 1) := by decide +kernel
theorem d4_45 : decode jdk_42_method_149_code 45 = .ok (.invokestatic 47, 3) := by decide +kernel
theorem d4_48 : decode jdk_42_method_149_code 48 = .ok (.putfield 15, 3) := by decide +kernel
theorem d4_51 : decode jdk_42_method_149_code 51 = .ok (.aload_n 0, 1) := by decide +kernel
theorem d4_52 : decode jdk_42_method_149_code 52 = .ok (.aload 5, 2) := by decide +kernel
theorem d4_54 : decode jdk_42_method_149_code 54 = .ok (.putfield 9, 3) := by decide +kernel
theorem d4_57 : decode jdk_42_method_149_code 57 = .ok (.return_, 1) := by decide +kernel
theorem d4_58 : decode jdk_42_method_149_code 58 = .ok (.aload_n 0, 1) := by decide +kernel
theorem d4_59 : decode jdk_42_method_149_code 59 = .ok (.iconst 1, 1) := by decide +kernel
theorem d4_60 : decode jdk_42_method_149_code 60 = .ok (.putfield 15, 3) := by decide +kernel
theorem d4_63 : decode jdk_42_method_149_code 63 = .ok (.aload_n 0, 1) := by decide +kernel
theorem d4_64 : decode jdk_42_method_149_code 64 = .ok (.aload_n 1, 1) := by decide +kernel
theorem d4_65 : decode jdk_42_method_149_code 65 = .ok (.iload_n 2, 1) := by decide +kernel
theorem d4_66 : decode jdk_42_method_149_code 66 = .ok (.iload_n 3, 1) := by decide +kernel
theorem d4_67 : decode jdk_42_method_149_code 67 = .ok (.invokestatic 180, 3) := by decide +kernel
theorem d4_70 : decode jdk_42_method_149_code 70 = .ok (.putfield 9, 3) := by decide +kernel
theorem d4_73 : decode jdk_42_method_149_code 73 = .ok (.return_, 1) := by decide +kernel
theorem pn_4 : plainFor (⟨"java/lang/String", "<init>", "([CIILjava/lang/Void;)V"⟩ : MethodName) = true := by first | exact plainFor_of_name (by first | (simp [plainName, overriddenIn]; done) | decide +kernel) | decide +kernel
theorem ef_4 (m : MethodId) (a1 : Addr) (a2 : Addr) (p3 : Int32) (p4 : Int32) : entryFrame m #[(.ref a1), (.ref a2), (.int p3), (.int p4), .null] 6 = mkF m 0 #[.val (.ref a1), .val (.ref a2), .val (.int p3), .val (.int p4), .val .null, .unset] [] := by first | (simp [entryFrame, argsToLocals, Value.category, Array.replicate]; done) | rfl
theorem pd_4 : parseMethodDescriptor "([CIILjava/lang/Void;)V" = some ⟨[(.array .char), .int, .int, (.object "java/lang/Void")], none⟩ := by decide +kernel
def Q4 (Z : State) (a1 : Addr) (a2 : Addr) (p3 : Int32) (p4 : Int32) (k : Nat) (g : Nat → Int32) (h0 : Heap) (n0 : Nat) (v : Option Value) (h : Heap) (L : List Loc) : Prop := v = none ∧ Fr n0 L ∧ Old Z n0 h ∧ STR Z h a1 k g
theorem rm4 (l : Launch) (Z : State) (a0 : Array Value) (hw : ∀ d ∈ tables_1, d.before a0 Z = true) (ws : List Jvm.Cond) (a1 : Addr) (a2 : Addr) (p3 : Int32) (p4 : Int32) (k : Nat) (g : Nat → Int32) (h0 : Heap) (n0 : Nat) (Z0 : n0 ≤ h0.size) (cs : Int32) (fm : Value) (TT : STT Z cs fm) (OL : Old Z n0 h0) (hcst : Jvm.Lit.constHeld Z "java/lang/String" 7) (hcw : Jvm.Lit.compactW.before a0 Z = true) (F0 : SP Z h0 a1 .null 0) (nb : n0 ≤ a1) (A : PA Z h0 a2 .char k g) (hne : a2 ≠ a1) (hg : CHS g k) (hk4 : k ≤ 4) (zp3 : p3 = 0) (zp4 : p4 = Nat.toInt32 k) :
    MetFree l (⟨"java/lang/String", "<init>", "([CIILjava/lang/Void;)V"⟩ : MethodName) (head1 (Jvm.Cond.code (⟨"java/lang/String", "<init>", "([CIILjava/lang/Void;)V"⟩ : MethodName) jdk_42_method_149_code 6 (none) :: ws) ({ frames := 4, cells := 2, slots := 12, locals := 57 } : Room)) (fun a U => a = #[(.ref a1), (.ref a2), (.int p3), (.int p4), .null] ∧ Z.Warmed39 U.vm ∧ U.heap = h0 ∧ IB Z U.vm []) (fun _ _ _ _ _ => True) (fun _ U o U' => ∃ v L, o = .returned v ∧ (Q4 Z a1 a2 p3 p4 k g h0 n0) v U'.heap L ∧ ReturnedEndW U o U' L ({ frames := 4, cells := 2, slots := 12, locals := 57 } : Room).cells ({ frames := 4, cells := 2, slots := 12, locals := 57 } : Room).slots) := by
  refine MetFree.of_bodySF pn_4 hisR ?_
  intro p e s m args below meth c s₁ Bd hml0 hP hK
  obtain ⟨rfl, hZ, hh, hI⟩ := hP
  have hx := Bd.exec
  have hby := Bd.bytes
  have hml : c.maxLocals = 6 := hml0
  have hown : s.vm.findClass "java/lang/String" = some m.cls := findClass_of_methodNamed Bd.named
  have hnm := (name_of_methodNamed Bd.named Bd.method).1
  have X0 : Stand p l e ({ frames := 4, cells := 2, slots := 12, locals := 57 } : Room) s m #[(.ref a1), (.ref a2), (.int p3), (.int p4), .null] below meth c s₁ [] 0 0 := Stand.of_body Bd
  have e0 : s₁.heap = h0 := by rw [← hh, Bd.state]; rfl
  have N0 := Fr.nil n0
  have lk : meth.locks = false := BodyLoose.notSynchronized Bd
  have hret := Bd.returns
  show Ends p e below (EW s ({ frames := 4, cells := 2, slots := 12, locals := 57 } : Room).cells ({ frames := 4, cells := 2, slots := 12, locals := 57 } : Room).slots) (Q4 Z a1 a2 p3 p4 k g h0 n0) (s₁.setTop (entryFrame m #[(.ref a1), (.ref a2), (.int p3), (.int p4), .null] 6))
  refine Ends.cast (ef_4 m a1 a2 p3 p4) ?_
  have hk : p4.toInt = (k : Int) := by rw [zp4]; exact len_toInt (by omega)
  have wS : ∀ d ∈ Bundle.stringAtoms, d.before a0 Z = true := by
    intro d hd
    simp only [Bundle.stringAtoms, Bundle.sN, List.mem_cons, List.not_mem_nil, or_false] at hd
    rcases hd with rfl | rfl | rfl | rfl | rfl | rfl | rfl
    · exact (hw _ (List.mem_of_getElem? (i := 10) rfl))
    · exact (hw _ (List.mem_of_getElem? (i := 9) rfl))
    · exact (hw _ (List.mem_of_getElem? (i := 23) rfl))
    · exact (hw _ (List.mem_of_getElem? (i := 24) rfl))
    · exact (hw _ (List.mem_of_getElem? (i := 25) rfl))
    · exact (hw _ (List.mem_of_getElem? (i := 26) rfl))
    · exact (hw _ (List.mem_of_getElem? (i := 27) rfl))
  refine own_aloadN (n := 1) X0 hx (hb hby d4_0) rfl rfl rfl ?_
  refine own_initO (n := 4) X0 hx hZ hown (hw _ (List.mem_of_getElem? (i := 19) rfl)) (hw _ (List.mem_of_getElem? (i := 20) rfl)) (hw _ (List.mem_of_getElem? (i := 21) rfl)) e0 (by rw [hml]; rfl) (hb hby d4_1) rfl (by decide) (W := 0) (Nat.le_of_eq rfl) (by decide) ?_
  intro T1 X1 e1
  refine own_iloadN (n := 5) X1 hx (hb hby d4_4) rfl rfl ?_
  by_cases c5 : p4 = 0
  · refine own_ifNo (n := 8) X1 hx (hb hby d4_5) (Jvm.Free.XT.i0_ne_f c5) rfl ?_
    refine own_aloadN (n := 9) X1 hx (hb hby d4_8) rfl rfl rfl ?_
    refine own_ldcL (n := 11) X1 hx hZ hown (hw _ (List.mem_of_getElem? (i := 22) rfl)) wS e1 (Fr.nil _) (fun b cl q => by rw [hh]; exact OL.2.2 b cl q) hI hcst hcw (vs := []) (z := 0) ⟨by simp, rfl⟩ (by decide) rfl (nn := 0) (by decide) (by decide) (by decide) (by decide) (hb hby d4_9) rfl ?_
    intro T2 h2 aL bL kL k1 X2 e2 E2 hS hk1 hZ hown X1 F1 F2 A1 LL
    have Z2 : n0 ≤ h2.size := Nat.le_trans Z0 E2.1
    have OL2 := OL.ext E2
    have F2_a1 := F0.ext E2
    have F2_a2 := A.ext E2
    have FL : SP Z h2 aL (.ref bL) (0) := ⟨X1, F2, F1⟩
    have neL : aL ≠ a1 := Fld.ne FL.2.1 F2_a1.2.1 (fun z => by cases z)
    obtain ⟨cL, AL, -, SL, -⟩ := A1
    have neB : a1 ≠ bL := ne_arr F2_a1.1 (hw _ (List.mem_of_getElem? (i := 9) rfl)) AL
    have PL := own_pa0 AL SL
    refine own_getF (n := 14) X2 hx hZ hown (hw _ (List.mem_of_getElem? (i := 28) rfl)) e2 FL.2.1 (hb hby d4_11) rfl ?_
    intro T3 X3 e3
    refine own_putF (n := 17) X3 hx hZ hown (hw _ (List.mem_of_getElem? (i := 28) rfl)) e3 F2_a1.2.1 F2_a1.1 (Or.inr ⟨(hw _ (List.mem_of_getElem? (i := 24) rfl)), rfl, hnm⟩) (hw _ (List.mem_of_getElem? (i := 9) rfl)) (ty := (.array .byte)) (by decide) rfl rfl (hb hby d4_14) rfl ?_
    intro T4 h4 X4 e4 W4
    have N4 := Fr.snoc X4 N0 nb
    have Z4 : n0 ≤ h4.size := Nat.le_trans Z2 (Keep.of_wr W4).1
    have OL4 := OL2.wr W4 nb
    have hk4 := Nat.le_trans hk1 (Keep.of_wr W4).1
    have F4_a1 := F2_a1.set_value hw W4
    have F4_a2 := F2_a2.wrO W4 hne
    have F4_aL := FL.wrO W4 neL
    have F4_bL := PL.wrO W4 (Ne.symm neB)
    refine own_aloadN (n := 18) X4 hx (hb hby d4_17) rfl rfl rfl ?_
    refine own_ldcA (n := 20) X4 hx hZ hown (hw _ (List.mem_of_getElem? (i := 22) rfl)) LL (hb hby d4_18) rfl ?_
    refine own_getF (n := 23) X4 hx hZ hown (hw _ (List.mem_of_getElem? (i := 29) rfl)) e4 F4_aL.2.2 (hb hby d4_20) rfl ?_
    intro T5 X5 e5
    refine own_putF (n := 26) X5 hx hZ hown (hw _ (List.mem_of_getElem? (i := 29) rfl)) e5 F4_a1.2.2 F4_a1.1 (Or.inr ⟨(hw _ (List.mem_of_getElem? (i := 25) rfl)), rfl, hnm⟩) (hw _ (List.mem_of_getElem? (i := 9) rfl)) (ty := .byte) (by decide) rfl rfl (hb hby d4_23) rfl ?_
    intro T6 h6 X6 e6 W6
    have N6 := Fr.snoc X6 N4 nb
    have Z6 : n0 ≤ h6.size := Nat.le_trans Z4 (Keep.of_wr W6).1
    have OL6 := OL4.wr W6 nb
    have hk6 := Nat.le_trans hk4 (Keep.of_wr W6).1
    have F6_a1 := F4_a1.set_coder hw W6
    have F6_a2 := F4_a2.wrO W6 hne
    have F6_aL := F4_aL.wrO W6 neL
    have F6_bL := F4_bL.wrO W6 (Ne.symm neB)
    refine own_retVW X6 hx lk hS (by rw [e6]; exact hk6) hret (hb hby d4_26) (by decide) (by decide) ?_
    rw [e6]
    have kz : k = 0 := by rw [c5] at hk; have o0 : (0 : Int32).toInt = 0 := rfl; omega
    exact ⟨rfl, N6, OL6, bL, _, 0, 0, F6_a1, F6_bL, Or.inl ⟨rfl, kz.symm, fun j hj => by omega⟩⟩
  · refine own_ifYes (n := 27) X1 hx (hb hby d4_5) (Jvm.Free.XT.i0_ne_t c5) (by decide) (by decide) ?_
    refine own_getS (n := 30) X1 hx hZ hown (hw _ (List.mem_of_getElem? (i := 52) rfl)) e1 (TT.2.2.1.ext OL.2) (hb hby d4_27) rfl ?_
    intro T7 X7 e7
    refine own_ifNo (n := 33) X7 hx (hb hby d4_30) (Jvm.Free.XT.i0_eq_f TT.1) rfl ?_
    refine own_aloadN (n := 34) X7 hx (hb hby d4_33) rfl rfl rfl ?_
    refine own_iloadN (n := 35) X7 hx (hb hby d4_34) rfl rfl ?_
    refine own_iloadN (n := 36) X7 hx (hb hby d4_35) rfl rfl ?_
    have hk1 : 1 ≤ k := Nat.pos_of_ne_zero fun z => c5 (own_inj (by rw [hk, z]; rfl))
    refine own_callS (n := 39) X7 hx hZ hown (hw _ (List.mem_of_getElem? (i := 77) rfl)) (hw _ (List.mem_of_getElem? (i := 78) rfl)) (hw _ (List.mem_of_getElem? (i := 79) rfl)) (hw _ (List.mem_of_getElem? (i := 80) rfl)) (by decide) e7 (rm17 l Z a0 hw [] a2 p3 p4 k g h0 n0 Z0 cs fm TT OL A hg zp3 hk hk1 hk4) (W := 0) (by decide) (by decide) (by decide) (by decide) (by rw [hml]; rfl) (argsL := [(.ref a2), (.int p3), (.int p4)]) (rest := []) pd_17 rfl (by rfl) (Nat.le_of_eq rfl) (hb hby d4_36) rfl rfl ?_
    intro v8 T8 h8 L8 X8 e8 q8
    obtain ⟨y8, f8, n8, rfl, M8, K8, A8, big8, D8⟩ := q8
    have N8 := Fr.app N0 M8
    have Z8 : n0 ≤ h8.size := Nat.le_trans Z0 K8.1
    have OL8 := OL.keep K8 all0
    have F8_a1 := F0.keep K8 nin0
    have F8_a2 := A.keep K8 nin0
    have ne_a1_y8 : a1 ≠ y8 := Nat.ne_of_lt (Nat.lt_of_lt_of_le F0.lt big8)
    obtain ⟨w, hw_, W01, DW⟩ : ∃ w : Int32, nar .byte (((p4 - Nat.toInt32 n8).toUInt32 >>> ((31 : Int32) &&& 31).toUInt32).toInt32.toInt8.toInt32) = w ∧ (w = 0 ∨ w = 1) ∧ ((w = 0 ∧ n8 = k ∧ LAT g f8 k) ∨ (w = 1 ∧ n8 = 2 * k ∧ UTF g f8 k)) := by
      rcases D8 with ⟨z1, z2⟩ | ⟨z1, z2⟩
      · exact ⟨0, by rw [zp4, z1, own_shr0]; rfl, Or.inl rfl, Or.inl ⟨rfl, z1, z2⟩⟩
      · exact ⟨1, by rw [zp4, z1, own_shr1 k hk1 hk4]; rfl, Or.inr rfl, Or.inr ⟨rfl, z1, z2⟩⟩
    refine own_astore (n := 41) X8 hx (hb hby d4_39) rfl (l' := #[.val (.ref a1), .val (.ref a2), .val (.int p3), .val (.int p4), .val .null, .val (.ref y8)]) rfl rfl ?_
    refine own_aloadN (n := 42) X8 hx (hb hby d4_41) rfl rfl rfl ?_
    refine own_aload (n := 44) X8 hx (hb hby d4_42) rfl rfl rfl ?_
    refine own_iloadN (n := 45) X8 hx (hb hby d4_44) rfl rfl ?_
    refine own_callS (n := 48) X8 hx hZ hown (hw _ (List.mem_of_getElem? (i := 84) rfl)) (hw _ (List.mem_of_getElem? (i := 85) rfl)) (hw _ (List.mem_of_getElem? (i := 79) rfl)) (hw _ (List.mem_of_getElem? (i := 86) rfl)) (by decide) e8 (rm19 l Z a0 hw [] y8 p4 n8 f8 w h8 n0 Z8 A8 hw_) (W := 1) (by decide) (by decide) (by decide) (by decide) (by rw [hml]; rfl) (argsL := [(.ref y8), (.int p4)]) (rest := [(.ref a1)]) pd_19 rfl (by rfl) (Nat.le_of_eq rfl) (hb hby d4_45) rfl rfl ?_
    intro v9 T9 h9 L9 X9 e9 q9
    obtain ⟨rfl, M9, rfl⟩ := q9
    have N9 := Fr.app N8 M9
    refine own_putF (n := 51) X9 hx hZ hown (hw _ (List.mem_of_getElem? (i := 29) rfl)) e9 F8_a1.2.2 F8_a1.1 (Or.inr ⟨(hw _ (List.mem_of_getElem? (i := 25) rfl)), rfl, hnm⟩) (hw _ (List.mem_of_getElem? (i := 9) rfl)) (ty := .byte) (by decide) (by rcases W01 with rfl | rfl <;> rfl) (by rcases W01 with rfl | rfl <;> rfl) (hb hby d4_48) rfl ?_
    intro T10 h10 X10 e10 W10
    have N10 := Fr.snoc X10 N9 nb
    have Z10 : n0 ≤ h10.size := Nat.le_trans Z8 (Keep.of_wr W10).1
    have OL10 := OL8.wr W10 nb
    have F10_a1 := F8_a1.set_coder hw W10
    have F10_a2 := F8_a2.wrO W10 hne
    have F10_y8 := A8.wrO W10 (Ne.symm ne_a1_y8)
    refine own_aloadN (n := 52) X10 hx (hb hby d4_51) rfl rfl rfl ?_
    refine own_aload (n := 54) X10 hx (hb hby d4_52) rfl rfl rfl ?_
    refine own_putF (n := 57) X10 hx hZ hown (hw _ (List.mem_of_getElem? (i := 28) rfl)) e10 F10_a1.2.1 F10_a1.1 (Or.inr ⟨(hw _ (List.mem_of_getElem? (i := 24) rfl)), rfl, hnm⟩) (hw _ (List.mem_of_getElem? (i := 9) rfl)) (ty := (.array .byte)) (by decide) rfl rfl (hb hby d4_54) rfl ?_
    intro T11 h11 X11 e11 W11
    have N11 := Fr.snoc X11 N10 nb
    have Z11 : n0 ≤ h11.size := Nat.le_trans Z10 (Keep.of_wr W11).1
    have OL11 := OL10.wr W11 nb
    have F11_a1 := F10_a1.set_value hw W11
    have F11_a2 := F10_a2.wrO W11 hne
    have F11_y8 := F10_y8.wrO W11 (Ne.symm ne_a1_y8)
    refine own_retVW X11 hx lk (own_since s) (Nat.zero_le _) hret (hb hby d4_57) (by decide) (by decide) ?_
    rw [e11]
    exact ⟨rfl, N11, OL11, _, _, _, _, F11_a1, F11_y8, DW⟩
theorem d3_0 : decode jdk_42_method_3_code 0 = .ok (.aload_n 0, 1) := by decide +kernel
theorem d3_1 : decode jdk_42_method_3_code 1 = .ok (.aload_n 1, 1) := by decide +kernel
theorem d3_2 : decode jdk_42_method_3_code 2 = .ok (.iconst 0, 1) := by decide +kernel
theorem d3_3 : decode jdk_42_method_3_code 3 = .ok (.aload_n 1, 1) := by decide +kernel
theorem d3_4 : decode jdk_42_method_3_code 4 = .ok (.arraylength, 1) := by decide +kernel
theorem d3_5 : decode jdk_42_method_3_code 5 = .ok (.aconst_null, 1) := by decide +kernel
theorem d3_6 : decode jdk_42_method_3_code 6 = .ok (.invokespecial 27, 3) := by decide +kernel
theorem d3_9 : decode jdk_42_method_3_code 9 = .ok (.return_, 1) := by decide +kernel
theorem pn_3 : plainFor (⟨"java/lang/String", "<init>", "([C)V"⟩ : MethodName) = true := by first | exact plainFor_of_name (by first | (simp [plainName, overriddenIn]; done) | decide +kernel) | decide +kernel
theorem ef_3 (m : MethodId) (a1 : Addr) (a2 : Addr) : entryFrame m #[(.ref a1), (.ref a2)] 2 = mkF m 0 #[.val (.ref a1), .val (.ref a2)] [] := by first | (simp [entryFrame, argsToLocals, Value.category, Array.replicate]; done) | rfl
theorem pd_3 : parseMethodDescriptor "([C)V" = some ⟨[(.array .char)], none⟩ := by decide +kernel
def Q3 (Z : State) (a1 : Addr) (a2 : Addr) (k : Nat) (g : Nat → Int32) (h0 : Heap) (n0 : Nat) (v : Option Value) (h : Heap) (L : List Loc) : Prop := v = none ∧ Fr n0 L ∧ Old Z n0 h ∧ STR Z h a1 k g
theorem rm3 (l : Launch) (Z : State) (a0 : Array Value) (hw : ∀ d ∈ tables_1, d.before a0 Z = true) (ws : List Jvm.Cond) (a1 : Addr) (a2 : Addr) (k : Nat) (g : Nat → Int32) (h0 : Heap) (n0 : Nat) (Z0 : n0 ≤ h0.size) (cs : Int32) (fm : Value) (TT : STT Z cs fm) (OL : Old Z n0 h0) (hcst : Jvm.Lit.constHeld Z "java/lang/String" 7) (hcw : Jvm.Lit.compactW.before a0 Z = true) (F0 : SP Z h0 a1 .null 0) (nb : n0 ≤ a1) (A : PA Z h0 a2 .char k g) (hne : a2 ≠ a1) (hg : CHS g k) (hk4 : k ≤ 4) :
    MetFree l (⟨"java/lang/String", "<init>", "([C)V"⟩ : MethodName) (head1 (Jvm.Cond.code (⟨"java/lang/String", "<init>", "([C)V"⟩ : MethodName) jdk_42_method_3_code 2 (none) :: ws) ({ frames := 5, cells := 2, slots := 12, locals := 74 } : Room)) (fun a U => a = #[(.ref a1), (.ref a2)] ∧ Z.Warmed39 U.vm ∧ U.heap = h0 ∧ IB Z U.vm []) (fun _ _ _ _ _ => True) (fun _ U o U' => ∃ v L, o = .returned v ∧ (Q3 Z a1 a2 k g h0 n0) v U'.heap L ∧ ReturnedEndW U o U' L ({ frames := 5, cells := 2, slots := 12, locals := 74 } : Room).cells ({ frames := 5, cells := 2, slots := 12, locals := 74 } : Room).slots) := by
  refine MetFree.of_bodySF pn_3 hisR ?_
  intro p e s m args below meth c s₁ Bd hml0 hP hK
  obtain ⟨rfl, hZ, hh, hI⟩ := hP
  have hx := Bd.exec
  have hby := Bd.bytes
  have hml : c.maxLocals = 2 := hml0
  have hown : s.vm.findClass "java/lang/String" = some m.cls := findClass_of_methodNamed Bd.named
  have hnm := (name_of_methodNamed Bd.named Bd.method).1
  have X0 : Stand p l e ({ frames := 5, cells := 2, slots := 12, locals := 74 } : Room) s m #[(.ref a1), (.ref a2)] below meth c s₁ [] 0 0 := Stand.of_body Bd
  have e0 : s₁.heap = h0 := by rw [← hh, Bd.state]; rfl
  have N0 := Fr.nil n0
  have lk : meth.locks = false := BodyLoose.notSynchronized Bd
  have hret := Bd.returns
  show Ends p e below (EW s ({ frames := 5, cells := 2, slots := 12, locals := 74 } : Room).cells ({ frames := 5, cells := 2, slots := 12, locals := 74 } : Room).slots) (Q3 Z a1 a2 k g h0 n0) (s₁.setTop (entryFrame m #[(.ref a1), (.ref a2)] 2))
  refine Ends.cast (ef_3 m a1 a2) ?_
  refine own_aloadN (n := 1) X0 hx (hb hby d3_0) rfl rfl rfl ?_
  refine own_aloadN (n := 2) X0 hx (hb hby d3_1) rfl rfl rfl ?_
  refine own_iconst (n := 3) X0 hx (0 : Int32) (hb hby d3_2) rfl rfl ?_
  refine own_aloadN (n := 4) X0 hx (hb hby d3_3) rfl rfl rfl ?_
  refine own_arraylength (n := 5) X0 hx hZ e0 A (v := (Nat.toInt32 k)) (len_toInt (by omega)) (hb hby d3_4) rfl ?_
  refine own_aconst_null (n := 6) X0 hx (hb hby d3_5) rfl ?_
  refine own_callNW (n := 9) X0 hx hZ hI rfl hown (hw _ (List.mem_of_getElem? (i := 15) rfl)) (hw _ (List.mem_of_getElem? (i := 16) rfl)) (hw _ (List.mem_of_getElem? (i := 10) rfl)) (hw _ (List.mem_of_getElem? (i := 18) rfl)) (by decide) e0 (rm4 l Z a0 hw [] a1 a2 0 (Nat.toInt32 k) k g h0 n0 Z0 cs fm TT OL hcst hcw F0 nb A hne hg hk4 rfl rfl) (W := 0) (by decide) (by decide) (by decide) (by decide) (by rw [hml]; rfl) (argsL := [(.ref a2), (.int (0 : Int32)), (.int (Nat.toInt32 k)), .null]) (rest := []) pd_4 rfl (a := a1) (by rfl) (Nat.le_of_eq rfl) (hb hby d3_6) rfl rfl ?_
  intro v1 T1 h1 L1 X1 e1 hS1 hZ hown q1
  obtain ⟨rfl, M1, OL1, F1⟩ := q1
  have N1 := Fr.app N0 M1
  have Z1 := own_oldz OL1
  refine own_retVW X1 hx lk hS1 (by rw [e1]; exact (Nat.le_refl _)) hret (hb hby d3_9) (by decide) (by decide) ?_
  rw [e1]
  exact ⟨rfl, N1, OL1, F1⟩
theorem d2_0 : decode method_3_code 0 = .ok (.iload_n 0, 1) := by decide +kernel
theorem d2_1 : decode method_3_code 1 = .ok (.ifCond .ne 14, 3) := by decide +kernel
theorem d2_4 : decode method_3_code 4 = .ok (.new 7, 3) := by decide +kernel
theorem d2_7 : decode method_3_code 7 = .ok (.dup, 1) := by decide +kernel
theorem d2_8 : decode method_3_code 8 = .ok (.iconst 0, 1) := by decide +kernel
theorem d2_9 : decode method_3_code 9 = .ok (.newarray .char, 2) := by decide +kernel
theorem d2_11 : decode method_3_code 11 = .ok (.invokespecial 9, 3) := by decide +kernel
theorem d2_14 : decode method_3_code 14 = .ok (.areturn, 1) := by decide +kernel
theorem d2_15 : decode method_3_code 15 = .ok (.iload_n 0, 1) := by decide +kernel
theorem d2_16 : decode method_3_code 16 = .ok (.iconst 1, 1) := by decide +kernel
theorem d2_17 : decode method_3_code 17 = .ok (.if_icmp .ne 18, 3) := by decide +kernel
theorem d2_20 : decode method_3_code 20 = .ok (.new 7, 3) := by decide +kernel
theorem d2_23 : decode method_3_code 23 = .ok (.dup, 1) := by decide +kernel
theorem d2_24 : decode method_3_code 24 = .ok (.iconst 1, 1) := by decide +kernel
theorem d2_25 : decode method_3_code 25 = .ok (.newarray .char, 2) := by decide +kernel
theorem d2_27 : decode method_3_code 27 = .ok (.dup, 1) := by decide +kernel
theorem d2_28 : decode method_3_code 28 = .ok (.iconst 0, 1) := by decide +kernel
theorem d2_29 : decode method_3_code 29 = .ok (.iload_n 1, 1) := by decide +kernel
theorem d2_30 : decode method_3_code 30 = .ok (.castore, 1) := by decide +kernel
theorem d2_31 : decode method_3_code 31 = .ok (.invokespecial 9, 3) := by decide +kernel
theorem d2_34 : decode method_3_code 34 = .ok (.areturn, 1) := by decide +kernel
theorem d2_35 : decode method_3_code 35 = .ok (.iload_n 0, 1) := by decide +kernel
theorem d2_36 : decode method_3_code 36 = .ok (.iconst 2, 1) := by decide +kernel
theorem d2_37 : decode method_3_code 37 = .ok (.if_icmp .ne 22, 3) := by decide +kernel
theorem d2_40 : decode method_3_code 40 = .ok (.new 7, 3) := by decide +kernel
theorem d2_43 : decode method_3_code 43 = .ok (.dup, 1) := by decide +kernel
theorem d2_44 : decode method_3_code 44 = .ok (.iconst 2, 1) := by decide +kernel
theorem d2_45 : decode method_3_code 45 = .ok (.newarray .char, 2) := by decide +kernel
theorem d2_47 : decode method_3_code 47 = .ok (.dup, 1) := by decide +kernel
theorem d2_48 : decode method_3_code 48 = .ok (.iconst 0, 1) := by decide +kernel
theorem d2_49 : decode method_3_code 49 = .ok (.iload_n 1, 1) := by decide +kernel
theorem d2_50 : decode method_3_code 50 = .ok (.castore, 1) := by decide +kernel
theorem d2_51 : decode method_3_code 51 = .ok (.dup, 1) := by decide +kernel
theorem d2_52 : decode method_3_code 52 = .ok (.iconst 1, 1) := by decide +kernel
theorem d2_53 : decode method_3_code 53 = .ok (.iload_n 2, 1) := by decide +kernel
theorem d2_54 : decode method_3_code 54 = .ok (.castore, 1) := by decide +kernel
theorem d2_55 : decode method_3_code 55 = .ok (.invokespecial 9, 3) := by decide +kernel
theorem d2_58 : decode method_3_code 58 = .ok (.areturn, 1) := by decide +kernel
theorem d2_59 : decode method_3_code 59 = .ok (.iload_n 0, 1) := by decide +kernel
theorem d2_60 : decode method_3_code 60 = .ok (.iconst 3, 1) := by decide +kernel
theorem d2_61 : decode method_3_code 61 = .ok (.if_icmp .ne 26, 3) := by decide +kernel
theorem d2_64 : decode method_3_code 64 = .ok (.new 7, 3) := by decide +kernel
theorem d2_67 : decode method_3_code 67 = .ok (.dup, 1) := by decide +kernel
theorem d2_68 : decode method_3_code 68 = .ok (.iconst 3, 1) := by decide +kernel
theorem d2_69 : decode method_3_code 69 = .ok (.newarray .char, 2) := by decide +kernel
theorem d2_71 : decode method_3_code 71 = .ok (.dup, 1) := by decide +kernel
theorem d2_72 : decode method_3_code 72 = .ok (.iconst 0, 1) := by decide +kernel
theorem d2_73 : decode method_3_code 73 = .ok (.iload_n 1, 1) := by decide +kernel
theorem d2_74 : decode method_3_code 74 = .ok (.castore, 1) := by decide +kernel
theorem d2_75 : decode method_3_code 75 = .ok (.dup, 1) := by decide +kernel
theorem d2_76 : decode method_3_code 76 = .ok (.iconst 1, 1) := by decide +kernel
theorem d2_77 : decode method_3_code 77 = .ok (.iload_n 2, 1) := by decide +kernel
theorem d2_78 : decode method_3_code 78 = .ok (.castore, 1) := by decide +kernel
theorem d2_79 : decode method_3_code 79 = .ok (.dup, 1) := by decide +kernel
theorem d2_80 : decode method_3_code 80 = .ok (.iconst 2, 1) := by decide +kernel
theorem d2_81 : decode method_3_code 81 = .ok (.iload_n 3, 1) := by decide +kernel
theorem d2_82 : decode method_3_code 82 = .ok (.castore, 1) := by decide +kernel
theorem d2_83 : decode method_3_code 83 = .ok (.invokespecial 9, 3) := by decide +kernel
theorem d2_86 : decode method_3_code 86 = .ok (.areturn, 1) := by decide +kernel
theorem d2_87 : decode method_3_code 87 = .ok (.new 7, 3) := by decide +kernel
theorem d2_90 : decode method_3_code 90 = .ok (.dup, 1) := by decide +kernel
theorem d2_91 : decode method_3_code 91 = .ok (.iconst 4, 1) := by decide +kernel
theorem d2_92 : decode method_3_code 92 = .ok (.newarray .char, 2) := by decide +kernel
theorem d2_94 : decode method_3_code 94 = .ok (.dup, 1) := by decide +kernel
theorem d2_95 : decode method_3_code 95 = .ok (.iconst 0, 1) := by decide +kernel
theorem d2_96 : decode method_3_code 96 = .ok (.iload_n 1, 1) := by decide +kernel
theorem d2_97 : decode method_3_code 97 = .ok (.castore, 1) := by decide +kernel
theorem d2_98 : decode method_3_code 98 = .ok (.dup, 1) := by decide +kernel
theorem d2_99 : decode method_3_code 99 = .ok (.iconst 1, 1) := by decide +kernel
theorem d2_100 : decode method_3_code 100 = .ok (.iload_n 2, 1) := by decide +kernel
theorem d2_101 : decode method_3_code 101 = .ok (.castore, 1) := by decide +kernel
theorem d2_102 : decode method_3_code 102 = .ok (.dup, 1) := by decide +kernel
theorem d2_103 : decode method_3_code 103 = .ok (.iconst 2, 1) := by decide +kernel
theorem d2_104 : decode method_3_code 104 = .ok (.iload_n 3, 1) := by decide +kernel
theorem d2_105 : decode method_3_code 105 = .ok (.castore, 1) := by decide +kernel
theorem d2_106 : decode method_3_code 106 = .ok (.dup, 1) := by decide +kernel
theorem d2_107 : decode method_3_code 107 = .ok (.iconst 3, 1) := by decide +kernel
theorem d2_108 : decode method_3_code 108 = .ok (.iload 4, 2) := by decide +kernel
theorem d2_110 : decode method_3_code 110 = .ok (.castore, 1) := by decide +kernel
theorem d2_111 : decode method_3_code 111 = .ok (.invokespecial 9, 3) := by decide +kernel
theorem d2_114 : decode method_3_code 114 = .ok (.areturn, 1) := by decide +kernel
theorem pn_2 : plainFor (⟨"com/example/pathgauge/pathgauge/expression/PredicateIsWritablePinLaw", "make", "(ICCCC)Ljava/lang/String;"⟩ : MethodName) = true := by first | exact plainFor_of_name (by first | (simp [plainName, overriddenIn]; done) | decide +kernel) | decide +kernel
theorem ef_2 (m : MethodId) (p1 : Int32) (p2 : Int32) (p3 : Int32) (p4 : Int32) (p5 : Int32) : entryFrame m #[(.int p1), (.int p2), (.int p3), (.int p4), (.int p5)] 5 = mkF m 0 #[.val (.int p1), .val (.int p2), .val (.int p3), .val (.int p4), .val (.int p5)] [] := by first | (simp [entryFrame, argsToLocals, Value.category, Array.replicate]; done) | rfl
theorem pd_2 : parseMethodDescriptor "(ICCCC)Ljava/lang/String;" = some ⟨[.int, .char, .char, .char, .char], some (.object "java/lang/String")⟩ := by decide +kernel
def Q2 (Z : State) (p1 : Int32) (p2 : Int32) (p3 : Int32) (p4 : Int32) (p5 : Int32) (k : Nat) (h0 : Heap) (n0 : Nat) (v : Option Value) (h : Heap) (L : List Loc) : Prop := ∃ a, v = some (.ref a) ∧ Fr n0 L ∧ Old Z n0 h ∧ STR Z h a k (CH p2 p3 p4 p5)
theorem rm2 (l : Launch) (Z : State) (a0 : Array Value) (hw : ∀ d ∈ tables_1, d.before a0 Z = true) (ws : List Jvm.Cond) (p1 : Int32) (p2 : Int32) (p3 : Int32) (p4 : Int32) (p5 : Int32) (k : Nat) (h0 : Heap) (n0 : Nat) (Z0 : n0 ≤ h0.size) (cs : Int32) (fm : Value) (TT : STT Z cs fm) (OL : Old Z n0 h0) (hcst : Jvm.Lit.constHeld Z "java/lang/String" 7) (hcw : Jvm.Lit.compactW.before a0 Z = true) (hk : p1.toInt = (k : Int)) (hk4 : k ≤ 4) (n2 : nar .char p2 = p2) (g2 : 0 ≤ p2.toInt ∧ p2.toInt ≤ 65535) (n3 : nar .char p3 = p3) (g3 : 0 ≤ p3.toInt ∧ p3.toInt ≤ 65535) (n4 : nar .char p4 = p4) (g4 : 0 ≤ p4.toInt ∧ p4.toInt ≤ 65535) (n5 : nar .char p5 = p5) (g5 : 0 ≤ p5.toInt ∧ p5.toInt ≤ 65535) :
    MetFree l (⟨"com/example/pathgauge/pathgauge/expression/PredicateIsWritablePinLaw", "make", "(ICCCC)Ljava/lang/String;"⟩ : MethodName) (head1 (Jvm.Cond.code (⟨"com/example/pathgauge/pathgauge/expression/PredicateIsWritablePinLaw", "make", "(ICCCC)Ljava/lang/String;"⟩ : MethodName) method_3_code 5 (some (.object "java/lang/String")) :: ws) ({ frames := 6, cells := 4, slots := 20, locals := 88 } : Room)) (fun a U => a = #[(.int p1), (.int p2), (.int p3), (.int p4), (.int p5)] ∧ Z.Warmed39 U.vm ∧ U.heap = h0 ∧ IB Z U.vm []) (fun _ _ _ _ _ => True) (fun _ U o U' => ∃ v L, o = .returned v ∧ (Q2 Z p1 p2 p3 p4 p5 k h0 n0) v U'.heap L ∧ ReturnedEndW U o U' L ({ frames := 6, cells := 4, slots := 20, locals := 88 } : Room).cells ({ frames := 6, cells := 4, slots := 20, locals := 88 } : Room).slots) := by
  refine MetFree.of_bodySF pn_2 hisR ?_
  intro p e s m args below meth c s₁ Bd hml0 hP hK
  obtain ⟨rfl, hZ, hh, hI⟩ := hP
  have hx := Bd.exec
  have hby := Bd.bytes
  have hml : c.maxLocals = 5 := hml0
  have hown : s.vm.findClass "com/example/pathgauge/pathgauge/expression/PredicateIsWritablePinLaw" = some m.cls := findClass_of_methodNamed Bd.named
  have hnm := (name_of_methodNamed Bd.named Bd.method).1
  have X0 : Stand p l e ({ frames := 6, cells := 4, slots := 20, locals := 88 } : Room) s m #[(.int p1), (.int p2), (.int p3), (.int p4), (.int p5)] below meth c s₁ [] 0 0 := Stand.of_body Bd
  have e0 : s₁.heap = h0 := by rw [← hh, Bd.state]; rfl
  have N0 := Fr.nil n0
  have lk : meth.locks = false := BodyLoose.notSynchronized Bd
  have hret := Bd.returns
  show Ends p e below (EW s ({ frames := 6, cells := 4, slots := 20, locals := 88 } : Room).cells ({ frames := 6, cells := 4, slots := 20, locals := 88 } : Room).slots) (Q2 Z p1 p2 p3 p4 p5 k h0 n0) (s₁.setTop (entryFrame m #[(.int p1), (.int p2), (.int p3), (.int p4), (.int p5)] 5))
  refine Ends.cast (ef_2 m p1 p2 p3 p4 p5) ?_
  refine own_iloadN (n := 1) X0 hx (hb hby d2_0) rfl rfl ?_
  by_cases c1 : p1 = 0
  · refine own_ifNo (n := 4) X0 hx (hb hby d2_1) (Jvm.Free.XT.i0_ne_f c1) rfl ?_
    refine own_newO (n := 7) X0 hx hZ hown (hw _ (List.mem_of_getElem? (i := 8) rfl)) (hw _ (List.mem_of_getElem? (i := 9) rfl)) (hw _ (List.mem_of_getElem? (i := 10) rfl)) e0 (by decide) (by decide) (hb hby d2_4) rfl ?_
    intro T1 h1 b1 X1 e1 g1 E1 A1 D1
    have Z1 : n0 ≤ h1.size := Nat.le_trans Z0 E1.1
    have nb_b1 : n0 ≤ b1 := Nat.le_trans Z0 (Nat.le_of_eq g1.symm)
    have OL1 := OL.ext E1
    have N1_b1 : SP Z h1 b1 (.null) (0) := ⟨A1, D1 (Or.inr (hw _ (List.mem_of_getElem? (i := 24) rfl))) (ty := (.array .byte)) (by decide), D1 (Or.inr (hw _ (List.mem_of_getElem? (i := 25) rfl))) (ty := .byte) (by decide)⟩
    refine own_dup (n := 8) X1 hx (hb hby d2_7) rfl rfl ?_
    refine own_iconst (n := 9) X1 hx (0 : Int32) (hb hby d2_8) rfl rfl ?_
    refine own_newarr (n := 11) X1 hx hZ (ty := .char) rfl rfl (hw _ (List.mem_of_getElem? (i := 11) rfl)) e1 (i := 0) (cap := 1) rfl (by decide) (by decide) (by decide) (by decide) (hb hby d2_9) rfl ?_
    intro T2 h2 b2 X2 e2 g2 E2 A2
    have Z2 : n0 ≤ h2.size := Nat.le_trans Z1 E2.1
    have nb_b2 : n0 ≤ b2 := Nat.le_trans Z1 (Nat.le_of_eq g2.symm)
    have OL2 := OL1.ext E2
    have ne_b1_b2 : b1 ≠ b2 := Nat.ne_of_lt (Nat.lt_of_lt_of_le N1_b1.lt (Nat.le_of_eq g2.symm))
    have F2_b1 := N1_b1.ext E2
    have hG : ∀ j, j < 0 → (fun _ => 0) j = CH p2 p3 p4 p5 j := by
      intro j hj
      rcases j with _ | _ | _ | _ | j <;> first | omega | simp [CH, n2, n3, n4, n5]
    have hC : CHS (fun _ => 0) 0 := by
      intro j hj
      rw [hG j hj]
      rcases j with _ | _ | _ | _ | j <;> first | omega | exact g2 | exact g3 | exact g4 | exact g5
    refine own_callNW (n := 14) X2 hx hZ hI rfl hown (hw _ (List.mem_of_getElem? (i := 12) rfl)) (hw _ (List.mem_of_getElem? (i := 13) rfl)) (hw _ (List.mem_of_getElem? (i := 10) rfl)) (hw _ (List.mem_of_getElem? (i := 14) rfl)) (by decide) e2 (rm3 l Z a0 hw [] b1 b2 0 (fun _ => 0) h2 n0 Z2 cs fm TT OL2 hcst hcw F2_b1 nb_b1 A2 (Ne.symm ne_b1_b2) hC (by decide)) (W := 1) (by decide) (by decide) (by decide) (by decide) (by rw [hml]; rfl) (argsL := [(.ref b2)]) (rest := [(.ref b1)]) pd_3 rfl (a := b1) (by rfl) (Nat.le_of_eq rfl) (hb hby d2_11) rfl rfl ?_
    intro v3 T3 h3 L3 X3 e3 hS3 hZ hown q3
    obtain ⟨rfl, M3, OL3, F3⟩ := q3
    have N3 := Fr.app N0 M3
    have Z3 := own_oldz OL3
    refine own_retAW X3 hx lk hS3 (by rw [e3]; exact (Nat.le_refl _)) hret rfl rfl (hb hby d2_14) (by decide) (by decide) ?_
    rw [e3]
    have o : p1.toInt = 0 := by rw [c1]; rfl
    have kz : k = 0 := by omega
    subst kz
    exact ⟨_, rfl, N3, OL3, F3.congr hG⟩
  · refine own_ifYes (n := 15) X0 hx (hb hby d2_1) (Jvm.Free.XT.i0_ne_t c1) (by decide) (by decide) ?_
    refine own_iloadN (n := 16) X0 hx (hb hby d2_15) rfl rfl ?_
    refine own_iconst (n := 17) X0 hx (1 : Int32) (hb hby d2_16) rfl rfl ?_
    by_cases c17 : p1 = (1 : Int32)
    · refine own_icmpNo (n := 20) X0 hx (hb hby d2_17) (Jvm.Free.XT.ii_ne_f c17) rfl ?_
      refine own_newO (n := 23) X0 hx hZ hown (hw _ (List.mem_of_getElem? (i := 8) rfl)) (hw _ (List.mem_of_getElem? (i := 9) rfl)) (hw _ (List.mem_of_getElem? (i := 10) rfl)) e0 (by decide) (by decide) (hb hby d2_20) rfl ?_
      intro T4 h4 b4 X4 e4 g4 E4 A4 D4
      have Z4 : n0 ≤ h4.size := Nat.le_trans Z0 E4.1
      have nb_b4 : n0 ≤ b4 := Nat.le_trans Z0 (Nat.le_of_eq g4.symm)
      have OL4 := OL.ext E4
      have N4_b4 : SP Z h4 b4 (.null) (0) := ⟨A4, D4 (Or.inr (hw _ (List.mem_of_getElem? (i := 24) rfl))) (ty := (.array .byte)) (by decide), D4 (Or.inr (hw _ (List.mem_of_getElem? (i := 25) rfl))) (ty := .byte) (by decide)⟩
      refine own_dup (n := 24) X4 hx (hb hby d2_23) rfl rfl ?_
      refine own_iconst (n := 25) X4 hx (1 : Int32) (hb hby d2_24) rfl rfl ?_
      refine own_newarr (n := 27) X4 hx hZ (ty := .char) rfl rfl (hw _ (List.mem_of_getElem? (i := 11) rfl)) e4 (i := 1) (cap := 1) rfl (by decide) (by decide) (by decide) (by decide) (hb hby d2_25) rfl ?_
      intro T5 h5 b5 X5 e5 g5 E5 A5
      have Z5 : n0 ≤ h5.size := Nat.le_trans Z4 E5.1
      have nb_b5 : n0 ≤ b5 := Nat.le_trans Z4 (Nat.le_of_eq g5.symm)
      have OL5 := OL4.ext E5
      have ne_b4_b5 : b4 ≠ b5 := Nat.ne_of_lt (Nat.lt_of_lt_of_le N4_b4.lt (Nat.le_of_eq g5.symm))
      have F5_b4 := N4_b4.ext E5
      refine own_dup (n := 28) X5 hx (hb hby d2_27) rfl rfl ?_
      refine own_iconst (n := 29) X5 hx (0 : Int32) (hb hby d2_28) rfl rfl ?_
      refine own_iloadN (n := 30) X5 hx (hb hby d2_29) rfl rfl ?_
      refine own_castore (n := 31) X5 hx hZ e5 A5 (i := 0) rfl (by decide) (hb hby d2_30) rfl ?_
      intro T6 h6 X6 e6 W6 A6
      have N6 := Fr.snoc X6 N0 nb_b5
      have Z6 : n0 ≤ h6.size := Nat.le_trans Z5 (Keep.of_wr W6).1
      have OL6 := OL5.wr W6 nb_b5
      have F6_b4 := F5_b4.wrO W6 ne_b4_b5
      have hG : ∀ j, j < 1 → (fun y => if y = 0 then nar .char p2 else (fun _ => 0) y) j = CH p2 p3 p4 p5 j := by
        intro j hj
        rcases j with _ | _ | _ | _ | j <;> first | omega | simp [CH, n2, n3, n4, n5]
      have hC : CHS (fun y => if y = 0 then nar .char p2 else (fun _ => 0) y) 1 := by
        intro j hj
        rw [hG j hj]
        rcases j with _ | _ | _ | _ | j <;> first | omega | exact g2 | exact g3 | exact g4 | exact g5
      refine own_callNW (n := 34) X6 hx hZ hI rfl hown (hw _ (List.mem_of_getElem? (i := 12) rfl)) (hw _ (List.mem_of_getElem? (i := 13) rfl)) (hw _ (List.mem_of_getElem? (i := 10) rfl)) (hw _ (List.mem_of_getElem? (i := 14) rfl)) (by decide) e6 (rm3 l Z a0 hw [] b4 b5 1 (fun y => if y = 0 then nar .char p2 else (fun _ => 0) y) h6 n0 Z6 cs fm TT OL6 hcst hcw F6_b4 nb_b4 A6 (Ne.symm ne_b4_b5) hC (by decide)) (W := 1) (by decide) (by decide) (by decide) (by decide) (by rw [hml]; rfl) (argsL := [(.ref b5)]) (rest := [(.ref b4)]) pd_3 rfl (a := b4) (by rfl) (Nat.le_of_eq rfl) (hb hby d2_31) rfl rfl ?_
      intro v7 T7 h7 L7 X7 e7 hS7 hZ hown q7
      obtain ⟨rfl, M7, OL7, F7⟩ := q7
      have N7 := Fr.app N6 M7
      have Z7 := own_oldz OL7
      refine own_retAW X7 hx lk hS7 (by rw [e7]; exact (Nat.le_refl _)) hret rfl rfl (hb hby d2_34) (by decide) (by decide) ?_
      rw [e7]
      have y0 : ¬ p1.toInt = 0 := fun z => c1 (own_inj z)
      have o : p1.toInt = 1 := by rw [c17]; rfl
      have kz : k = 1 := by omega
      subst kz
      exact ⟨_, rfl, N7, OL7, F7.congr hG⟩
    · refine own_icmpYes (n := 35) X0 hx (hb hby d2_17) (Jvm.Free.XT.ii_ne_t c17) (by decide) (by decide) ?_
      refine own_iloadN (n := 36) X0 hx (hb hby d2_35) rfl rfl ?_
      refine own_iconst (n := 37) X0 hx (2 : Int32) (hb hby d2_36) rfl rfl ?_
      by_cases c37 : p1 = (2 : Int32)
      · refine own_icmpNo (n := 40) X0 hx (hb hby d2_37) (Jvm.Free.XT.ii_ne_f c37) rfl ?_
        refine own_newO (n := 43) X0 hx hZ hown (hw _ (List.mem_of_getElem? (i := 8) rfl)) (hw _ (List.mem_of_getElem? (i := 9) rfl)) (hw _ (List.mem_of_getElem? (i := 10) rfl)) e0 (by decide) (by decide) (hb hby d2_40) rfl ?_
        intro T8 h8 b8 X8 e8 g8 E8 A8 D8
        have Z8 : n0 ≤ h8.size := Nat.le_trans Z0 E8.1
        have nb_b8 : n0 ≤ b8 := Nat.le_trans Z0 (Nat.le_of_eq g8.symm)
        have OL8 := OL.ext E8
        have N8_b8 : SP Z h8 b8 (.null) (0) := ⟨A8, D8 (Or.inr (hw _ (List.mem_of_getElem? (i := 24) rfl))) (ty := (.array .byte)) (by decide), D8 (Or.inr (hw _ (List.mem_of_getElem? (i := 25) rfl))) (ty := .byte) (by decide)⟩
        refine own_dup (n := 44) X8 hx (hb hby d2_43) rfl rfl ?_
        refine own_iconst (n := 45) X8 hx (2 : Int32) (hb hby d2_44) rfl rfl ?_
        refine own_newarr (n := 47) X8 hx hZ (ty := .char) rfl rfl (hw _ (List.mem_of_getElem? (i := 11) rfl)) e8 (i := 2) (cap := 2) rfl (by decide) (by decide) (by decide) (by decide) (hb hby d2_45) rfl ?_
        intro T9 h9 b9 X9 e9 g9 E9 A9
        have Z9 : n0 ≤ h9.size := Nat.le_trans Z8 E9.1
        have nb_b9 : n0 ≤ b9 := Nat.le_trans Z8 (Nat.le_of_eq g9.symm)
        have OL9 := OL8.ext E9
        have ne_b8_b9 : b8 ≠ b9 := Nat.ne_of_lt (Nat.lt_of_lt_of_le N8_b8.lt (Nat.le_of_eq g9.symm))
        have F9_b8 := N8_b8.ext E9
        refine own_dup (n := 48) X9 hx (hb hby d2_47) rfl rfl ?_
        refine own_iconst (n := 49) X9 hx (0 : Int32) (hb hby d2_48) rfl rfl ?_
        refine own_iloadN (n := 50) X9 hx (hb hby d2_49) rfl rfl ?_
        refine own_castore (n := 51) X9 hx hZ e9 A9 (i := 0) rfl (by decide) (hb hby d2_50) rfl ?_
        intro T10 h10 X10 e10 W10 A10
        have N10 := Fr.snoc X10 N0 nb_b9
        have Z10 : n0 ≤ h10.size := Nat.le_trans Z9 (Keep.of_wr W10).1
        have OL10 := OL9.wr W10 nb_b9
        have F10_b8 := F9_b8.wrO W10 ne_b8_b9
        refine own_dup (n := 52) X10 hx (hb hby d2_51) rfl rfl ?_
        refine own_iconst (n := 53) X10 hx (1 : Int32) (hb hby d2_52) rfl rfl ?_
        refine own_iloadN (n := 54) X10 hx (hb hby d2_53) rfl rfl ?_
        refine own_castore (n := 55) X10 hx hZ e10 A10 (i := 1) rfl (by decide) (hb hby d2_54) rfl ?_
        intro T11 h11 X11 e11 W11 A11
        have N11 := Fr.snoc X11 N10 nb_b9
        have Z11 : n0 ≤ h11.size := Nat.le_trans Z10 (Keep.of_wr W11).1
        have OL11 := OL10.wr W11 nb_b9
        have F11_b8 := F10_b8.wrO W11 ne_b8_b9
        have hG : ∀ j, j < 2 → (fun y => if y = 1 then nar .char p3 else (fun y => if y = 0 then nar .char p2 else (fun _ => 0) y) y) j = CH p2 p3 p4 p5 j := by
          intro j hj
          rcases j with _ | _ | _ | _ | j <;> first | omega | simp [CH, n2, n3, n4, n5]
        have hC : CHS (fun y => if y = 1 then nar .char p3 else (fun y => if y = 0 then nar .char p2 else (fun _ => 0) y) y) 2 := by
          intro j hj
          rw [hG j hj]
          rcases j with _ | _ | _ | _ | j <;> first | omega | exact g2 | exact g3 | exact g4 | exact g5
        refine own_callNW (n := 58) X11 hx hZ hI rfl hown (hw _ (List.mem_of_getElem? (i := 12) rfl)) (hw _ (List.mem_of_getElem? (i := 13) rfl)) (hw _ (List.mem_of_getElem? (i := 10) rfl)) (hw _ (List.mem_of_getElem? (i := 14) rfl)) (by decide) e11 (rm3 l Z a0 hw [] b8 b9 2 (fun y => if y = 1 then nar .char p3 else (fun y => if y = 0 then nar .char p2 else (fun _ => 0) y) y) h11 n0 Z11 cs fm TT OL11 hcst hcw F11_b8 nb_b8 A11 (Ne.symm ne_b8_b9) hC (by decide)) (W := 1) (by decide) (by decide) (by decide) (by decide) (by rw [hml]; rfl) (argsL := [(.ref b9)]) (rest := [(.ref b8)]) pd_3 rfl (a := b8) (by rfl) (Nat.le_of_eq rfl) (hb hby d2_55) rfl rfl ?_
        intro v12 T12 h12 L12 X12 e12 hS12 hZ hown q12
        obtain ⟨rfl, M12, OL12, F12⟩ := q12
        have N12 := Fr.app N11 M12
        have Z12 := own_oldz OL12
        refine own_retAW X12 hx lk hS12 (by rw [e12]; exact (Nat.le_refl _)) hret rfl rfl (hb hby d2_58) (by decide) (by decide) ?_
        rw [e12]
        have y0 : ¬ p1.toInt = 0 := fun z => c1 (own_inj z)
        have y1 : ¬ p1.toInt = 1 := fun z => c17 (own_inj z)
        have o : p1.toInt = 2 := by rw [c37]; rfl
        have kz : k = 2 := by omega
        subst kz
        exact ⟨_, rfl, N12, OL12, F12.congr hG⟩
      · refine own_icmpYes (n := 59) X0 hx (hb hby d2_37) (Jvm.Free.XT.ii_ne_t c37) (by decide) (by decide) ?_
        refine own_iloadN (n := 60) X0 hx (hb hby d2_59) rfl rfl ?_
        refine own_iconst (n := 61) X0 hx (3 : Int32) (hb hby d2_60) rfl rfl ?_
        by_cases c61 : p1 = (3 : Int32)
        · refine own_icmpNo (n := 64) X0 hx (hb hby d2_61) (Jvm.Free.XT.ii_ne_f c61) rfl ?_
          refine own_newO (n := 67) X0 hx hZ hown (hw _ (List.mem_of_getElem? (i := 8) rfl)) (hw _ (List.mem_of_getElem? (i := 9) rfl)) (hw _ (List.mem_of_getElem? (i := 10) rfl)) e0 (by decide) (by decide) (hb hby d2_64) rfl ?_
          intro T13 h13 b13 X13 e13 g13 E13 A13 D13
          have Z13 : n0 ≤ h13.size := Nat.le_trans Z0 E13.1
          have nb_b13 : n0 ≤ b13 := Nat.le_trans Z0 (Nat.le_of_eq g13.symm)
          have OL13 := OL.ext E13
          have N13_b13 : SP Z h13 b13 (.null) (0) := ⟨A13, D13 (Or.inr (hw _ (List.mem_of_getElem? (i := 24) rfl))) (ty := (.array .byte)) (by decide), D13 (Or.inr (hw _ (List.mem_of_getElem? (i := 25) rfl))) (ty := .byte) (by decide)⟩
          refine own_dup (n := 68) X13 hx (hb hby d2_67) rfl rfl ?_
          refine own_iconst (n := 69) X13 hx (3 : Int32) (hb hby d2_68) rfl rfl ?_
          refine own_newarr (n := 71) X13 hx hZ (ty := .char) rfl rfl (hw _ (List.mem_of_getElem? (i := 11) rfl)) e13 (i := 3) (cap := 3) rfl (by decide) (by decide) (by decide) (by decide) (hb hby d2_69) rfl ?_
          intro T14 h14 b14 X14 e14 g14 E14 A14
          have Z14 : n0 ≤ h14.size := Nat.le_trans Z13 E14.1
          have nb_b14 : n0 ≤ b14 := Nat.le_trans Z13 (Nat.le_of_eq g14.symm)
          have OL14 := OL13.ext E14
          have ne_b13_b14 : b13 ≠ b14 := Nat.ne_of_lt (Nat.lt_of_lt_of_le N13_b13.lt (Nat.le_of_eq g14.symm))
          have F14_b13 := N13_b13.ext E14
          refine own_dup (n := 72) X14 hx (hb hby d2_71) rfl rfl ?_
          refine own_iconst (n := 73) X14 hx (0 : Int32) (hb hby d2_72) rfl rfl ?_
          refine own_iloadN (n := 74) X14 hx (hb hby d2_73) rfl rfl ?_
          refine own_castore (n := 75) X14 hx hZ e14 A14 (i := 0) rfl (by decide) (hb hby d2_74) rfl ?_
          intro T15 h15 X15 e15 W15 A15
          have N15 := Fr.snoc X15 N0 nb_b14
          have Z15 : n0 ≤ h15.size := Nat.le_trans Z14 (Keep.of_wr W15).1
          have OL15 := OL14.wr W15 nb_b14
          have F15_b13 := F14_b13.wrO W15 ne_b13_b14
          refine own_dup (n := 76) X15 hx (hb hby d2_75) rfl rfl ?_
          refine own_iconst (n := 77) X15 hx (1 : Int32) (hb hby d2_76) rfl rfl ?_
          refine own_iloadN (n := 78) X15 hx (hb hby d2_77) rfl rfl ?_
          refine own_castore (n := 79) X15 hx hZ e15 A15 (i := 1) rfl (by decide) (hb hby d2_78) rfl ?_
          intro T16 h16 X16 e16 W16 A16
          have N16 := Fr.snoc X16 N15 nb_b14
          have Z16 : n0 ≤ h16.size := Nat.le_trans Z15 (Keep.of_wr W16).1
          have OL16 := OL15.wr W16 nb_b14
          have F16_b13 := F15_b13.wrO W16 ne_b13_b14
          refine own_dup (n := 80) X16 hx (hb hby d2_79) rfl rfl ?_
          refine own_iconst (n := 81) X16 hx (2 : Int32) (hb hby d2_80) rfl rfl ?_
          refine own_iloadN (n := 82) X16 hx (hb hby d2_81) rfl rfl ?_
          refine own_castore (n := 83) X16 hx hZ e16 A16 (i := 2) rfl (by decide) (hb hby d2_82) rfl ?_
          intro T17 h17 X17 e17 W17 A17
          have N17 := Fr.snoc X17 N16 nb_b14
          have Z17 : n0 ≤ h17.size := Nat.le_trans Z16 (Keep.of_wr W17).1
          have OL17 := OL16.wr W17 nb_b14
          have F17_b13 := F16_b13.wrO W17 ne_b13_b14
          have hG : ∀ j, j < 3 → (fun y => if y = 2 then nar .char p4 else (fun y => if y = 1 then nar .char p3 else (fun y => if y = 0 then nar .char p2 else (fun _ => 0) y) y) y) j = CH p2 p3 p4 p5 j := by
            intro j hj
            rcases j with _ | _ | _ | _ | j <;> first | omega | simp [CH, n2, n3, n4, n5]
          have hC : CHS (fun y => if y = 2 then nar .char p4 else (fun y => if y = 1 then nar .char p3 else (fun y => if y = 0 then nar .char p2 else (fun _ => 0) y) y) y) 3 := by
            intro j hj
            rw [hG j hj]
            rcases j with _ | _ | _ | _ | j <;> first | omega | exact g2 | exact g3 | exact g4 | exact g5
          refine own_callNW (n := 86) X17 hx hZ hI rfl hown (hw _ (List.mem_of_getElem? (i := 12) rfl)) (hw _ (List.mem_of_getElem? (i := 13) rfl)) (hw _ (List.mem_of_getElem? (i := 10) rfl)) (hw _ (List.mem_of_getElem? (i := 14) rfl)) (by decide) e17 (rm3 l Z a0 hw [] b13 b14 3 (fun y => if y = 2 then nar .char p4 else (fun y => if y = 1 then nar .char p3 else (fun y => if y = 0 then nar .char p2 else (fun _ => 0) y) y) y) h17 n0 Z17 cs fm TT OL17 hcst hcw F17_b13 nb_b13 A17 (Ne.symm ne_b13_b14) hC (by decide)) (W := 1) (by decide) (by decide) (by decide) (by decide) (by rw [hml]; rfl) (argsL := [(.ref b14)]) (rest := [(.ref b13)]) pd_3 rfl (a := b13) (by rfl) (Nat.le_of_eq rfl) (hb hby d2_83) rfl rfl ?_
          intro v18 T18 h18 L18 X18 e18 hS18 hZ hown q18
          obtain ⟨rfl, M18, OL18, F18⟩ := q18
          have N18 := Fr.app N17 M18
          have Z18 := own_oldz OL18
          refine own_retAW X18 hx lk hS18 (by rw [e18]; exact (Nat.le_refl _)) hret rfl rfl (hb hby d2_86) (by decide) (by decide) ?_
          rw [e18]
          have y0 : ¬ p1.toInt = 0 := fun z => c1 (own_inj z)
          have y1 : ¬ p1.toInt = 1 := fun z => c17 (own_inj z)
          have y2 : ¬ p1.toInt = 2 := fun z => c37 (own_inj z)
          have o : p1.toInt = 3 := by rw [c61]; rfl
          have kz : k = 3 := by omega
          subst kz
          exact ⟨_, rfl, N18, OL18, F18.congr hG⟩
        · refine own_icmpYes (n := 87) X0 hx (hb hby d2_61) (Jvm.Free.XT.ii_ne_t c61) (by decide) (by decide) ?_
          refine own_newO (n := 90) X0 hx hZ hown (hw _ (List.mem_of_getElem? (i := 8) rfl)) (hw _ (List.mem_of_getElem? (i := 9) rfl)) (hw _ (List.mem_of_getElem? (i := 10) rfl)) e0 (by decide) (by decide) (hb hby d2_87) rfl ?_
          intro T19 h19 b19 X19 e19 g19 E19 A19 D19
          have Z19 : n0 ≤ h19.size := Nat.le_trans Z0 E19.1
          have nb_b19 : n0 ≤ b19 := Nat.le_trans Z0 (Nat.le_of_eq g19.symm)
          have OL19 := OL.ext E19
          have N19_b19 : SP Z h19 b19 (.null) (0) := ⟨A19, D19 (Or.inr (hw _ (List.mem_of_getElem? (i := 24) rfl))) (ty := (.array .byte)) (by decide), D19 (Or.inr (hw _ (List.mem_of_getElem? (i := 25) rfl))) (ty := .byte) (by decide)⟩
          refine own_dup (n := 91) X19 hx (hb hby d2_90) rfl rfl ?_
          refine own_iconst (n := 92) X19 hx (4 : Int32) (hb hby d2_91) rfl rfl ?_
          refine own_newarr (n := 94) X19 hx hZ (ty := .char) rfl rfl (hw _ (List.mem_of_getElem? (i := 11) rfl)) e19 (i := 4) (cap := 4) rfl (by decide) (by decide) (by decide) (by decide) (hb hby d2_92) rfl ?_
          intro T20 h20 b20 X20 e20 g20 E20 A20
          have Z20 : n0 ≤ h20.size := Nat.le_trans Z19 E20.1
          have nb_b20 : n0 ≤ b20 := Nat.le_trans Z19 (Nat.le_of_eq g20.symm)
          have OL20 := OL19.ext E20
          have ne_b19_b20 : b19 ≠ b20 := Nat.ne_of_lt (Nat.lt_of_lt_of_le N19_b19.lt (Nat.le_of_eq g20.symm))
          have F20_b19 := N19_b19.ext E20
          refine own_dup (n := 95) X20 hx (hb hby d2_94) rfl rfl ?_
          refine own_iconst (n := 96) X20 hx (0 : Int32) (hb hby d2_95) rfl rfl ?_
          refine own_iloadN (n := 97) X20 hx (hb hby d2_96) rfl rfl ?_
          refine own_castore (n := 98) X20 hx hZ e20 A20 (i := 0) rfl (by decide) (hb hby d2_97) rfl ?_
          intro T21 h21 X21 e21 W21 A21
          have N21 := Fr.snoc X21 N0 nb_b20
          have Z21 : n0 ≤ h21.size := Nat.le_trans Z20 (Keep.of_wr W21).1
          have OL21 := OL20.wr W21 nb_b20
          have F21_b19 := F20_b19.wrO W21 ne_b19_b20
          refine own_dup (n := 99) X21 hx (hb hby d2_98) rfl rfl ?_
          refine own_iconst (n := 100) X21 hx (1 : Int32) (hb hby d2_99) rfl rfl ?_
          refine own_iloadN (n := 101) X21 hx (hb hby d2_100) rfl rfl ?_
          refine own_castore (n := 102) X21 hx hZ e21 A21 (i := 1) rfl (by decide) (hb hby d2_101) rfl ?_
          intro T22 h22 X22 e22 W22 A22
          have N22 := Fr.snoc X22 N21 nb_b20
          have Z22 : n0 ≤ h22.size := Nat.le_trans Z21 (Keep.of_wr W22).1
          have OL22 := OL21.wr W22 nb_b20
          have F22_b19 := F21_b19.wrO W22 ne_b19_b20
          refine own_dup (n := 103) X22 hx (hb hby d2_102) rfl rfl ?_
          refine own_iconst (n := 104) X22 hx (2 : Int32) (hb hby d2_103) rfl rfl ?_
          refine own_iloadN (n := 105) X22 hx (hb hby d2_104) rfl rfl ?_
          refine own_castore (n := 106) X22 hx hZ e22 A22 (i := 2) rfl (by decide) (hb hby d2_105) rfl ?_
          intro T23 h23 X23 e23 W23 A23
          have N23 := Fr.snoc X23 N22 nb_b20
          have Z23 : n0 ≤ h23.size := Nat.le_trans Z22 (Keep.of_wr W23).1
          have OL23 := OL22.wr W23 nb_b20
          have F23_b19 := F22_b19.wrO W23 ne_b19_b20
          refine own_dup (n := 107) X23 hx (hb hby d2_106) rfl rfl ?_
          refine own_iconst (n := 108) X23 hx (3 : Int32) (hb hby d2_107) rfl rfl ?_
          refine own_iload (n := 110) X23 hx (hb hby d2_108) rfl rfl ?_
          refine own_castore (n := 111) X23 hx hZ e23 A23 (i := 3) rfl (by decide) (hb hby d2_110) rfl ?_
          intro T24 h24 X24 e24 W24 A24
          have N24 := Fr.snoc X24 N23 nb_b20
          have Z24 : n0 ≤ h24.size := Nat.le_trans Z23 (Keep.of_wr W24).1
          have OL24 := OL23.wr W24 nb_b20
          have F24_b19 := F23_b19.wrO W24 ne_b19_b20
          have hG : ∀ j, j < 4 → (fun y => if y = 3 then nar .char p5 else (fun y => if y = 2 then nar .char p4 else (fun y => if y = 1 then nar .char p3 else (fun y => if y = 0 then nar .char p2 else (fun _ => 0) y) y) y) y) j = CH p2 p3 p4 p5 j := by
            intro j hj
            rcases j with _ | _ | _ | _ | j <;> first | omega | simp [CH, n2, n3, n4, n5]
          have hC : CHS (fun y => if y = 3 then nar .char p5 else (fun y => if y = 2 then nar .char p4 else (fun y => if y = 1 then nar .char p3 else (fun y => if y = 0 then nar .char p2 else (fun _ => 0) y) y) y) y) 4 := by
            intro j hj
            rw [hG j hj]
            rcases j with _ | _ | _ | _ | j <;> first | omega | exact g2 | exact g3 | exact g4 | exact g5
          refine own_callNW (n := 114) X24 hx hZ hI rfl hown (hw _ (List.mem_of_getElem? (i := 12) rfl)) (hw _ (List.mem_of_getElem? (i := 13) rfl)) (hw _ (List.mem_of_getElem? (i := 10) rfl)) (hw _ (List.mem_of_getElem? (i := 14) rfl)) (by decide) e24 (rm3 l Z a0 hw [] b19 b20 4 (fun y => if y = 3 then nar .char p5 else (fun y => if y = 2 then nar .char p4 else (fun y => if y = 1 then nar .char p3 else (fun y => if y = 0 then nar .char p2 else (fun _ => 0) y) y) y) y) h24 n0 Z24 cs fm TT OL24 hcst hcw F24_b19 nb_b19 A24 (Ne.symm ne_b19_b20) hC (by decide)) (W := 1) (by decide) (by decide) (by decide) (by decide) (by rw [hml]; rfl) (argsL := [(.ref b20)]) (rest := [(.ref b19)]) pd_3 rfl (a := b19) (by rfl) (Nat.le_of_eq rfl) (hb hby d2_111) rfl rfl ?_
          intro v25 T25 h25 L25 X25 e25 hS25 hZ hown q25
          obtain ⟨rfl, M25, OL25, F25⟩ := q25
          have N25 := Fr.app N24 M25
          have Z25 := own_oldz OL25
          refine own_retAW X25 hx lk hS25 (by rw [e25]; exact (Nat.le_refl _)) hret rfl rfl (hb hby d2_114) (by decide) (by decide) ?_
          rw [e25]
          have y0 : ¬ p1.toInt = 0 := fun z => c1 (own_inj z)
          have y1 : ¬ p1.toInt = 1 := fun z => c17 (own_inj z)
          have y2 : ¬ p1.toInt = 2 := fun z => c37 (own_inj z)
          have y3 : ¬ p1.toInt = 3 := fun z => c61 (own_inj z)
          have kz : k = 4 := by omega
          subst kz
          exact ⟨_, rfl, N25, OL25, F25.congr hG⟩
theorem d10_0 : decode jdk_42_method_154_code 0 = .ok (.getstatic 38, 3) := by decide +kernel
theorem d10_3 : decode jdk_42_method_154_code 3 = .ok (.ifCond .eq 14, 3) := by decide +kernel
theorem d10_6 : decode jdk_42_method_154_code 6 = .ok (.aload_n 0, 1) := by decide +kernel
theorem d10_7 : decode jdk_42_method_154_code 7 = .ok (.getfield 15, 3) := by decide +kernel
theorem d10_10 : decode jdk_42_method_154_code 10 = .ok (.ifCond .ne 7, 3) := by decide +kernel
theorem d10_13 : decode jdk_42_method_154_code 13 = .ok (.iconst 1, 1) := by decide +kernel
theorem d10_14 : decode jdk_42_method_154_code 14 = .ok (.goto 4, 3) := by decide +kernel
theorem d10_17 : decode jdk_42_method_154_code 17 = .ok (.iconst 0, 1) := by decide +kernel
theorem d10_18 : decode jdk_42_method_154_code 18 = .ok (.ireturn, 1) := by decide +kernel
theorem pn_10 : plainFor (⟨"java/lang/String", "isLatin1", "()Z"⟩ : MethodName) = true := by first | exact plainFor_of_name (by first | (simp [plainName, overriddenIn]; done) | decide +kernel) | decide +kernel
theorem ef_10 (m : MethodId) (a1 : Addr) : entryFrame m #[(.ref a1)] 1 = mkF m 0 #[.val (.ref a1)] [] := by first | (simp [entryFrame, argsToLocals, Value.category, Array.replicate]; done) | rfl
theorem pd_10 : parseMethodDescriptor "()Z" = some ⟨[], some .boolean⟩ := by decide +kernel
def Q10 (Z : State) (a1 : Addr) (b2 : Addr) (f : Nat → Int32) (r : Int32) (n : Nat) (k : Nat) (h0 : Heap) (n0 : Nat) (v : Option Value) (h : Heap) (L : List Loc) : Prop := ∃ q, v = some (.int q) ∧ (r = 0 → ¬ q = 0) ∧ (¬ r = 0 → q = 0) ∧ Fr n0 L ∧ h0 = h
theorem rm10 (l : Launch) (Z : State) (a0 : Array Value) (hw : ∀ d ∈ tables_1, d.before a0 Z = true) (ws : List Jvm.Cond) (a1 : Addr) (b2 : Addr) (f : Nat → Int32) (r : Int32) (n : Nat) (k : Nat) (h0 : Heap) (n0 : Nat) (Z0 : n0 ≤ h0.size) (cs : Int32) (fm : Value) (TT : STT Z cs fm) (OL : Old Z n0 h0) (F0 : SP Z h0 a1 (.ref b2) r) (A : PA Z h0 b2 .byte n f) (hn : n ≤ 8) (D : (r = 0 ∧ n = k) ∨ (r = 1 ∧ n = 2 * k)) :
    MetFree l (⟨"java/lang/String", "isLatin1", "()Z"⟩ : MethodName) (head1 (Jvm.Cond.code (⟨"java/lang/String", "isLatin1", "()Z"⟩ : MethodName) jdk_42_method_154_code 1 (some .boolean) :: ws) ({ frames := 0, cells := 0, slots := 0, locals := 0 } : Room)) (fun a U => a = #[(.ref a1)] ∧ Z.Warmed39 U.vm ∧ U.heap = h0) (fun _ _ _ _ _ => True) (fun _ U o U' => ∃ v L, o = .returned v ∧ (Q10 Z a1 b2 f r n k h0 n0) v U'.heap L ∧ FrameEnd U o U' L ({ frames := 0, cells := 0, slots := 0, locals := 0 } : Room).cells ({ frames := 0, cells := 0, slots := 0, locals := 0 } : Room).slots) := by
  refine MetFree.of_bodySF pn_10 hisR ?_
  intro p e s m args below meth c s₁ Bd hml0 hP hK
  obtain ⟨rfl, hZ, hh⟩ := hP
  have hx := Bd.exec
  have hby := Bd.bytes
  have hml : c.maxLocals = 1 := hml0
  have hown : s.vm.findClass "java/lang/String" = some m.cls := findClass_of_methodNamed Bd.named
  have hnm := (name_of_methodNamed Bd.named Bd.method).1
  have X0 : Stand p l e ({ frames := 0, cells := 0, slots := 0, locals := 0 } : Room) s m #[(.ref a1)] below meth c s₁ [] 0 0 := Stand.of_body Bd
  have e0 : s₁.heap = h0 := by rw [← hh, Bd.state]; rfl
  have N0 := Fr.nil n0
  have lk : meth.locks = false := BodyLoose.notSynchronized Bd
  have hret := Bd.returns
  show Ends p e below (EF s ({ frames := 0, cells := 0, slots := 0, locals := 0 } : Room).cells ({ frames := 0, cells := 0, slots := 0, locals := 0 } : Room).slots) (Q10 Z a1 b2 f r n k h0 n0) (s₁.setTop (entryFrame m #[(.ref a1)] 1))
  refine Ends.cast (ef_10 m a1) ?_
  refine own_getS (n := 3) X0 hx hZ hown (hw _ (List.mem_of_getElem? (i := 52) rfl)) e0 (TT.2.2.1.ext OL.2) (hb hby d10_0) rfl ?_
  intro T1 X1 e1
  refine own_ifNo (n := 6) X1 hx (hb hby d10_3) (Jvm.Free.XT.i0_eq_f TT.1) rfl ?_
  refine own_aloadN (n := 7) X1 hx (hb hby d10_6) rfl rfl rfl ?_
  refine own_getF (n := 10) X1 hx hZ hown (hw _ (List.mem_of_getElem? (i := 29) rfl)) e1 F0.2.2 (hb hby d10_7) rfl ?_
  intro T2 X2 e2
  by_cases c10 : r = 0
  · refine own_ifNo (n := 13) X2 hx (hb hby d10_10) (Jvm.Free.XT.i0_ne_f c10) rfl ?_
    refine own_iconst (n := 14) X2 hx (1 : Int32) (hb hby d10_13) rfl rfl ?_
    refine own_goto (n := 18) X2 hx (hb hby d10_14) (by decide) (by decide) ?_
    refine own_retN X2 hx lk hret (by simp) (hb hby d10_18) (by decide) (by decide) ?_
    rw [e2]
    exact ⟨_, rfl, fun _ => by decide, fun z => absurd c10 z, N0, rfl⟩
  · refine own_ifYes (n := 17) X2 hx (hb hby d10_10) (Jvm.Free.XT.i0_ne_t c10) (by decide) (by decide) ?_
    refine own_iconst (n := 18) X2 hx (0 : Int32) (hb hby d10_17) rfl rfl ?_
    refine own_retN X2 hx lk hret (by simp) (hb hby d10_18) (by decide) (by decide) ?_
    rw [e2]
    exact ⟨_, rfl, fun z => absurd z c10, fun _ => rfl, N0, rfl⟩
theorem d12_0 : decode jdk_42_method_152_code 0 = .ok (.getstatic 38, 3) := by decide +kernel
theorem d12_3 : decode jdk_42_method_152_code 3 = .ok (.ifCond .eq 10, 3) := by decide +kernel
theorem d12_6 : decode jdk_42_method_152_code 6 = .ok (.aload_n 0, 1) := by decide +kernel
theorem d12_7 : decode jdk_42_method_152_code 7 = .ok (.getfield 15, 3) := by decide +kernel
theorem d12_10 : decode jdk_42_method_152_code 10 = .ok (.goto 4, 3) := by decide +kernel
theorem d12_13 : decode jdk_42_method_152_code 13 = .ok (.iconst 1, 1) := by decide +kernel
theorem d12_14 : decode jdk_42_method_152_code 14 = .ok (.ireturn, 1) := by decide +kernel
theorem pn_12 : plainFor (⟨"java/lang/String", "coder", "()B"⟩ : MethodName) = true := by first | exact plainFor_of_name (by first | (simp [plainName, overriddenIn]; done) | decide +kernel) | decide +kernel
theorem ef_12 (m : MethodId) (a1 : Addr) : entryFrame m #[(.ref a1)] 1 = mkF m 0 #[.val (.ref a1)] [] := by first | (simp [entryFrame, argsToLocals, Value.category, Array.replicate]; done) | rfl
theorem pd_12 : parseMethodDescriptor "()B" = some ⟨[], some .byte⟩ := by decide +kernel
def Q12 (Z : State) (a1 : Addr) (b2 : Addr) (f : Nat → Int32) (r : Int32) (n : Nat) (k : Nat) (h0 : Heap) (n0 : Nat) (v : Option Value) (h : Heap) (L : List Loc) : Prop := v = some (.int r) ∧ Fr n0 L ∧ h0 = h
theorem rm12 (l : Launch) (Z : State) (a0 : Array Value) (hw : ∀ d ∈ tables_1, d.before a0 Z = true) (ws : List Jvm.Cond) (a1 : Addr) (b2 : Addr) (f : Nat → Int32) (r : Int32) (n : Nat) (k : Nat) (h0 : Heap) (n0 : Nat) (Z0 : n0 ≤ h0.size) (cs : Int32) (fm : Value) (TT : STT Z cs fm) (OL : Old Z n0 h0) (F0 : SP Z h0 a1 (.ref b2) r) (A : PA Z h0 b2 .byte n f) (hn : n ≤ 8) (D : (r = 0 ∧ n = k) ∨ (r = 1 ∧ n = 2 * k)) :
    MetFree l (⟨"java/lang/String", "coder", "()B"⟩ : MethodName) (head1 (Jvm.Cond.code (⟨"java/lang/String", "coder", "()B"⟩ : MethodName) jdk_42_method_152_code 1 (some .byte) :: ws) ({ frames := 0, cells := 0, slots := 0, locals := 0 } : Room)) (fun a U => a = #[(.ref a1)] ∧ Z.Warmed39 U.vm ∧ U.heap = h0) (fun _ _ _ _ _ => True) (fun _ U o U' => ∃ v L, o = .returned v ∧ (Q12 Z a1 b2 f r n k h0 n0) v U'.heap L ∧ FrameEnd U o U' L ({ frames := 0, cells := 0, slots := 0, locals := 0 } : Room).cells ({ frames := 0, cells := 0, slots := 0, locals := 0 } : Room).slots) := by
  refine MetFree.of_bodySF pn_12 hisR ?_
  intro p e s m args below meth c s₁ Bd hml0 hP hK
  obtain ⟨rfl, hZ, hh⟩ := hP
  have hx := Bd.exec
  have hby := Bd.bytes
  have hml : c.maxLocals = 1 := hml0
  have hown : s.vm.findClass "java/lang/String" = some m.cls := findClass_of_methodNamed Bd.named
  have hnm := (name_of_methodNamed Bd.named Bd.method).1
  have X0 : Stand p l e ({ frames := 0, cells := 0, slots := 0, locals := 0 } : Room) s m #[(.ref a1)] below meth c s₁ [] 0 0 := Stand.of_body Bd
  have e0 : s₁.heap = h0 := by rw [← hh, Bd.state]; rfl
  have N0 := Fr.nil n0
  have lk : meth.locks = false := BodyLoose.notSynchronized Bd
  have hret := Bd.returns
  show Ends p e below (EF s ({ frames := 0, cells := 0, slots := 0, locals := 0 } : Room).cells ({ frames := 0, cells := 0, slots := 0, locals := 0 } : Room).slots) (Q12 Z a1 b2 f r n k h0 n0) (s₁.setTop (entryFrame m #[(.ref a1)] 1))
  refine Ends.cast (ef_12 m a1) ?_
  refine own_getS (n := 3) X0 hx hZ hown (hw _ (List.mem_of_getElem? (i := 52) rfl)) e0 (TT.2.2.1.ext OL.2) (hb hby d12_0) rfl ?_
  intro T1 X1 e1
  refine own_ifNo (n := 6) X1 hx (hb hby d12_3) (Jvm.Free.XT.i0_eq_f TT.1) rfl ?_
  refine own_aloadN (n := 7) X1 hx (hb hby d12_6) rfl rfl rfl ?_
  refine own_getF (n := 10) X1 hx hZ hown (hw _ (List.mem_of_getElem? (i := 29) rfl)) e1 F0.2.2 (hb hby d12_7) rfl ?_
  intro T2 X2 e2
  refine own_goto (n := 14) X2 hx (hb hby d12_10) (by decide) (by decide) ?_
  refine own_retN X2 hx lk hret (by simp) (hb hby d12_14) (by decide) (by decide) ?_
  rw [e2]
  exact ⟨by rw [own_bit r (own_D01 D)], N0, rfl⟩
theorem d11_0 : decode jdk_42_method_54_code 0 = .ok (.aload_n 0, 1) := by decide +kernel
theorem d11_1 : decode jdk_42_method_54_code 1 = .ok (.getfield 9, 3) := by decide +kernel
theorem d11_4 : decode jdk_42_method_54_code 4 = .ok (.arraylength, 1) := by decide +kernel
theorem d11_5 : decode jdk_42_method_54_code 5 = .ok (.aload_n 0, 1) := by decide +kernel
theorem d11_6 : decode jdk_42_method_54_code 6 = .ok (.invokevirtual 335, 3) := by decide +kernel
theorem d11_9 : decode jdk_42_method_54_code 9 = .ok (.ishr, 1) := by decide +kernel
theorem d11_10 : decode jdk_42_method_54_code 10 = .ok (.ireturn, 1) := by decide +kernel
theorem pn_11 : plainFor (⟨"java/lang/String", "length", "()I"⟩ : MethodName) = true := by first | exact plainFor_of_name (by first | (simp [plainName, overriddenIn]; done) | decide +kernel) | decide +kernel
theorem ef_11 (m : MethodId) (a1 : Addr) : entryFrame m #[(.ref a1)] 1 = mkF m 0 #[.val (.ref a1)] [] := by first | (simp [entryFrame, argsToLocals, Value.category, Array.replicate]; done) | rfl
theorem pd_11 : parseMethodDescriptor "()I" = some ⟨[], some .int⟩ := by decide +kernel
def Q11 (Z : State) (a1 : Addr) (b2 : Addr) (f : Nat → Int32) (r : Int32) (n : Nat) (k : Nat) (h0 : Heap) (n0 : Nat) (v : Option Value) (h : Heap) (L : List Loc) : Prop := ∃ q, v = some (.int q) ∧ q.toInt = (k : Int) ∧ Fr n0 L ∧ h0 = h
theorem rm11 (l : Launch) (Z : State) (a0 : Array Value) (hw : ∀ d ∈ tables_1, d.before a0 Z = true) (ws : List Jvm.Cond) (a1 : Addr) (b2 : Addr) (f : Nat → Int32) (r : Int32) (n : Nat) (k : Nat) (h0 : Heap) (n0 : Nat) (Z0 : n0 ≤ h0.size) (cs : Int32) (fm : Value) (TT : STT Z cs fm) (OL : Old Z n0 h0) (F0 : SP Z h0 a1 (.ref b2) r) (A : PA Z h0 b2 .byte n f) (hn : n ≤ 8) (D : (r = 0 ∧ n = k) ∨ (r = 1 ∧ n = 2 * k)) :
    MetFree l (⟨"java/lang/String", "length", "()I"⟩ : MethodName) (head1 (Jvm.Cond.code (⟨"java/lang/String", "length", "()I"⟩ : MethodName) jdk_42_method_54_code 1 (some .int) :: ws) ({ frames := 1, cells := 0, slots := 0, locals := 13 } : Room)) (fun a U => a = #[(.ref a1)] ∧ Z.Warmed39 U.vm ∧ U.heap = h0) (fun _ _ _ _ _ => True) (fun _ U o U' => ∃ v L, o = .returned v ∧ (Q11 Z a1 b2 f r n k h0 n0) v U'.heap L ∧ FrameEnd U o U' L ({ frames := 1, cells := 0, slots := 0, locals := 13 } : Room).cells ({ frames := 1, cells := 0, slots := 0, locals := 13 } : Room).slots) := by
  refine MetFree.of_bodySF pn_11 hisR ?_
  intro p e s m args below meth c s₁ Bd hml0 hP hK
  obtain ⟨rfl, hZ, hh⟩ := hP
  have hx := Bd.exec
  have hby := Bd.bytes
  have hml : c.maxLocals = 1 := hml0
  have hown : s.vm.findClass "java/lang/String" = some m.cls := findClass_of_methodNamed Bd.named
  have hnm := (name_of_methodNamed Bd.named Bd.method).1
  have X0 : Stand p l e ({ frames := 1, cells := 0, slots := 0, locals := 13 } : Room) s m #[(.ref a1)] below meth c s₁ [] 0 0 := Stand.of_body Bd
  have e0 : s₁.heap = h0 := by rw [← hh, Bd.state]; rfl
  have N0 := Fr.nil n0
  have lk : meth.locks = false := BodyLoose.notSynchronized Bd
  have hret := Bd.returns
  show Ends p e below (EF s ({ frames := 1, cells := 0, slots := 0, locals := 13 } : Room).cells ({ frames := 1, cells := 0, slots := 0, locals := 13 } : Room).slots) (Q11 Z a1 b2 f r n k h0 n0) (s₁.setTop (entryFrame m #[(.ref a1)] 1))
  refine Ends.cast (ef_11 m a1) ?_
  refine own_aloadN (n := 1) X0 hx (hb hby d11_0) rfl rfl rfl ?_
  refine own_getF (n := 4) X0 hx hZ hown (hw _ (List.mem_of_getElem? (i := 28) rfl)) e0 F0.2.1 (hb hby d11_1) rfl ?_
  intro T1 X1 e1
  refine own_arraylength (n := 5) X1 hx hZ e1 A (v := (Nat.toInt32 n)) (len_toInt A.1) (hb hby d11_4) rfl ?_
  refine own_aloadN (n := 6) X1 hx (hb hby d11_5) rfl rfl rfl ?_
  refine own_callV (n := 9) X1 hx hZ hown (hw _ (List.mem_of_getElem? (i := 58) rfl)) (hw _ (List.mem_of_getElem? (i := 59) rfl)) (hw _ (List.mem_of_getElem? (i := 61) rfl)) (hw _ (List.mem_of_getElem? (i := 60) rfl)) (hw _ (List.mem_of_getElem? (i := 10) rfl)) (hw _ (List.mem_of_getElem? (i := 62) rfl)) (by decide) e1 F0.1 (rm12 l Z a0 hw [] a1 b2 f r n k h0 n0 Z0 cs fm TT OL F0 A hn D) (W := 1) (by decide) (by decide) (by decide) (by decide) (by rw [hml]; rfl) (argsL := []) (rest := [(.int (Nat.toInt32 n))]) pd_12 rfl (by rfl) (Nat.le_of_eq rfl) (hb hby d11_6) rfl rfl ?_
  intro v2 T2 h2 L2 X2 e2 q2
  obtain ⟨rfl, M2, rfl⟩ := q2
  have N2 := Fr.app N0 M2
  refine own_ishr (n := 10) X2 hx (hb hby d11_9) rfl ?_
  refine own_retI X2 hx lk hret (hb hby d11_10) (by decide) (by decide) ?_
  rw [e2]
  exact ⟨_, rfl, own_len n k r hn D, N2, rfl⟩
theorem d20_0 : decode jdk_43_method_23_code 0 = .ok (.iload_n 1, 1) := by decide +kernel
theorem d20_1 : decode jdk_43_method_23_code 1 = .ok (.i2b, 1) := by decide +kernel
theorem d20_2 : decode jdk_43_method_23_code 2 = .ok (.istore 4, 2) := by decide +kernel
theorem d20_4 : decode jdk_43_method_23_code 4 = .ok (.iload_n 2, 1) := by decide +kernel
theorem d20_5 : decode jdk_43_method_23_code 5 = .ok (.istore 5, 2) := by decide +kernel
theorem d20_7 : decode jdk_43_method_23_code 7 = .ok (.iload 5, 2) := by decide +kernel
theorem d20_9 : decode jdk_43_method_23_code 9 = .ok (.iload_n 3, 1) := by decide +kernel
theorem d20_10 : decode jdk_43_method_23_code 10 = .ok (.if_icmp .ge 21, 3) := by decide +kernel
theorem d20_13 : decode jdk_43_method_23_code 13 = .ok (.aload_n 0, 1) := by decide +kernel
theorem d20_14 : decode jdk_43_method_23_code 14 = .ok (.iload 5, 2) := by decide +kernel
theorem d20_16 : decode jdk_43_method_23_code 16 = .ok (.baload, 1) := by decide +kernel
theorem d20_17 : decode jdk_43_method_23_code 17 = .ok (.iload 4, 2) := by decide +kernel
theorem d20_19 : decode jdk_43_method_23_code 19 = .ok (.if_icmp .ne 6, 3) := by decide +kernel
theorem d20_22 : decode jdk_43_method_23_code 22 = .ok (.iload 5, 2) := by decide +kernel
theorem d20_24 : decode jdk_43_method_23_code 24 = .ok (.ireturn, 1) := by decide +kernel
theorem d20_25 : decode jdk_43_method_23_code 25 = .ok (.iinc 5 1, 3) := by decide +kernel
theorem d20_28 : decode jdk_43_method_23_code 28 = .ok (.goto (-21), 3) := by decide +kernel
theorem d20_31 : decode jdk_43_method_23_code 31 = .ok (.iconst (-1), 1) := by decide +kernel
theorem d20_32 : decode jdk_43_method_23_code 32 = .ok (.ireturn, 1) := by decide +kernel
theorem pn_20 : plainFor (⟨"java/lang/StringLatin1", "indexOfChar", "([BIII)I"⟩ : MethodName) = true := by first | exact plainFor_of_name (by first | (simp [plainName, overriddenIn]; done) | decide +kernel) | decide +kernel
theorem ef_20 (m : MethodId) (a1 : Addr) (p2 : Int32) (p3 : Int32) (p4 : Int32) : entryFrame m #[(.ref a1), (.int p2), (.int p3), (.int p4)] 6 = mkF m 0 #[.val (.ref a1), .val (.int p2), .val (.int p3), .val (.int p4), .unset, .unset] [] := by first | (simp [entryFrame, argsToLocals, Value.category, Array.replicate]; done) | rfl
theorem pd_20 : parseMethodDescriptor "([BIII)I" = some ⟨[(.array .byte), .int, .int, .int], some .int⟩ := by decide +kernel
def Q20 (Z : State) (a1 : Addr) (p2 : Int32) (p3 : Int32) (p4 : Int32) (f : Nat → Int32) (g : Nat → Int32) (k : Nat) (h0 : Heap) (n0 : Nat) (v : Option Value) (h : Heap) (L : List Loc) : Prop := ∃ q, v = some (.int q) ∧ (¬ q < 0 ↔ HC g k p2) ∧ Fr n0 L ∧ h0 = h
theorem rm20 (l : Launch) (Z : State) (a0 : Array Value) (hw : ∀ d ∈ tables_1, d.before a0 Z = true) (ws : List Jvm.Cond) (a1 : Addr) (p2 : Int32) (p3 : Int32) (p4 : Int32) (f : Nat → Int32) (g : Nat → Int32) (k : Nat) (h0 : Heap) (n0 : Nat) (Z0 : n0 ≤ h0.size) (A : PA Z h0 a1 .byte k f) (LT : LAT g f k) (hc : p2 = 34 ∨ p2 = 39) (hg : CHS g k) (zp3 : p3 = 0) (hk : p4.toInt = (k : Int)) (hk4 : k ≤ 4) :
    MetFree l (⟨"java/lang/StringLatin1", "indexOfChar", "([BIII)I"⟩ : MethodName) (head1 (Jvm.Cond.code (⟨"java/lang/StringLatin1", "indexOfChar", "([BIII)I"⟩ : MethodName) jdk_43_method_23_code 6 (some .int) :: ws) ({ frames := 0, cells := 0, slots := 0, locals := 0 } : Room)) (fun a U => a = #[(.ref a1), (.int p2), (.int p3), (.int p4)] ∧ Z.Warmed39 U.vm ∧ U.heap = h0) (fun _ _ _ _ _ => True) (fun _ U o U' => ∃ v L, o = .returned v ∧ (Q20 Z a1 p2 p3 p4 f g k h0 n0) v U'.heap L ∧ FrameEnd U o U' L ({ frames := 0, cells := 0, slots := 0, locals := 0 } : Room).cells ({ frames := 0, cells := 0, slots := 0, locals := 0 } : Room).slots) := by
  refine MetFree.of_bodySF pn_20 hisR ?_
  intro p e s m args below meth c s₁ Bd hml0 hP hK
  obtain ⟨rfl, hZ, hh⟩ := hP
  have hx := Bd.exec
  have hby := Bd.bytes
  have hml : c.maxLocals = 6 := hml0
  have hown : s.vm.findClass "java/lang/StringLatin1" = some m.cls := findClass_of_methodNamed Bd.named
  have hnm := (name_of_methodNamed Bd.named Bd.method).1
  have X0 : Stand p l e ({ frames := 0, cells := 0, slots := 0, locals := 0 } : Room) s m #[(.ref a1), (.int p2), (.int p3), (.int p4)] below meth c s₁ [] 0 0 := Stand.of_body Bd
  have e0 : s₁.heap = h0 := by rw [← hh, Bd.state]; rfl
  have N0 := Fr.nil n0
  have lk : meth.locks = false := BodyLoose.notSynchronized Bd
  have hret := Bd.returns
  show Ends p e below (EF s ({ frames := 0, cells := 0, slots := 0, locals := 0 } : Room).cells ({ frames := 0, cells := 0, slots := 0, locals := 0 } : Room).slots) (Q20 Z a1 p2 p3 p4 f g k h0 n0) (s₁.setTop (entryFrame m #[(.ref a1), (.int p2), (.int p3), (.int p4)] 6))
  refine Ends.cast (ef_20 m a1 p2 p3 p4) ?_
  have loop : ∀ (n : Nat) (TB : State) (hB : Heap) (lB : List Loc) (ii : Int32) (i : Nat) (XB : Stand p l e ({ frames := 0, cells := 0, slots := 0, locals := 0 } : Room) s m #[(.ref a1), (.int p2), (.int p3), (.int p4)] below meth c TB lB (0) (0)) (eB : TB.heap = hB) (NB : Fr n0 lB) (ZB : n0 ≤ hB.size) (hii : ii.toInt = (i : Int)) (hin : i + n = k) (eh : hB = h0) (NO : ∀ j, j < i → ¬ g j = p2), Ends p e below (EF s ({ frames := 0, cells := 0, slots := 0, locals := 0 } : Room).cells ({ frames := 0, cells := 0, slots := 0, locals := 0 } : Room).slots) (Q20 Z a1 p2 p3 p4 f g k h0 n0) (TB.setTop (mkF m 7 #[.val (.ref a1), .val (.int p2), .val (.int p3), .val (.int p4), .val (.int (p2.toInt8.toInt32)), .val (.int ii)] [])) := by
    intro n
    induction n with
    | zero =>
      intro TB hB lB ii i XB eB NB ZB hii hin eh NO
      rw [eh] at eB
      refine own_iload (n := 9) XB hx (hb hby d20_7) rfl rfl ?_
      refine own_iloadN (n := 10) XB hx (hb hby d20_9) rfl rfl ?_
      refine own_icmpYes (n := 31) XB hx (hb hby d20_10) (Jvm.Free.XT.ii_ge_t (by rw [Int32.lt_iff_toInt_lt]; omega)) (by decide) (by decide) ?_
      refine own_iconst (n := 32) XB hx (-1 : Int32) (hb hby d20_31) (by decide) rfl ?_
      refine own_retI XB hx lk hret (hb hby d20_32) (by decide) (by decide) ?_
      rw [eB]
      exact ⟨_, rfl, own_m1 _ (fun ⟨j, hj, e⟩ => NO j (by omega) e), NB, rfl⟩
    | succ n ih =>
      intro TB hB lB ii i XB eB NB ZB hii hin eh NO
      rw [eh] at eB
      refine own_iload (n := 9) XB hx (hb hby d20_7) rfl rfl ?_
      refine own_iloadN (n := 10) XB hx (hb hby d20_9) rfl rfl ?_
      refine own_icmpNo (n := 13) XB hx (hb hby d20_10) (Jvm.Free.XT.ii_ge_f (by rw [Int32.lt_iff_toInt_lt]; omega)) rfl ?_
      refine own_aloadN (n := 14) XB hx (hb hby d20_13) rfl rfl rfl ?_
      refine own_iload (n := 16) XB hx (hb hby d20_14) rfl rfl ?_
      refine own_baload (n := 17) XB hx hZ eB A (i := i) hii (by omega) (hb hby d20_16) rfl ?_
      refine own_iload (n := 19) XB hx (hb hby d20_17) rfl rfl ?_
      by_cases c19 : (f i) = (p2.toInt8.toInt32)
      · refine own_icmpNo (n := 22) XB hx (hb hby d20_19) (Jvm.Free.XT.ii_ne_f c19) rfl ?_
        refine own_iload (n := 24) XB hx (hb hby d20_22) rfl rfl ?_
        refine own_retI XB hx lk hret (hb hby d20_24) (by decide) (by decide) ?_
        rw [eB]
        exact ⟨_, rfl, own_pos hii _ ⟨i, by omega, (own_b hc (hg i (by omega)).1 (LT i (by omega)).1).mp ((LT i (by omega)).2.symm.trans c19)⟩, NB, rfl⟩
      · refine own_icmpYes (n := 25) XB hx (hb hby d20_19) (Jvm.Free.XT.ii_ne_t c19) (by decide) (by decide) ?_
        refine own_iinc (n := 28) XB hx (hb hby d20_25) rfl (v := (1 : Int32)) rfl (l' := #[.val (.ref a1), .val (.int p2), .val (.int p3), .val (.int p4), .val (.int (p2.toInt8.toInt32)), .val (.int (ii + (1 : Int32)))]) rfl rfl ?_
        refine own_goto (n := 7) XB hx (hb hby d20_28) (by decide) (by decide) ?_
        show Ends p e below (EF s ({ frames := 0, cells := 0, slots := 0, locals := 0 } : Room).cells ({ frames := 0, cells := 0, slots := 0, locals := 0 } : Room).slots) (Q20 Z a1 p2 p3 p4 f g k h0 n0) (TB.setTop (mkF m 7 #[.val (.ref a1), .val (.int p2), .val (.int p3), .val (.int p4), .val (.int (p2.toInt8.toInt32)), .val (.int (ii + (1 : Int32)))] []))
        exact ih _ _ _ _ (i + 1) XB eB NB Z0 (own_add1 hii (by omega)) (by omega) rfl (fun j hj => by
          by_cases e : j = i
          · subst e; exact fun z => c19 ((LT j (by omega)).2.trans ((own_b hc (hg j (by omega)).1 (LT j (by omega)).1).mpr z))
          · exact NO j (by omega))
  refine own_iloadN (n := 1) X0 hx (hb hby d20_0) rfl rfl ?_
  refine own_i2b (n := 2) X0 hx (hb hby d20_1) rfl ?_
  refine own_istore (n := 4) X0 hx (hb hby d20_2) (l' := #[.val (.ref a1), .val (.int p2), .val (.int p3), .val (.int p4), .val (.int (p2.toInt8.toInt32)), .unset]) rfl rfl ?_
  refine own_iloadN (n := 5) X0 hx (hb hby d20_4) rfl rfl ?_
  refine own_istore (n := 7) X0 hx (hb hby d20_5) (l' := #[.val (.ref a1), .val (.int p2), .val (.int p3), .val (.int p4), .val (.int (p2.toInt8.toInt32)), .val (.int p3)]) rfl rfl ?_
  show Ends p e below (EF s ({ frames := 0, cells := 0, slots := 0, locals := 0 } : Room).cells ({ frames := 0, cells := 0, slots := 0, locals := 0 } : Room).slots) (Q20 Z a1 p2 p3 p4 f g k h0 n0) (s₁.setTop (mkF m 7 #[.val (.ref a1), .val (.int p2), .val (.int p3), .val (.int p4), .val (.int (p2.toInt8.toInt32)), .val (.int p3)] []))
  exact loop k _ _ _ _ 0 X0 e0 N0 Z0 (by rw [zp3]; rfl) (by omega) rfl (fun j hj => absurd hj (Nat.not_lt_zero _))
theorem d13_0 : decode jdk_43_method_22_code 0 = .ok (.iload_n 1, 1) := by decide +kernel
theorem d13_1 : decode jdk_43_method_22_code 1 = .ok (.invokestatic 88, 3) := by decide +kernel
theorem d13_4 : decode jdk_43_method_22_code 4 = .ok (.ifCond .ne 5, 3) := by decide +kernel
theorem d13_7 : decode jdk_43_method_22_code 7 = .ok (.iconst (-1), 1) := by decide +kernel
theorem d13_8 : decode jdk_43_method_22_code 8 = .ok (.ireturn, 1) := by decide +kernel
theorem d13_9 : decode jdk_43_method_22_code 9 = .ok (.iload_n 2, 1) := by decide +kernel
theorem d13_10 : decode jdk_43_method_22_code 10 = .ok (.iconst 0, 1) := by decide +kernel
theorem d13_11 : decode jdk_43_method_22_code 11 = .ok (.invokestatic 92, 3) := by decide +kernel
theorem d13_14 : decode jdk_43_method_22_code 14 = .ok (.istore_n 2, 1) := by decide +kernel
theorem d13_15 : decode jdk_43_method_22_code 15 = .ok (.iload_n 3, 1) := by decide +kernel
theorem d13_16 : decode jdk_43_method_22_code 16 = .ok (.aload_n 0, 1) := by decide +kernel
theorem d13_17 : decode jdk_43_method_22_code 17 = .ok (.arraylength, 1) := by decide +kernel
theorem d13_18 : decode jdk_43_method_22_code 18 = .ok (.invokestatic 38, 3) := by decide +kernel
theorem d13_21 : decode jdk_43_method_22_code 21 = .ok (.istore_n 3, 1) := by decide +kernel
theorem d13_22 : decode jdk_43_method_22_code 22 = .ok (.iload_n 2, 1) := by decide +kernel
theorem d13_23 : decode jdk_43_method_22_code 23 = .ok (.iload_n 3, 1) := by decide +kernel
theorem d13_24 : decode jdk_43_method_22_code 24 = .ok (.if_icmp .lt 5, 3) := by decide +kernel
theorem d13_27 : decode jdk_43_method_22_code 27 = .ok (.iconst (-1), 1) := by decide +kernel
theorem d13_28 : decode jdk_43_method_22_code 28 = .ok (.ireturn, 1) := by decide +kernel
theorem d13_29 : decode jdk_43_method_22_code 29 = .ok (.aload_n 0, 1) := by decide +kernel
theorem d13_30 : decode jdk_43_method_22_code 30 = .ok (.iload_n 1, 1) := by decide +kernel
theorem d13_31 : decode jdk_43_method_22_code 31 = .ok (.iload_n 2, 1) := by decide +kernel
theorem d13_32 : decode jdk_43_method_22_code 32 = .ok (.iload_n 3, 1) := by decide +kernel
theorem d13_33 : decode jdk_43_method_22_code 33 = .ok (.invokestatic 95, 3) := by decide +kernel
theorem d13_36 : decode jdk_43_method_22_code 36 = .ok (.ireturn, 1) := by decide +kernel
theorem pn_13 : plainFor (⟨"java/lang/StringLatin1", "indexOf", "([BIII)I"⟩ : MethodName) = true := by first | exact plainFor_of_name (by first | (simp [plainName, overriddenIn]; done) | decide +kernel) | decide +kernel
theorem ef_13 (m : MethodId) (a1 : Addr) (p2 : Int32) (p3 : Int32) (p4 : Int32) : entryFrame m #[(.ref a1), (.int p2), (.int p3), (.int p4)] 4 = mkF m 0 #[.val (.ref a1), .val (.int p2), .val (.int p3), .val (.int p4)] [] := by first | (simp [entryFrame, argsToLocals, Value.category, Array.replicate]; done) | rfl
theorem pd_13 : parseMethodDescriptor "([BIII)I" = some ⟨[(.array .byte), .int, .int, .int], some .int⟩ := by decide +kernel
def Q13 (Z : State) (a1 : Addr) (p2 : Int32) (p3 : Int32) (p4 : Int32) (f : Nat → Int32) (g : Nat → Int32) (k : Nat) (h0 : Heap) (n0 : Nat) (v : Option Value) (h : Heap) (L : List Loc) : Prop := ∃ q, v = some (.int q) ∧ (¬ q < 0 ↔ HC g k p2) ∧ Fr n0 L ∧ h0 = h
theorem rm13 (l : Launch) (Z : State) (a0 : Array Value) (hw : ∀ d ∈ tables_1, d.before a0 Z = true) (ws : List Jvm.Cond) (a1 : Addr) (p2 : Int32) (p3 : Int32) (p4 : Int32) (f : Nat → Int32) (g : Nat → Int32) (k : Nat) (h0 : Heap) (n0 : Nat) (Z0 : n0 ≤ h0.size) (A : PA Z h0 a1 .byte k f) (LT : LAT g f k) (hc : p2 = 34 ∨ p2 = 39) (hg : CHS g k) (zp3 : p3 = 0) (hk : p4.toInt = (k : Int)) (hk4 : k ≤ 4) :
    MetFree l (⟨"java/lang/StringLatin1", "indexOf", "([BIII)I"⟩ : MethodName) (head1 (Jvm.Cond.code (⟨"java/lang/StringLatin1", "indexOf", "([BIII)I"⟩ : MethodName) jdk_43_method_22_code 4 (some .int) :: ws) ({ frames := 1, cells := 0, slots := 0, locals := 17 } : Room)) (fun a U => a = #[(.ref a1), (.int p2), (.int p3), (.int p4)] ∧ Z.Warmed39 U.vm ∧ U.heap = h0) (fun _ _ _ _ _ => True) (fun _ U o U' => ∃ v L, o = .returned v ∧ (Q13 Z a1 p2 p3 p4 f g k h0 n0) v U'.heap L ∧ FrameEnd U o U' L ({ frames := 1, cells := 0, slots := 0, locals := 17 } : Room).cells ({ frames := 1, cells := 0, slots := 0, locals := 17 } : Room).slots) := by
  refine MetFree.of_bodySF pn_13 hisR ?_
  intro p e s m args below meth c s₁ Bd hml0 hP hK
  obtain ⟨rfl, hZ, hh⟩ := hP
  have hx := Bd.exec
  have hby := Bd.bytes
  have hml : c.maxLocals = 4 := hml0
  have hown : s.vm.findClass "java/lang/StringLatin1" = some m.cls := findClass_of_methodNamed Bd.named
  have hnm := (name_of_methodNamed Bd.named Bd.method).1
  have X0 : Stand p l e ({ frames := 1, cells := 0, slots := 0, locals := 17 } : Room) s m #[(.ref a1), (.int p2), (.int p3), (.int p4)] below meth c s₁ [] 0 0 := Stand.of_body Bd
  have e0 : s₁.heap = h0 := by rw [← hh, Bd.state]; rfl
  have N0 := Fr.nil n0
  have lk : meth.locks = false := BodyLoose.notSynchronized Bd
  have hret := Bd.returns
  show Ends p e below (EF s ({ frames := 1, cells := 0, slots := 0, locals := 17 } : Room).cells ({ frames := 1, cells := 0, slots := 0, locals := 17 } : Room).slots) (Q13 Z a1 p2 p3 p4 f g k h0 n0) (s₁.setTop (entryFrame m #[(.ref a1), (.int p2), (.int p3), (.int p4)] 4))
  refine Ends.cast (ef_13 m a1 p2 p3 p4) ?_
  refine own_iloadN (n := 1) X0 hx (hb hby d13_0) rfl rfl ?_
  refine own_callS (n := 4) X0 hx hZ hown (hw _ (List.mem_of_getElem? (i := 67) rfl)) (hw _ (List.mem_of_getElem? (i := 68) rfl)) (hw _ (List.mem_of_getElem? (i := 65) rfl)) (hw _ (List.mem_of_getElem? (i := 69) rfl)) (by decide) e0 (rm14 l Z a0 hw [] p2 h0 n0 Z0 (own_chq hc).1 (own_chq hc).2.1) (W := 0) (by decide) (by decide) (by decide) (by decide) (by rw [hml]; rfl) (argsL := [(.int p2)]) (rest := []) pd_14 rfl (by rfl) (Nat.le_of_eq rfl) (hb hby d13_1) rfl rfl ?_
  intro v1 T1 h1 L1 X1 e1 q1
  obtain ⟨rfl, M1, rfl⟩ := q1
  have N1 := Fr.app N0 M1
  refine own_ifYes (n := 9) X1 hx (hb hby d13_4) (Jvm.Free.XT.i0_ne_t (by decide)) (by decide) (by decide) ?_
  refine own_iloadN (n := 10) X1 hx (hb hby d13_9) rfl rfl ?_
  refine own_iconst (n := 11) X1 hx (0 : Int32) (hb hby d13_10) rfl rfl ?_
  refine own_callS (n := 14) X1 hx hZ hown (hw _ (List.mem_of_getElem? (i := 70) rfl)) (hw _ (List.mem_of_getElem? (i := 71) rfl)) (hw _ (List.mem_of_getElem? (i := 72) rfl)) (hw _ (List.mem_of_getElem? (i := 73) rfl)) (by decide) e1 (rm15 l Z a0 hw [] p3 (0 : Int32) h0 n0 Z0 (by rw [zp3]; decide)) (W := 0) (by decide) (by decide) (by decide) (by decide) (by rw [hml]; rfl) (argsL := [(.int p3), (.int (0 : Int32))]) (rest := []) pd_15 rfl (by rfl) (Nat.le_of_eq rfl) (hb hby d13_11) rfl rfl ?_
  intro v2 T2 h2 L2 X2 e2 q2
  obtain ⟨rfl, M2, rfl⟩ := q2
  have N2 := Fr.app N1 M2
  refine own_istoreN (n := 15) X2 hx (hb hby d13_14) (l' := #[.val (.ref a1), .val (.int p2), .val (.int p3), .val (.int p4)]) rfl rfl ?_
  refine own_iloadN (n := 16) X2 hx (hb hby d13_15) rfl rfl ?_
  refine own_aloadN (n := 17) X2 hx (hb hby d13_16) rfl rfl rfl ?_
  refine own_arraylength (n := 18) X2 hx hZ e2 A (v := (Nat.toInt32 k)) (len_toInt A.1) (hb hby d13_17) rfl ?_
  refine own_callS (n := 21) X2 hx hZ hown (hw _ (List.mem_of_getElem? (i := 74) rfl)) (hw _ (List.mem_of_getElem? (i := 75) rfl)) (hw _ (List.mem_of_getElem? (i := 72) rfl)) (hw _ (List.mem_of_getElem? (i := 76) rfl)) (by decide) e2 (rm16 l Z a0 hw [] p4 (Nat.toInt32 k) h0 n0 Z0 (by rw [Int32.lt_iff_toInt_lt, len_toInt (by omega)]; omega)) (W := 0) (by decide) (by decide) (by decide) (by decide) (by rw [hml]; rfl) (argsL := [(.int p4), (.int (Nat.toInt32 k))]) (rest := []) pd_16 rfl (by rfl) (Nat.le_of_eq rfl) (hb hby d13_18) rfl rfl ?_
  intro v3 T3 h3 L3 X3 e3 q3
  obtain ⟨rfl, M3, rfl⟩ := q3
  have N3 := Fr.app N2 M3
  refine own_istoreN (n := 22) X3 hx (hb hby d13_21) (l' := #[.val (.ref a1), .val (.int p2), .val (.int p3), .val (.int p4)]) rfl rfl ?_
  refine own_iloadN (n := 23) X3 hx (hb hby d13_22) rfl rfl ?_
  refine own_iloadN (n := 24) X3 hx (hb hby d13_23) rfl rfl ?_
  by_cases c24 : p3 < p4
  · refine own_icmpYes (n := 29) X3 hx (hb hby d13_24) (Jvm.Free.XT.ii_lt_t c24) (by decide) (by decide) ?_
    refine own_aloadN (n := 30) X3 hx (hb hby d13_29) rfl rfl rfl ?_
    refine own_iloadN (n := 31) X3 hx (hb hby d13_30) rfl rfl ?_
    refine own_iloadN (n := 32) X3 hx (hb hby d13_31) rfl rfl ?_
    refine own_iloadN (n := 33) X3 hx (hb hby d13_32) rfl rfl ?_
    refine own_callS (n := 36) X3 hx hZ hown (hw _ (List.mem_of_getElem? (i := 87) rfl)) (hw _ (List.mem_of_getElem? (i := 88) rfl)) (hw _ (List.mem_of_getElem? (i := 65) rfl)) (hw _ (List.mem_of_getElem? (i := 89) rfl)) (by decide) e3 (rm20 l Z a0 hw [] a1 p2 p3 p4 f g k h0 n0 Z0 A LT hc hg zp3 hk hk4) (W := 0) (by decide) (by decide) (by decide) (by decide) (by rw [hml]; rfl) (argsL := [(.ref a1), (.int p2), (.int p3), (.int p4)]) (rest := []) pd_20 rfl (by rfl) (Nat.le_of_eq rfl) (hb hby d13_33) rfl rfl ?_
    intro v4 T4 h4 L4 X4 e4 q4
    obtain ⟨r4, rfl, hr4, M4, rfl⟩ := q4
    have N4 := Fr.app N3 M4
    refine own_retI X4 hx lk hret (hb hby d13_36) (by decide) (by decide) ?_
    rw [e4]
    exact ⟨_, rfl, hr4, N4, rfl⟩
  · refine own_icmpNo (n := 27) X3 hx (hb hby d13_24) (Jvm.Free.XT.ii_lt_f c24) rfl ?_
    refine own_iconst (n := 28) X3 hx (-1 : Int32) (hb hby d13_27) (by decide) rfl ?_
    refine own_retI X3 hx lk hret (hb hby d13_28) (by decide) (by decide) ?_
    rw [e3]
    refine ⟨_, rfl, own_m1 _ ?_, N3, rfl⟩
    rintro ⟨j, hj, -⟩
    have o0 : (0 : Int32).toInt = 0 := rfl
    rw [Int32.lt_iff_toInt_lt, zp3] at c24
    omega
theorem d32_0 : decode jdk_52_method_48_code 0 = .ok (.iload_n 2, 1) := by decide +kernel
theorem d32_1 : decode jdk_52_method_48_code 1 = .ok (.istore 4, 2) := by decide +kernel
theorem d32_3 : decode jdk_52_method_48_code 3 = .ok (.iload 4, 2) := by decide +kernel
theorem d32_5 : decode jdk_52_method_48_code 5 = .ok (.iload_n 3, 1) := by decide +kernel
theorem d32_6 : decode jdk_52_method_48_code 6 = .ok (.if_icmp .ge 22, 3) := by decide +kernel
theorem d32_9 : decode jdk_52_method_48_code 9 = .ok (.aload_n 0, 1) := by decide +kernel
theorem d32_10 : decode jdk_52_method_48_code 10 = .ok (.iload 4, 2) := by decide +kernel
theorem d32_12 : decode jdk_52_method_48_code 12 = .ok (.invokestatic 71, 3) := by decide +kernel
theorem d32_15 : decode jdk_52_method_48_code 15 = .ok (.iload_n 1, 1) := by decide +kernel
theorem d32_16 : decode jdk_52_method_48_code 16 = .ok (.if_icmp .ne 6, 3) := by decide +kernel
theorem d32_19 : decode jdk_52_method_48_code 19 = .ok (.iload 4, 2) := by decide +kernel
theorem d32_21 : decode jdk_52_method_48_code 21 = .ok (.ireturn, 1) := by decide +kernel
theorem d32_22 : decode jdk_52_method_48_code 22 = .ok (.iinc 4 1, 3) := by decide +kernel
theorem d32_25 : decode jdk_52_method_48_code 25 = .ok (.goto (-22), 3) := by decide +kernel
theorem d32_28 : decode jdk_52_method_48_code 28 = .ok (.iconst (-1), 1) := by decide +kernel
theorem d32_29 : decode jdk_52_method_48_code 29 = .ok (.ireturn, 1) := by decide +kernel
theorem pn_32 : plainFor (⟨"java/lang/StringUTF16", "indexOfCharUnsafe", "([BIII)I"⟩ : MethodName) = true := by first | exact plainFor_of_name (by first | (simp [plainName, overriddenIn]; done) | decide +kernel) | decide +kernel
theorem ef_32 (m : MethodId) (a1 : Addr) (p2 : Int32) (p3 : Int32) (p4 : Int32) : entryFrame m #[(.ref a1), (.int p2), (.int p3), (.int p4)] 5 = mkF m 0 #[.val (.ref a1), .val (.int p2), .val (.int p3), .val (.int p4), .unset] [] := by first | (simp [entryFrame, argsToLocals, Value.category, Array.replicate]; done) | rfl
theorem pd_32 : parseMethodDescriptor "([BIII)I" = some ⟨[(.array .byte), .int, .int, .int], some .int⟩ := by decide +kernel
def Q32 (Z : State) (a1 : Addr) (p2 : Int32) (p3 : Int32) (p4 : Int32) (f : Nat → Int32) (g : Nat → Int32) (k : Nat) (h0 : Heap) (n0 : Nat) (v : Option Value) (h : Heap) (L : List Loc) : Prop := ∃ q, v = some (.int q) ∧ (¬ q < 0 ↔ HC g k p2) ∧ Fr n0 L ∧ h0 = h
theorem rm32 (l : Launch) (Z : State) (a0 : Array Value) (hw : ∀ d ∈ tables_1, d.before a0 Z = true) (ws : List Jvm.Cond) (a1 : Addr) (p2 : Int32) (p3 : Int32) (p4 : Int32) (f : Nat → Int32) (g : Nat → Int32) (k : Nat) (h0 : Heap) (n0 : Nat) (Z0 : n0 ≤ h0.size) (cs : Int32) (fm : Value) (TT : STT Z cs fm) (OL : Old Z n0 h0) (A : PA Z h0 a1 .byte (2 * k) f) (UT : UTF g f k) (hc : p2 = 34 ∨ p2 = 39) (hg : CHS g k) (zp3 : p3 = 0) (hk : p4.toInt = (k : Int)) (hk4 : k ≤ 4) :
    MetFree l (⟨"java/lang/StringUTF16", "indexOfCharUnsafe", "([BIII)I"⟩ : MethodName) (head1 (Jvm.Cond.code (⟨"java/lang/StringUTF16", "indexOfCharUnsafe", "([BIII)I"⟩ : MethodName) jdk_52_method_48_code 5 (some .int) :: ws) ({ frames := 1, cells := 0, slots := 0, locals := 13 } : Room)) (fun a U => a = #[(.ref a1), (.int p2), (.int p3), (.int p4)] ∧ Z.Warmed39 U.vm ∧ U.heap = h0) (fun _ _ _ _ _ => True) (fun _ U o U' => ∃ v L, o = .returned v ∧ (Q32 Z a1 p2 p3 p4 f g k h0 n0) v U'.heap L ∧ FrameEnd U o U' L ({ frames := 1, cells := 0, slots := 0, locals := 13 } : Room).cells ({ frames := 1, cells := 0, slots := 0, locals := 13 } : Room).slots) := by
  refine MetFree.of_bodySF pn_32 hisR ?_
  intro p e s m args below meth c s₁ Bd hml0 hP hK
  obtain ⟨rfl, hZ, hh⟩ := hP
  have hx := Bd.exec
  have hby := Bd.bytes
  have hml : c.maxLocals = 5 := hml0
  have hown : s.vm.findClass "java/lang/StringUTF16" = some m.cls := findClass_of_methodNamed Bd.named
  have hnm := (name_of_methodNamed Bd.named Bd.method).1
  have X0 : Stand p l e ({ frames := 1, cells := 0, slots := 0, locals := 13 } : Room) s m #[(.ref a1), (.int p2), (.int p3), (.int p4)] below meth c s₁ [] 0 0 := Stand.of_body Bd
  have e0 : s₁.heap = h0 := by rw [← hh, Bd.state]; rfl
  have N0 := Fr.nil n0
  have lk : meth.locks = false := BodyLoose.notSynchronized Bd
  have hret := Bd.returns
  show Ends p e below (EF s ({ frames := 1, cells := 0, slots := 0, locals := 13 } : Room).cells ({ frames := 1, cells := 0, slots := 0, locals := 13 } : Room).slots) (Q32 Z a1 p2 p3 p4 f g k h0 n0) (s₁.setTop (entryFrame m #[(.ref a1), (.int p2), (.int p3), (.int p4)] 5))
  refine Ends.cast (ef_32 m a1 p2 p3 p4) ?_
  have loop : ∀ (n : Nat) (TB : State) (hB : Heap) (lB : List Loc) (ii : Int32) (i : Nat) (XB : Stand p l e ({ frames := 1, cells := 0, slots := 0, locals := 13 } : Room) s m #[(.ref a1), (.int p2), (.int p3), (.int p4)] below meth c TB lB (0) (0)) (eB : TB.heap = hB) (NB : Fr n0 lB) (ZB : n0 ≤ hB.size) (hii : ii.toInt = (i : Int)) (hin : i + n = k) (eh : hB = h0) (NO : ∀ j, j < i → ¬ g j = p2), Ends p e below (EF s ({ frames := 1, cells := 0, slots := 0, locals := 13 } : Room).cells ({ frames := 1, cells := 0, slots := 0, locals := 13 } : Room).slots) (Q32 Z a1 p2 p3 p4 f g k h0 n0) (TB.setTop (mkF m 3 #[.val (.ref a1), .val (.int p2), .val (.int p3), .val (.int p4), .val (.int ii)] [])) := by
    intro n
    induction n with
    | zero =>
      intro TB hB lB ii i XB eB NB ZB hii hin eh NO
      rw [eh] at eB
      refine own_iload (n := 5) XB hx (hb hby d32_3) rfl rfl ?_
      refine own_iloadN (n := 6) XB hx (hb hby d32_5) rfl rfl ?_
      refine own_icmpYes (n := 28) XB hx (hb hby d32_6) (Jvm.Free.XT.ii_ge_t (by rw [Int32.lt_iff_toInt_lt]; omega)) (by decide) (by decide) ?_
      refine own_iconst (n := 29) XB hx (-1 : Int32) (hb hby d32_28) (by decide) rfl ?_
      refine own_retI XB hx lk hret (hb hby d32_29) (by decide) (by decide) ?_
      rw [eB]
      exact ⟨_, rfl, own_m1 _ (fun ⟨j, hj, e⟩ => NO j (by omega) e), NB, rfl⟩
    | succ n ih =>
      intro TB hB lB ii i XB eB NB ZB hii hin eh NO
      rw [eh] at eB
      have gi : GC (f (2 * i)) (f (2 * i + 1)) = g i := by rw [(UT i (by omega)).1, (UT i (by omega)).2]; exact own_gc _ (hg i (by omega)).1 (hg i (by omega)).2
      refine own_iload (n := 5) XB hx (hb hby d32_3) rfl rfl ?_
      refine own_iloadN (n := 6) XB hx (hb hby d32_5) rfl rfl ?_
      refine own_icmpNo (n := 9) XB hx (hb hby d32_6) (Jvm.Free.XT.ii_ge_f (by rw [Int32.lt_iff_toInt_lt]; omega)) rfl ?_
      refine own_aloadN (n := 10) XB hx (hb hby d32_9) rfl rfl rfl ?_
      refine own_iload (n := 12) XB hx (hb hby d32_10) rfl rfl ?_
      refine own_callS (n := 15) XB hx hZ hown (hw _ (List.mem_of_getElem? (i := 106) rfl)) (hw _ (List.mem_of_getElem? (i := 107) rfl)) (hw _ (List.mem_of_getElem? (i := 79) rfl)) (hw _ (List.mem_of_getElem? (i := 108) rfl)) (by decide) eB (rm25 l Z a0 hw [] a1 ii (2 * k) f i h0 n0 Z0 cs fm TT OL A hii (by omega) (by omega)) (W := 0) (by decide) (by decide) (by decide) (by decide) (by rw [hml]; rfl) (argsL := [(.ref a1), (.int ii)]) (rest := []) pd_25 rfl (by rfl) (Nat.le_of_eq rfl) (hb hby d32_12) rfl rfl ?_
      intro v1 T1 h1 L1 X1 e1 q1
      obtain ⟨rfl, M1, rfl⟩ := q1
      have N1 := Fr.app NB M1
      refine own_iloadN (n := 16) X1 hx (hb hby d32_15) rfl rfl ?_
      by_cases c16 : (GC (f (2 * i)) (f (2 * i + 1))) = p2
      · refine own_icmpNo (n := 19) X1 hx (hb hby d32_16) (Jvm.Free.XT.ii_ne_f c16) rfl ?_
        refine own_iload (n := 21) X1 hx (hb hby d32_19) rfl rfl ?_
        refine own_retI X1 hx lk hret (hb hby d32_21) (by decide) (by decide) ?_
        rw [e1]
        exact ⟨_, rfl, own_pos hii _ ⟨i, by omega, gi.symm.trans c16⟩, N1, rfl⟩
      · refine own_icmpYes (n := 22) X1 hx (hb hby d32_16) (Jvm.Free.XT.ii_ne_t c16) (by decide) (by decide) ?_
        refine own_iinc (n := 25) X1 hx (hb hby d32_22) rfl (v := (1 : Int32)) rfl (l' := #[.val (.ref a1), .val (.int p2), .val (.int p3), .val (.int p4), .val (.int (ii + (1 : Int32)))]) rfl rfl ?_
        refine own_goto (n := 3) X1 hx (hb hby d32_25) (by decide) (by decide) ?_
        show Ends p e below (EF s ({ frames := 1, cells := 0, slots := 0, locals := 13 } : Room).cells ({ frames := 1, cells := 0, slots := 0, locals := 13 } : Room).slots) (Q32 Z a1 p2 p3 p4 f g k h0 n0) (T1.setTop (mkF m 3 #[.val (.ref a1), .val (.int p2), .val (.int p3), .val (.int p4), .val (.int (ii + (1 : Int32)))] []))
        exact ih _ _ _ _ (i + 1) X1 e1 N1 Z0 (own_add1 hii (by omega)) (by omega) rfl (fun j hj => by
          by_cases e : j = i
          · subst e; exact fun z => c16 (gi.trans z)
          · exact NO j (by omega))
  refine own_iloadN (n := 1) X0 hx (hb hby d32_0) rfl rfl ?_
  refine own_istore (n := 3) X0 hx (hb hby d32_1) (l' := #[.val (.ref a1), .val (.int p2), .val (.int p3), .val (.int p4), .val (.int p3)]) rfl rfl ?_
  show Ends p e below (EF s ({ frames := 1, cells := 0, slots := 0, locals := 13 } : Room).cells ({ frames := 1, cells := 0, slots := 0, locals := 13 } : Room).slots) (Q32 Z a1 p2 p3 p4 f g k h0 n0) (s₁.setTop (mkF m 3 #[.val (.ref a1), .val (.int p2), .val (.int p3), .val (.int p4), .val (.int p3)] []))
  exact loop k _ _ _ _ 0 X0 e0 N0 Z0 (by rw [zp3]; rfl) (by omega) rfl (fun j hj => absurd hj (Nat.not_lt_zero _))
theorem d27_0 : decode jdk_52_method_47_code 0 = .ok (.iload_n 2, 1) := by decide +kernel
theorem d27_1 : decode jdk_52_method_47_code 1 = .ok (.iload_n 3, 1) := by decide +kernel
theorem d27_2 : decode jdk_52_method_47_code 2 = .ok (.aload_n 0, 1) := by decide +kernel
theorem d27_3 : decode jdk_52_method_47_code 3 = .ok (.invokestatic 96, 3) := by decide +kernel
theorem d27_6 : decode jdk_52_method_47_code 6 = .ok (.aload_n 0, 1) := by decide +kernel
theorem d27_7 : decode jdk_52_method_47_code 7 = .ok (.iload_n 1, 1) := by decide +kernel
theorem d27_8 : decode jdk_52_method_47_code 8 = .ok (.iload_n 2, 1) := by decide +kernel
theorem d27_9 : decode jdk_52_method_47_code 9 = .ok (.iload_n 3, 1) := by decide +kernel
theorem d27_10 : decode jdk_52_method_47_code 10 = .ok (.invokestatic 244, 3) := by decide +kernel
theorem d27_13 : decode jdk_52_method_47_code 13 = .ok (.ireturn, 1) := by decide +kernel
theorem pn_27 : plainFor (⟨"java/lang/StringUTF16", "indexOfChar", "([BIII)I"⟩ : MethodName) = true := by first | exact plainFor_of_name (by first | (simp [plainName, overriddenIn]; done) | decide +kernel) | decide +kernel
theorem ef_27 (m : MethodId) (a1 : Addr) (p2 : Int32) (p3 : Int32) (p4 : Int32) : entryFrame m #[(.ref a1), (.int p2), (.int p3), (.int p4)] 4 = mkF m 0 #[.val (.ref a1), .val (.int p2), .val (.int p3), .val (.int p4)] [] := by first | (simp [entryFrame, argsToLocals, Value.category, Array.replicate]; done) | rfl
theorem pd_27 : parseMethodDescriptor "([BIII)I" = some ⟨[(.array .byte), .int, .int, .int], some .int⟩ := by decide +kernel
def Q27 (Z : State) (a1 : Addr) (p2 : Int32) (p3 : Int32) (p4 : Int32) (f : Nat → Int32) (g : Nat → Int32) (k : Nat) (h0 : Heap) (n0 : Nat) (v : Option Value) (h : Heap) (L : List Loc) : Prop := ∃ q, v = some (.int q) ∧ (¬ q < 0 ↔ HC g k p2) ∧ Fr n0 L ∧ h0 = h
theorem rm27 (l : Launch) (Z : State) (a0 : Array Value) (hw : ∀ d ∈ tables_1, d.before a0 Z = true) (ws : List Jvm.Cond) (a1 : Addr) (p2 : Int32) (p3 : Int32) (p4 : Int32) (f : Nat → Int32) (g : Nat → Int32) (k : Nat) (h0 : Heap) (n0 : Nat) (Z0 : n0 ≤ h0.size) (cs : Int32) (fm : Value) (TT : STT Z cs fm) (OL : Old Z n0 h0) (A : PA Z h0 a1 .byte (2 * k) f) (UT : UTF g f k) (hc : p2 = 34 ∨ p2 = 39) (hg : CHS g k) (zp3 : p3 = 0) (hk : p4.toInt = (k : Int)) (hk4 : k ≤ 4) :
    MetFree l (⟨"java/lang/StringUTF16", "indexOfChar", "([BIII)I"⟩ : MethodName) (head1 (Jvm.Cond.code (⟨"java/lang/StringUTF16", "indexOfChar", "([BIII)I"⟩ : MethodName) jdk_52_method_47_code 4 (some .int) :: ws) ({ frames := 3, cells := 0, slots := 0, locals := 43 } : Room)) (fun a U => a = #[(.ref a1), (.int p2), (.int p3), (.int p4)] ∧ Z.Warmed39 U.vm ∧ U.heap = h0) (fun _ _ _ _ _ => True) (fun _ U o U' => ∃ v L, o = .returned v ∧ (Q27 Z a1 p2 p3 p4 f g k h0 n0) v U'.heap L ∧ FrameEnd U o U' L ({ frames := 3, cells := 0, slots := 0, locals := 43 } : Room).cells ({ frames := 3, cells := 0, slots := 0, locals := 43 } : Room).slots) := by
  refine MetFree.of_bodySF pn_27 hisR ?_
  intro p e s m args below meth c s₁ Bd hml0 hP hK
  obtain ⟨rfl, hZ, hh⟩ := hP
  have hx := Bd.exec
  have hby := Bd.bytes
  have hml : c.maxLocals = 4 := hml0
  have hown : s.vm.findClass "java/lang/StringUTF16" = some m.cls := findClass_of_methodNamed Bd.named
  have hnm := (name_of_methodNamed Bd.named Bd.method).1
  have X0 : Stand p l e ({ frames := 3, cells := 0, slots := 0, locals := 43 } : Room) s m #[(.ref a1), (.int p2), (.int p3), (.int p4)] below meth c s₁ [] 0 0 := Stand.of_body Bd
  have e0 : s₁.heap = h0 := by rw [← hh, Bd.state]; rfl
  have N0 := Fr.nil n0
  have lk : meth.locks = false := BodyLoose.notSynchronized Bd
  have hret := Bd.returns
  show Ends p e below (EF s ({ frames := 3, cells := 0, slots := 0, locals := 43 } : Room).cells ({ frames := 3, cells := 0, slots := 0, locals := 43 } : Room).slots) (Q27 Z a1 p2 p3 p4 f g k h0 n0) (s₁.setTop (entryFrame m #[(.ref a1), (.int p2), (.int p3), (.int p4)] 4))
  refine Ends.cast (ef_27 m a1 p2 p3 p4) ?_
  refine own_iloadN (n := 1) X0 hx (hb hby d27_0) rfl rfl ?_
  refine own_iloadN (n := 2) X0 hx (hb hby d27_1) rfl rfl ?_
  refine own_aloadN (n := 3) X0 hx (hb hby d27_2) rfl rfl rfl ?_
  refine own_callS (n := 6) X0 hx hZ hown (hw _ (List.mem_of_getElem? (i := 118) rfl)) (hw _ (List.mem_of_getElem? (i := 119) rfl)) (hw _ (List.mem_of_getElem? (i := 79) rfl)) (hw _ (List.mem_of_getElem? (i := 120) rfl)) (by decide) e0 (rm28 l Z a0 hw [] p3 p4 a1 (2 * k) f h0 n0 Z0 cs fm TT OL A (by rw [zp3]; decide) (by have o0 : (0 : Int32).toInt = 0 := rfl; rw [Int32.lt_iff_toInt_lt, zp3]; omega) (by rw [Int32.lt_iff_toInt_lt, (own_len (2 * k) k 1 (by omega) (Or.inr ⟨rfl, rfl⟩))]; omega)) (W := 0) (by decide) (by decide) (by decide) (by decide) (by rw [hml]; rfl) (argsL := [(.int p3), (.int p4), (.ref a1)]) (rest := []) pd_28 rfl (by rfl) (Nat.le_of_eq rfl) (hb hby d27_3) rfl rfl ?_
  intro v1 T1 h1 L1 X1 e1 q1
  obtain ⟨rfl, M1, rfl⟩ := q1
  have N1 := Fr.app N0 M1
  refine own_aloadN (n := 7) X1 hx (hb hby d27_6) rfl rfl rfl ?_
  refine own_iloadN (n := 8) X1 hx (hb hby d27_7) rfl rfl ?_
  refine own_iloadN (n := 9) X1 hx (hb hby d27_8) rfl rfl ?_
  refine own_iloadN (n := 10) X1 hx (hb hby d27_9) rfl rfl ?_
  refine own_callS (n := 13) X1 hx hZ hown (hw _ (List.mem_of_getElem? (i := 132) rfl)) (hw _ (List.mem_of_getElem? (i := 133) rfl)) (hw _ (List.mem_of_getElem? (i := 79) rfl)) (hw _ (List.mem_of_getElem? (i := 134) rfl)) (by decide) e1 (rm32 l Z a0 hw [] a1 p2 p3 p4 f g k h0 n0 Z0 cs fm TT OL A UT hc hg zp3 hk hk4) (W := 0) (by decide) (by decide) (by decide) (by decide) (by rw [hml]; rfl) (argsL := [(.ref a1), (.int p2), (.int p3), (.int p4)]) (rest := []) pd_32 rfl (by rfl) (Nat.le_of_eq rfl) (hb hby d27_10) rfl rfl ?_
  intro v2 T2 h2 L2 X2 e2 q2
  obtain ⟨r2, rfl, hr2, M2, rfl⟩ := q2
  have N2 := Fr.app N1 M2
  refine own_retI X2 hx lk hret (hb hby d27_13) (by decide) (by decide) ?_
  rw [e2]
  exact ⟨_, rfl, hr2, N2, rfl⟩
theorem d26_0 : decode jdk_52_method_40_code 0 = .ok (.iload_n 2, 1) := by decide +kernel
theorem d26_1 : decode jdk_52_method_40_code 1 = .ok (.iconst 0, 1) := by decide +kernel
theorem d26_2 : decode jdk_52_method_40_code 2 = .ok (.invokestatic 224, 3) := by decide +kernel
theorem d26_5 : decode jdk_52_method_40_code 5 = .ok (.istore_n 2, 1) := by decide +kernel
theorem d26_6 : decode jdk_52_method_40_code 6 = .ok (.iload_n 3, 1) := by decide +kernel
theorem d26_7 : decode jdk_52_method_40_code 7 = .ok (.aload_n 0, 1) := by decide +kernel
theorem d26_8 : decode jdk_52_method_40_code 8 = .ok (.arraylength, 1) := by decide +kernel
theorem d26_9 : decode jdk_52_method_40_code 9 = .ok (.iconst 1, 1) := by decide +kernel
theorem d26_10 : decode jdk_52_method_40_code 10 = .ok (.ishr, 1) := by decide +kernel
theorem d26_11 : decode jdk_52_method_40_code 11 = .ok (.invokestatic 183, 3) := by decide +kernel
theorem d26_14 : decode jdk_52_method_40_code 14 = .ok (.istore_n 3, 1) := by decide +kernel
theorem d26_15 : decode jdk_52_method_40_code 15 = .ok (.iload_n 2, 1) := by decide +kernel
theorem d26_16 : decode jdk_52_method_40_code 16 = .ok (.iload_n 3, 1) := by decide +kernel
theorem d26_17 : decode jdk_52_method_40_code 17 = .ok (.if_icmp .lt 5, 3) := by decide +kernel
theorem d26_20 : decode jdk_52_method_40_code 20 = .ok (.iconst (-1), 1) := by decide +kernel
theorem d26_21 : decode jdk_52_method_40_code 21 = .ok (.ireturn, 1) := by decide +kernel
theorem d26_22 : decode jdk_52_method_40_code 22 = .ok (.iload_n 1, 1) := by decide +kernel
theorem d26_23 : decode jdk_52_method_40_code 23 = .ok (.ldc 227, 2) := by decide +kernel
theorem d26_25 : decode jdk_52_method_40_code 25 = .ok (.if_icmp .ge 11, 3) := by decide +kernel
theorem d26_28 : decode jdk_52_method_40_code 28 = .ok (.aload_n 0, 1) := by decide +kernel
theorem d26_29 : decode jdk_52_method_40_code 29 = .ok (.iload_n 1, 1) := by decide +kernel
theorem d26_30 : decode jdk_52_method_40_code 30 = .ok (.iload_n 2, 1) := by decide +kernel
theorem d26_31 : decode jdk_52_method_40_code 31 = .ok (.iload_n 3, 1) := by decide +kernel
theorem d26_32 : decode jdk_52_method_40_code 32 = .ok (.invokestatic 228, 3) := by decide +kernel
theorem d26_35 : decode jdk_52_method_40_code 35 = .ok (.ireturn, 1) := by decide +kernel
theorem d26_36 : decode jdk_52_method_40_code 36 = .ok (.aload_n 0, 1) := by decide +kernel
theorem d26_37 : decode jdk_52_method_40_code 37 = .ok (.iload_n 1, 1) := by decide +kernel
theorem d26_38 : decode jdk_52_method_40_code 38 = .ok (.iload_n 2, 1) := by decide +kernel
theorem d26_39 : decode jdk_52_method_40_code 39 = .ok (.iload_n 3, 1) := by decide +kernel
theorem d26_40 : decode jdk_52_method_40_code 40 = .ok (.invokestatic 232, 3) := by decide +kernel
theorem d26_43 : decode jdk_52_method_40_code 43 = .ok (.ireturn, 1) := by decide +kernel
theorem pn_26 : plainFor (⟨"java/lang/StringUTF16", "indexOf", "([BIII)I"⟩ : MethodName) = true := by first | exact plainFor_of_name (by first | (simp [plainName, overriddenIn]; done) | decide +kernel) | decide +kernel
theorem ef_26 (m : MethodId) (a1 : Addr) (p2 : Int32) (p3 : Int32) (p4 : Int32) : entryFrame m #[(.ref a1), (.int p2), (.int p3), (.int p4)] 4 = mkF m 0 #[.val (.ref a1), .val (.int p2), .val (.int p3), .val (.int p4)] [] := by first | (simp [entryFrame, argsToLocals, Value.category, Array.replicate]; done) | rfl
theorem pd_26 : parseMethodDescriptor "([BIII)I" = some ⟨[(.array .byte), .int, .int, .int], some .int⟩ := by decide +kernel
def Q26 (Z : State) (a1 : Addr) (p2 : Int32) (p3 : Int32) (p4 : Int32) (f : Nat → Int32) (g : Nat → Int32) (k : Nat) (h0 : Heap) (n0 : Nat) (v : Option Value) (h : Heap) (L : List Loc) : Prop := ∃ q, v = some (.int q) ∧ (¬ q < 0 ↔ HC g k p2) ∧ Fr n0 L ∧ h0 = h
theorem rm26 (l : Launch) (Z : State) (a0 : Array Value) (hw : ∀ d ∈ tables_1, d.before a0 Z = true) (ws : List Jvm.Cond) (a1 : Addr) (p2 : Int32) (p3 : Int32) (p4 : Int32) (f : Nat → Int32) (g : Nat → Int32) (k : Nat) (h0 : Heap) (n0 : Nat) (Z0 : n0 ≤ h0.size) (cs : Int32) (fm : Value) (TT : STT Z cs fm) (OL : Old Z n0 h0) (A : PA Z h0 a1 .byte (2 * k) f) (UT : UTF g f k) (hc : p2 = 34 ∨ p2 = 39) (hg : CHS g k) (zp3 : p3 = 0) (hk : p4.toInt = (k : Int)) (hk4 : k ≤ 4) :
    MetFree l (⟨"java/lang/StringUTF16", "indexOf", "([BIII)I"⟩ : MethodName) (head1 (Jvm.Cond.code (⟨"java/lang/StringUTF16", "indexOf", "([BIII)I"⟩ : MethodName) jdk_52_method_40_code 4 (some .int) :: ws) ({ frames := 4, cells := 0, slots := 0, locals := 58 } : Room)) (fun a U => a = #[(.ref a1), (.int p2), (.int p3), (.int p4)] ∧ Z.Warmed39 U.vm ∧ U.heap = h0) (fun _ _ _ _ _ => True) (fun _ U o U' => ∃ v L, o = .returned v ∧ (Q26 Z a1 p2 p3 p4 f g k h0 n0) v U'.heap L ∧ FrameEnd U o U' L ({ frames := 4, cells := 0, slots := 0, locals := 58 } : Room).cells ({ frames := 4, cells := 0, slots := 0, locals := 58 } : Room).slots) := by
  refine MetFree.of_bodySF pn_26 hisR ?_
  intro p e s m args below meth c s₁ Bd hml0 hP hK
  obtain ⟨rfl, hZ, hh⟩ := hP
  have hx := Bd.exec
  have hby := Bd.bytes
  have hml : c.maxLocals = 4 := hml0
  have hown : s.vm.findClass "java/lang/StringUTF16" = some m.cls := findClass_of_methodNamed Bd.named
  have hnm := (name_of_methodNamed Bd.named Bd.method).1
  have X0 : Stand p l e ({ frames := 4, cells := 0, slots := 0, locals := 58 } : Room) s m #[(.ref a1), (.int p2), (.int p3), (.int p4)] below meth c s₁ [] 0 0 := Stand.of_body Bd
  have e0 : s₁.heap = h0 := by rw [← hh, Bd.state]; rfl
  have N0 := Fr.nil n0
  have lk : meth.locks = false := BodyLoose.notSynchronized Bd
  have hret := Bd.returns
  show Ends p e below (EF s ({ frames := 4, cells := 0, slots := 0, locals := 58 } : Room).cells ({ frames := 4, cells := 0, slots := 0, locals := 58 } : Room).slots) (Q26 Z a1 p2 p3 p4 f g k h0 n0) (s₁.setTop (entryFrame m #[(.ref a1), (.int p2), (.int p3), (.int p4)] 4))
  refine Ends.cast (ef_26 m a1 p2 p3 p4) ?_
  refine own_iloadN (n := 1) X0 hx (hb hby d26_0) rfl rfl ?_
  refine own_iconst (n := 2) X0 hx (0 : Int32) (hb hby d26_1) rfl rfl ?_
  refine own_callS (n := 5) X0 hx hZ hown (hw _ (List.mem_of_getElem? (i := 112) rfl)) (hw _ (List.mem_of_getElem? (i := 71) rfl)) (hw _ (List.mem_of_getElem? (i := 72) rfl)) (hw _ (List.mem_of_getElem? (i := 73) rfl)) (by decide) e0 (rm15 l Z a0 hw [] p3 (0 : Int32) h0 n0 Z0 (by rw [zp3]; decide)) (W := 0) (by decide) (by decide) (by decide) (by decide) (by rw [hml]; rfl) (argsL := [(.int p3), (.int (0 : Int32))]) (rest := []) pd_15 rfl (by rfl) (Nat.le_of_eq rfl) (hb hby d26_2) rfl rfl ?_
  intro v1 T1 h1 L1 X1 e1 q1
  obtain ⟨rfl, M1, rfl⟩ := q1
  have N1 := Fr.app N0 M1
  refine own_istoreN (n := 6) X1 hx (hb hby d26_5) (l' := #[.val (.ref a1), .val (.int p2), .val (.int p3), .val (.int p4)]) rfl rfl ?_
  refine own_iloadN (n := 7) X1 hx (hb hby d26_6) rfl rfl ?_
  refine own_aloadN (n := 8) X1 hx (hb hby d26_7) rfl rfl rfl ?_
  refine own_arraylength (n := 9) X1 hx hZ e1 A (v := (Nat.toInt32 (2 * k))) (len_toInt A.1) (hb hby d26_8) rfl ?_
  refine own_iconst (n := 10) X1 hx (1 : Int32) (hb hby d26_9) rfl rfl ?_
  refine own_ishr (n := 11) X1 hx (hb hby d26_10) rfl ?_
  refine own_callS (n := 14) X1 hx hZ hown (hw _ (List.mem_of_getElem? (i := 113) rfl)) (hw _ (List.mem_of_getElem? (i := 75) rfl)) (hw _ (List.mem_of_getElem? (i := 72) rfl)) (hw _ (List.mem_of_getElem? (i := 76) rfl)) (by decide) e1 (rm16 l Z a0 hw [] p4 ((Nat.toInt32 (2 * k)) >>> ((1 : Int32) &&& 31)) h0 n0 Z0 (by rw [Int32.lt_iff_toInt_lt, (own_len (2 * k) k 1 (by omega) (Or.inr ⟨rfl, rfl⟩))]; omega)) (W := 0) (by decide) (by decide) (by decide) (by decide) (by rw [hml]; rfl) (argsL := [(.int p4), (.int ((Nat.toInt32 (2 * k)) >>> ((1 : Int32) &&& 31)))]) (rest := []) pd_16 rfl (by rfl) (Nat.le_of_eq rfl) (hb hby d26_11) rfl rfl ?_
  intro v2 T2 h2 L2 X2 e2 q2
  obtain ⟨rfl, M2, rfl⟩ := q2
  have N2 := Fr.app N1 M2
  refine own_istoreN (n := 15) X2 hx (hb hby d26_14) (l' := #[.val (.ref a1), .val (.int p2), .val (.int p3), .val (.int p4)]) rfl rfl ?_
  refine own_iloadN (n := 16) X2 hx (hb hby d26_15) rfl rfl ?_
  refine own_iloadN (n := 17) X2 hx (hb hby d26_16) rfl rfl ?_
  by_cases c17 : p3 < p4
  · refine own_icmpYes (n := 22) X2 hx (hb hby d26_17) (Jvm.Free.XT.ii_lt_t c17) (by decide) (by decide) ?_
    refine own_iloadN (n := 23) X2 hx (hb hby d26_22) rfl rfl ?_
    refine own_ldc (n := 25) X2 hx hZ hown (hw _ (List.mem_of_getElem? (i := 114) rfl)) (hb hby d26_23) rfl ?_
    refine own_icmpNo (n := 28) X2 hx (hb hby d26_25) (Jvm.Free.XT.ii_ge_f (own_chq hc).2.2) rfl ?_
    refine own_aloadN (n := 29) X2 hx (hb hby d26_28) rfl rfl rfl ?_
    refine own_iloadN (n := 30) X2 hx (hb hby d26_29) rfl rfl ?_
    refine own_iloadN (n := 31) X2 hx (hb hby d26_30) rfl rfl ?_
    refine own_iloadN (n := 32) X2 hx (hb hby d26_31) rfl rfl ?_
    refine own_callS (n := 35) X2 hx hZ hown (hw _ (List.mem_of_getElem? (i := 115) rfl)) (hw _ (List.mem_of_getElem? (i := 116) rfl)) (hw _ (List.mem_of_getElem? (i := 79) rfl)) (hw _ (List.mem_of_getElem? (i := 117) rfl)) (by decide) e2 (rm27 l Z a0 hw [] a1 p2 p3 p4 f g k h0 n0 Z0 cs fm TT OL A UT hc hg zp3 hk hk4) (W := 0) (by decide) (by decide) (by decide) (by decide) (by rw [hml]; rfl) (argsL := [(.ref a1), (.int p2), (.int p3), (.int p4)]) (rest := []) pd_27 rfl (by rfl) (Nat.le_of_eq rfl) (hb hby d26_32) rfl rfl ?_
    intro v3 T3 h3 L3 X3 e3 q3
    obtain ⟨r3, rfl, hr3, M3, rfl⟩ := q3
    have N3 := Fr.app N2 M3
    refine own_retI X3 hx lk hret (hb hby d26_35) (by decide) (by decide) ?_
    rw [e3]
    exact ⟨_, rfl, hr3, N3, rfl⟩
  · refine own_icmpNo (n := 20) X2 hx (hb hby d26_17) (Jvm.Free.XT.ii_lt_f c17) rfl ?_
    refine own_iconst (n := 21) X2 hx (-1 : Int32) (hb hby d26_20) (by decide) rfl ?_
    refine own_retI X2 hx lk hret (hb hby d26_21) (by decide) (by decide) ?_
    rw [e2]
    refine ⟨_, rfl, own_m1 _ ?_, N2, rfl⟩
    rintro ⟨j, hj, -⟩
    have o0 : (0 : Int32).toInt = 0 := rfl
    rw [Int32.lt_iff_toInt_lt, zp3] at c17
    omega
theorem d9_0 : decode jdk_42_method_80_code 0 = .ok (.aload_n 0, 1) := by decide +kernel
theorem d9_1 : decode jdk_42_method_80_code 1 = .ok (.invokevirtual 492, 3) := by decide +kernel
theorem d9_4 : decode jdk_42_method_80_code 4 = .ok (.ifCond .eq 19, 3) := by decide +kernel
theorem d9_7 : decode jdk_42_method_80_code 7 = .ok (.aload_n 0, 1) := by decide +kernel
theorem d9_8 : decode jdk_42_method_80_code 8 = .ok (.getfield 9, 3) := by decide +kernel
theorem d9_11 : decode jdk_42_method_80_code 11 = .ok (.iload_n 1, 1) := by decide +kernel
theorem d9_12 : decode jdk_42_method_80_code 12 = .ok (.iload_n 2, 1) := by decide +kernel
theorem d9_13 : decode jdk_42_method_80_code 13 = .ok (.aload_n 0, 1) := by decide +kernel
theorem d9_14 : decode jdk_42_method_80_code 14 = .ok (.invokevirtual 505, 3) := by decide +kernel
theorem d9_17 : decode jdk_42_method_80_code 17 = .ok (.invokestatic 637, 3) := by decide +kernel
theorem d9_20 : decode jdk_42_method_80_code 20 = .ok (.goto 16, 3) := by decide +kernel
theorem d9_23 : decode jdk_42_method_80_code 23 = .ok (.aload_n 0, 1) := by decide +kernel
theorem d9_24 : decode jdk_42_method_80_code 24 = .ok (.getfield 9, 3) := by decide +kernel
theorem d9_27 : decode jdk_42_method_80_code 27 = .ok (.iload_n 1, 1) := by decide +kernel
theorem d9_28 : decode jdk_42_method_80_code 28 = .ok (.iload_n 2, 1) := by decide +kernel
theorem d9_29 : decode jdk_42_method_80_code 29 = .ok (.aload_n 0, 1) := by decide +kernel
theorem d9_30 : decode jdk_42_method_80_code 30 = .ok (.invokevirtual 505, 3) := by decide +kernel
theorem d9_33 : decode jdk_42_method_80_code 33 = .ok (.invokestatic 640, 3) := by decide +kernel
theorem d9_36 : decode jdk_42_method_80_code 36 = .ok (.ireturn, 1) := by decide +kernel
theorem pn_9 : plainFor (⟨"java/lang/String", "indexOf", "(II)I"⟩ : MethodName) = true := by first | exact plainFor_of_name (by first | (simp [plainName, overriddenIn]; done) | decide +kernel) | decide +kernel
theorem ef_9 (m : MethodId) (a1 : Addr) (p2 : Int32) (p3 : Int32) : entryFrame m #[(.ref a1), (.int p2), (.int p3)] 3 = mkF m 0 #[.val (.ref a1), .val (.int p2), .val (.int p3)] [] := by first | (simp [entryFrame, argsToLocals, Value.category, Array.replicate]; done) | rfl
theorem pd_9 : parseMethodDescriptor "(II)I" = some ⟨[.int, .int], some .int⟩ := by decide +kernel
def Q9 (Z : State) (a1 : Addr) (p2 : Int32) (p3 : Int32) (b2 : Addr) (f : Nat → Int32) (r : Int32) (n : Nat) (k : Nat) (g : Nat → Int32) (h0 : Heap) (n0 : Nat) (v : Option Value) (h : Heap) (L : List Loc) : Prop := ∃ q, v = some (.int q) ∧ (¬ q < 0 ↔ HC g k p2) ∧ Fr n0 L ∧ h0 = h
theorem rm9 (l : Launch) (Z : State) (a0 : Array Value) (hw : ∀ d ∈ tables_1, d.before a0 Z = true) (ws : List Jvm.Cond) (a1 : Addr) (p2 : Int32) (p3 : Int32) (b2 : Addr) (f : Nat → Int32) (r : Int32) (n : Nat) (k : Nat) (g : Nat → Int32) (h0 : Heap) (n0 : Nat) (Z0 : n0 ≤ h0.size) (cs : Int32) (fm : Value) (TT : STT Z cs fm) (OL : Old Z n0 h0) (F0 : SP Z h0 a1 (.ref b2) r) (A : PA Z h0 b2 .byte n f) (hn : n ≤ 8) (D : (r = 0 ∧ n = k ∧ LAT g f k) ∨ (r = 1 ∧ n = 2 * k ∧ UTF g f k)) (hc : p2 = 34 ∨ p2 = 39) (hg : CHS g k) (hk4 : k ≤ 4) (zp3 : p3 = 0) :
    MetFree l (⟨"java/lang/String", "indexOf", "(II)I"⟩ : MethodName) (head1 (Jvm.Cond.code (⟨"java/lang/String", "indexOf", "(II)I"⟩ : MethodName) jdk_42_method_80_code 3 (some .int) :: ws) ({ frames := 5, cells := 0, slots := 0, locals := 73 } : Room)) (fun a U => a = #[(.ref a1), (.int p2), (.int p3)] ∧ Z.Warmed39 U.vm ∧ U.heap = h0) (fun _ _ _ _ _ => True) (fun _ U o U' => ∃ v L, o = .returned v ∧ (Q9 Z a1 p2 p3 b2 f r n k g h0 n0) v U'.heap L ∧ FrameEnd U o U' L ({ frames := 5, cells := 0, slots := 0, locals := 73 } : Room).cells ({ frames := 5, cells := 0, slots := 0, locals := 73 } : Room).slots) := by
  refine MetFree.of_bodySF pn_9 hisR ?_
  intro p e s m args below meth c s₁ Bd hml0 hP hK
  obtain ⟨rfl, hZ, hh⟩ := hP
  have hx := Bd.exec
  have hby := Bd.bytes
  have hml : c.maxLocals = 3 := hml0
  have hown : s.vm.findClass "java/lang/String" = some m.cls := findClass_of_methodNamed Bd.named
  have hnm := (name_of_methodNamed Bd.named Bd.method).1
  have X0 : Stand p l e ({ frames := 5, cells := 0, slots := 0, locals := 73 } : Room) s m #[(.ref a1), (.int p2), (.int p3)] below meth c s₁ [] 0 0 := Stand.of_body Bd
  have e0 : s₁.heap = h0 := by rw [← hh, Bd.state]; rfl
  have N0 := Fr.nil n0
  have lk : meth.locks = false := BodyLoose.notSynchronized Bd
  have hret := Bd.returns
  show Ends p e below (EF s ({ frames := 5, cells := 0, slots := 0, locals := 73 } : Room).cells ({ frames := 5, cells := 0, slots := 0, locals := 73 } : Room).slots) (Q9 Z a1 p2 p3 b2 f r n k g h0 n0) (s₁.setTop (entryFrame m #[(.ref a1), (.int p2), (.int p3)] 3))
  refine Ends.cast (ef_9 m a1 p2 p3) ?_
  refine own_aloadN (n := 1) X0 hx (hb hby d9_0) rfl rfl rfl ?_
  refine own_callV (n := 4) X0 hx hZ hown (hw _ (List.mem_of_getElem? (i := 47) rfl)) (hw _ (List.mem_of_getElem? (i := 48) rfl)) (hw _ (List.mem_of_getElem? (i := 50) rfl)) (hw _ (List.mem_of_getElem? (i := 49) rfl)) (hw _ (List.mem_of_getElem? (i := 10) rfl)) (hw _ (List.mem_of_getElem? (i := 51) rfl)) (by decide) e0 F0.1 (rm10 l Z a0 hw [] a1 b2 f r n k h0 n0 Z0 cs fm TT OL F0 A hn (own_D D)) (W := 0) (by decide) (by decide) (by decide) (by decide) (by rw [hml]; rfl) (argsL := []) (rest := []) pd_10 rfl (by rfl) (Nat.le_of_eq rfl) (hb hby d9_1) rfl rfl ?_
  intro v1 T1 h1 L1 X1 e1 q1
  obtain ⟨q1, rfl, ha1, hb1, M1, rfl⟩ := q1
  have N1 := Fr.app N0 M1
  by_cases c4 : q1 = 0
  · refine own_ifYes (n := 23) X1 hx (hb hby d9_4) (Jvm.Free.XT.i0_eq_t c4) (by decide) (by decide) ?_
    refine own_aloadN (n := 24) X1 hx (hb hby d9_23) rfl rfl rfl ?_
    refine own_getF (n := 27) X1 hx hZ hown (hw _ (List.mem_of_getElem? (i := 28) rfl)) e1 F0.2.1 (hb hby d9_24) rfl ?_
    intro T2 X2 e2
    refine own_iloadN (n := 28) X2 hx (hb hby d9_27) rfl rfl ?_
    refine own_iloadN (n := 29) X2 hx (hb hby d9_28) rfl rfl ?_
    refine own_aloadN (n := 30) X2 hx (hb hby d9_29) rfl rfl rfl ?_
    refine own_callV (n := 33) X2 hx hZ hown (hw _ (List.mem_of_getElem? (i := 53) rfl)) (hw _ (List.mem_of_getElem? (i := 54) rfl)) (hw _ (List.mem_of_getElem? (i := 56) rfl)) (hw _ (List.mem_of_getElem? (i := 55) rfl)) (hw _ (List.mem_of_getElem? (i := 10) rfl)) (hw _ (List.mem_of_getElem? (i := 57) rfl)) (by decide) e2 F0.1 (rm11 l Z a0 hw [] a1 b2 f r n k h0 n0 Z0 cs fm TT OL F0 A hn (own_D D)) (W := 3) (by decide) (by decide) (by decide) (by decide) (by rw [hml]; rfl) (argsL := []) (rest := [(.int p3), (.int p2), (.ref b2)]) pd_11 rfl (by rfl) (Nat.le_of_eq rfl) (hb hby d9_30) rfl rfl ?_
    intro v3 T3 h3 L3 X3 e3 q3
    obtain ⟨q3, rfl, hq3, M3, rfl⟩ := q3
    have N3 := Fr.app N1 M3
    obtain ⟨en, UT⟩ := own_D2 D (fun z => ha1 z c4)
    have A' : PA Z h0 b2 .byte (2 * k) f := en ▸ A
    refine own_callS (n := 36) X3 hx hZ hown (hw _ (List.mem_of_getElem? (i := 109) rfl)) (hw _ (List.mem_of_getElem? (i := 110) rfl)) (hw _ (List.mem_of_getElem? (i := 79) rfl)) (hw _ (List.mem_of_getElem? (i := 111) rfl)) (by decide) e3 (rm26 l Z a0 hw [] b2 p2 p3 q3 f g k h0 n0 Z0 cs fm TT OL A' UT hc hg zp3 hq3 hk4) (W := 0) (by decide) (by decide) (by decide) (by decide) (by rw [hml]; rfl) (argsL := [(.ref b2), (.int p2), (.int p3), (.int q3)]) (rest := []) pd_26 rfl (by rfl) (Nat.le_of_eq rfl) (hb hby d9_33) rfl rfl ?_
    intro v4 T4 h4 L4 X4 e4 q4
    obtain ⟨r4, rfl, hr4, M4, rfl⟩ := q4
    have N4 := Fr.app N3 M4
    refine own_retI X4 hx lk hret (hb hby d9_36) (by decide) (by decide) ?_
    rw [e4]
    exact ⟨_, rfl, hr4, N4, rfl⟩
  · refine own_ifNo (n := 7) X1 hx (hb hby d9_4) (Jvm.Free.XT.i0_eq_f c4) rfl ?_
    refine own_aloadN (n := 8) X1 hx (hb hby d9_7) rfl rfl rfl ?_
    refine own_getF (n := 11) X1 hx hZ hown (hw _ (List.mem_of_getElem? (i := 28) rfl)) e1 F0.2.1 (hb hby d9_8) rfl ?_
    intro T5 X5 e5
    refine own_iloadN (n := 12) X5 hx (hb hby d9_11) rfl rfl ?_
    refine own_iloadN (n := 13) X5 hx (hb hby d9_12) rfl rfl ?_
    refine own_aloadN (n := 14) X5 hx (hb hby d9_13) rfl rfl rfl ?_
    refine own_callV (n := 17) X5 hx hZ hown (hw _ (List.mem_of_getElem? (i := 53) rfl)) (hw _ (List.mem_of_getElem? (i := 54) rfl)) (hw _ (List.mem_of_getElem? (i := 56) rfl)) (hw _ (List.mem_of_getElem? (i := 55) rfl)) (hw _ (List.mem_of_getElem? (i := 10) rfl)) (hw _ (List.mem_of_getElem? (i := 57) rfl)) (by decide) e5 F0.1 (rm11 l Z a0 hw [] a1 b2 f r n k h0 n0 Z0 cs fm TT OL F0 A hn (own_D D)) (W := 3) (by decide) (by decide) (by decide) (by decide) (by rw [hml]; rfl) (argsL := []) (rest := [(.int p3), (.int p2), (.ref b2)]) pd_11 rfl (by rfl) (Nat.le_of_eq rfl) (hb hby d9_14) rfl rfl ?_
    intro v6 T6 h6 L6 X6 e6 q6
    obtain ⟨q6, rfl, hq6, M6, rfl⟩ := q6
    have N6 := Fr.app N1 M6
    obtain ⟨en, LT⟩ := own_D1 D (Classical.byContradiction fun z => c4 (hb1 z))
    have A' : PA Z h0 b2 .byte k f := en ▸ A
    refine own_callS (n := 20) X6 hx hZ hown (hw _ (List.mem_of_getElem? (i := 63) rfl)) (hw _ (List.mem_of_getElem? (i := 64) rfl)) (hw _ (List.mem_of_getElem? (i := 65) rfl)) (hw _ (List.mem_of_getElem? (i := 66) rfl)) (by decide) e6 (rm13 l Z a0 hw [] b2 p2 p3 q6 f g k h0 n0 Z0 A' LT hc hg zp3 hq6 hk4) (W := 0) (by decide) (by decide) (by decide) (by decide) (by rw [hml]; rfl) (argsL := [(.ref b2), (.int p2), (.int p3), (.int q6)]) (rest := []) pd_13 rfl (by rfl) (Nat.le_of_eq rfl) (hb hby d9_17) rfl rfl ?_
    intro v7 T7 h7 L7 X7 e7 q7
    obtain ⟨r7, rfl, hr7, M7, rfl⟩ := q7
    have N7 := Fr.app N6 M7
    refine own_goto (n := 36) X7 hx (hb hby d9_20) (by decide) (by decide) ?_
    refine own_retI X7 hx lk hret (hb hby d9_36) (by decide) (by decide) ?_
    rw [e7]
    exact ⟨_, rfl, hr7, N7, rfl⟩
theorem d8_0 : decode jdk_42_method_79_code 0 = .ok (.aload_n 0, 1) := by decide +kernel
theorem d8_1 : decode jdk_42_method_79_code 1 = .ok (.iload_n 1, 1) := by decide +kernel
theorem d8_2 : decode jdk_42_method_79_code 2 = .ok (.iconst 0, 1) := by decide +kernel
theorem d8_3 : decode jdk_42_method_79_code 3 = .ok (.invokevirtual 633, 3) := by decide +kernel
theorem d8_6 : decode jdk_42_method_79_code 6 = .ok (.ireturn, 1) := by decide +kernel
theorem pn_8 : plainFor (⟨"java/lang/String", "indexOf", "(I)I"⟩ : MethodName) = true := by first | exact plainFor_of_name (by first | (simp [plainName, overriddenIn]; done) | decide +kernel) | decide +kernel
theorem ef_8 (m : MethodId) (a1 : Addr) (p2 : Int32) : entryFrame m #[(.ref a1), (.int p2)] 2 = mkF m 0 #[.val (.ref a1), .val (.int p2)] [] := by first | (simp [entryFrame, argsToLocals, Value.category, Array.replicate]; done) | rfl
theorem pd_8 : parseMethodDescriptor "(I)I" = some ⟨[.int], some .int⟩ := by decide +kernel
def Q8 (Z : State) (a1 : Addr) (p2 : Int32) (b2 : Addr) (f : Nat → Int32) (r : Int32) (n : Nat) (k : Nat) (g : Nat → Int32) (h0 : Heap) (n0 : Nat) (v : Option Value) (h : Heap) (L : List Loc) : Prop := ∃ q, v = some (.int q) ∧ (¬ q < 0 ↔ HC g k p2) ∧ Fr n0 L ∧ h0 = h
theorem rm8 (l : Launch) (Z : State) (a0 : Array Value) (hw : ∀ d ∈ tables_1, d.before a0 Z = true) (ws : List Jvm.Cond) (a1 : Addr) (p2 : Int32) (b2 : Addr) (f : Nat → Int32) (r : Int32) (n : Nat) (k : Nat) (g : Nat → Int32) (h0 : Heap) (n0 : Nat) (Z0 : n0 ≤ h0.size) (cs : Int32) (fm : Value) (TT : STT Z cs fm) (OL : Old Z n0 h0) (F0 : SP Z h0 a1 (.ref b2) r) (A : PA Z h0 b2 .byte n f) (hn : n ≤ 8) (D : (r = 0 ∧ n = k ∧ LAT g f k) ∨ (r = 1 ∧ n = 2 * k ∧ UTF g f k)) (hc : p2 = 34 ∨ p2 = 39) (hg : CHS g k) (hk4 : k ≤ 4) :
    MetFree l (⟨"java/lang/String", "indexOf", "(I)I"⟩ : MethodName) (head1 (Jvm.Cond.code (⟨"java/lang/String", "indexOf", "(I)I"⟩ : MethodName) jdk_42_method_79_code 2 (some .int) :: ws) ({ frames := 6, cells := 0, slots := 0, locals := 87 } : Room)) (fun a U => a = #[(.ref a1), (.int p2)] ∧ Z.Warmed39 U.vm ∧ U.heap = h0) (fun _ _ _ _ _ => True) (fun _ U o U' => ∃ v L, o = .returned v ∧ (Q8 Z a1 p2 b2 f r n k g h0 n0) v U'.heap L ∧ FrameEnd U o U' L ({ frames := 6, cells := 0, slots := 0, locals := 87 } : Room).cells ({ frames := 6, cells := 0, slots := 0, locals := 87 } : Room).slots) := by
  refine MetFree.of_bodySF pn_8 hisR ?_
  intro p e s m args below meth c s₁ Bd hml0 hP hK
  obtain ⟨rfl, hZ, hh⟩ := hP
  have hx := Bd.exec
  have hby := Bd.bytes
  have hml : c.maxLocals = 2 := hml0
  have hown : s.vm.findClass "java/lang/String" = some m.cls := findClass_of_methodNamed Bd.named
  have hnm := (name_of_methodNamed Bd.named Bd.method).1
  have X0 : Stand p l e ({ frames := 6, cells := 0, slots := 0, locals := 87 } : Room) s m #[(.ref a1), (.int p2)] below meth c s₁ [] 0 0 := Stand.of_body Bd
  have e0 : s₁.heap = h0 := by rw [← hh, Bd.state]; rfl
  have N0 := Fr.nil n0
  have lk : meth.locks = false := BodyLoose.notSynchronized Bd
  have hret := Bd.returns
  show Ends p e below (EF s ({ frames := 6, cells := 0, slots := 0, locals := 87 } : Room).cells ({ frames := 6, cells := 0, slots := 0, locals := 87 } : Room).slots) (Q8 Z a1 p2 b2 f r n k g h0 n0) (s₁.setTop (entryFrame m #[(.ref a1), (.int p2)] 2))
  refine Ends.cast (ef_8 m a1 p2) ?_
  refine own_aloadN (n := 1) X0 hx (hb hby d8_0) rfl rfl rfl ?_
  refine own_iloadN (n := 2) X0 hx (hb hby d8_1) rfl rfl ?_
  refine own_iconst (n := 3) X0 hx (0 : Int32) (hb hby d8_2) rfl rfl ?_
  refine own_callV (n := 6) X0 hx hZ hown (hw _ (List.mem_of_getElem? (i := 42) rfl)) (hw _ (List.mem_of_getElem? (i := 43) rfl)) (hw _ (List.mem_of_getElem? (i := 45) rfl)) (hw _ (List.mem_of_getElem? (i := 44) rfl)) (hw _ (List.mem_of_getElem? (i := 10) rfl)) (hw _ (List.mem_of_getElem? (i := 46) rfl)) (by decide) e0 F0.1 (rm9 l Z a0 hw [] a1 p2 0 b2 f r n k g h0 n0 Z0 cs fm TT OL F0 A hn D hc hg hk4 rfl) (W := 0) (by decide) (by decide) (by decide) (by decide) (by rw [hml]; rfl) (argsL := [(.int p2), (.int (0 : Int32))]) (rest := []) pd_9 rfl (by rfl) (Nat.le_of_eq rfl) (hb hby d8_3) rfl rfl ?_
  intro v1 T1 h1 L1 X1 e1 q1
  obtain ⟨r1, rfl, hr1, M1, rfl⟩ := q1
  have N1 := Fr.app N0 M1
  refine own_retI X1 hx lk hret (hb hby d8_6) (by decide) (by decide) ?_
  rw [e1]
  exact ⟨_, rfl, hr1, N1, rfl⟩
theorem d7_0 : decode prog_20_method_4_code 0 = .ok (.aload_n 0, 1) := by decide +kernel
theorem d7_1 : decode prog_20_method_4_code 1 = .ok (.bipush 34, 2) := by decide +kernel
theorem d7_3 : decode prog_20_method_4_code 3 = .ok (.invokevirtual 20, 3) := by decide +kernel
theorem d7_6 : decode prog_20_method_4_code 6 = .ok (.ifCond .lt 12, 3) := by decide +kernel
theorem d7_9 : decode prog_20_method_4_code 9 = .ok (.aload_n 0, 1) := by decide +kernel
theorem d7_10 : decode prog_20_method_4_code 10 = .ok (.bipush 39, 2) := by decide +kernel
theorem d7_12 : decode prog_20_method_4_code 12 = .ok (.invokevirtual 20, 3) := by decide +kernel
theorem d7_15 : decode prog_20_method_4_code 15 = .ok (.ifCond .ge 7, 3) := by decide +kernel
theorem d7_18 : decode prog_20_method_4_code 18 = .ok (.iconst 1, 1) := by decide +kernel
theorem d7_19 : decode prog_20_method_4_code 19 = .ok (.goto 4, 3) := by decide +kernel
theorem d7_22 : decode prog_20_method_4_code 22 = .ok (.iconst 0, 1) := by decide +kernel
theorem d7_23 : decode prog_20_method_4_code 23 = .ok (.ireturn, 1) := by decide +kernel
theorem pn_7 : plainFor (⟨"com/example/pathgauge/pathgauge/expression/Predicate", "isWritable", "(Ljava/lang/String;)Z"⟩ : MethodName) = true := by first | exact plainFor_of_name (by first | (simp [plainName, overriddenIn]; done) | decide +kernel) | decide +kernel
theorem ef_7 (m : MethodId) (a1 : Addr) : entryFrame m #[(.ref a1)] 1 = mkF m 0 #[.val (.ref a1)] [] := by first | (simp [entryFrame, argsToLocals, Value.category, Array.replicate]; done) | rfl
theorem pd_7 : parseMethodDescriptor "(Ljava/lang/String;)Z" = some ⟨[(.object "java/lang/String")], some .boolean⟩ := by decide +kernel
def Q7 (Z : State) (a1 : Addr) (b2 : Addr) (f : Nat → Int32) (r : Int32) (n : Nat) (k : Nat) (g : Nat → Int32) (h0 : Heap) (n0 : Nat) (v : Option Value) (h : Heap) (L : List Loc) : Prop := ∃ r', v = some (.int r') ∧ ((r' = 1 ∧ ¬ (HC g k 34 ∧ HC g k 39)) ∨ (r' = 0 ∧ HC g k 34 ∧ HC g k 39)) ∧ Fr n0 L ∧ h0 = h
theorem rm7 (l : Launch) (Z : State) (a0 : Array Value) (hw : ∀ d ∈ tables_1, d.before a0 Z = true) (ws : List Jvm.Cond) (a1 : Addr) (b2 : Addr) (f : Nat → Int32) (r : Int32) (n : Nat) (k : Nat) (g : Nat → Int32) (h0 : Heap) (n0 : Nat) (Z0 : n0 ≤ h0.size) (cs : Int32) (fm : Value) (TT : STT Z cs fm) (OL : Old Z n0 h0) (F0 : SP Z h0 a1 (.ref b2) r) (A : PA Z h0 b2 .byte n f) (hn : n ≤ 8) (D : (r = 0 ∧ n = k ∧ LAT g f k) ∨ (r = 1 ∧ n = 2 * k ∧ UTF g f k)) (hg : CHS g k) (hk4 : k ≤ 4) :
    MetFree l (⟨"com/example/pathgauge/pathgauge/expression/Predicate", "isWritable", "(Ljava/lang/String;)Z"⟩ : MethodName) (head1 (Jvm.Cond.code (⟨"com/example/pathgauge/pathgauge/expression/Predicate", "isWritable", "(Ljava/lang/String;)Z"⟩ : MethodName) prog_20_method_4_code 1 (some .boolean) :: ws) ({ frames := 7, cells := 0, slots := 0, locals := 100 } : Room)) (fun a U => a = #[(.ref a1)] ∧ Z.Warmed39 U.vm ∧ U.heap = h0) (fun _ _ _ _ _ => True) (fun _ U o U' => ∃ v L, o = .returned v ∧ (Q7 Z a1 b2 f r n k g h0 n0) v U'.heap L ∧ FrameEnd U o U' L ({ frames := 7, cells := 0, slots := 0, locals := 100 } : Room).cells ({ frames := 7, cells := 0, slots := 0, locals := 100 } : Room).slots) := by
  refine MetFree.of_bodySF pn_7 hisR ?_
  intro p e s m args below meth c s₁ Bd hml0 hP hK
  obtain ⟨rfl, hZ, hh⟩ := hP
  have hx := Bd.exec
  have hby := Bd.bytes
  have hml : c.maxLocals = 1 := hml0
  have hown : s.vm.findClass "com/example/pathgauge/pathgauge/expression/Predicate" = some m.cls := findClass_of_methodNamed Bd.named
  have hnm := (name_of_methodNamed Bd.named Bd.method).1
  have X0 : Stand p l e ({ frames := 7, cells := 0, slots := 0, locals := 100 } : Room) s m #[(.ref a1)] below meth c s₁ [] 0 0 := Stand.of_body Bd
  have e0 : s₁.heap = h0 := by rw [← hh, Bd.state]; rfl
  have N0 := Fr.nil n0
  have lk : meth.locks = false := BodyLoose.notSynchronized Bd
  have hret := Bd.returns
  show Ends p e below (EF s ({ frames := 7, cells := 0, slots := 0, locals := 100 } : Room).cells ({ frames := 7, cells := 0, slots := 0, locals := 100 } : Room).slots) (Q7 Z a1 b2 f r n k g h0 n0) (s₁.setTop (entryFrame m #[(.ref a1)] 1))
  refine Ends.cast (ef_7 m a1) ?_
  refine own_aloadN (n := 1) X0 hx (hb hby d7_0) rfl rfl rfl ?_
  refine own_bipush (n := 3) X0 hx (34 : Int32) (hb hby d7_1) rfl rfl ?_
  refine own_callV (n := 6) X0 hx hZ hown (hw _ (List.mem_of_getElem? (i := 37) rfl)) (hw _ (List.mem_of_getElem? (i := 38) rfl)) (hw _ (List.mem_of_getElem? (i := 40) rfl)) (hw _ (List.mem_of_getElem? (i := 39) rfl)) (hw _ (List.mem_of_getElem? (i := 10) rfl)) (hw _ (List.mem_of_getElem? (i := 41) rfl)) (by decide) e0 F0.1 (rm8 l Z a0 hw [] a1 (34 : Int32) b2 f r n k g h0 n0 Z0 cs fm TT OL F0 A hn D (by decide) hg hk4) (W := 0) (by decide) (by decide) (by decide) (by decide) (by rw [hml]; rfl) (argsL := [(.int (34 : Int32))]) (rest := []) pd_8 rfl (by rfl) (Nat.le_of_eq rfl) (hb hby d7_3) rfl rfl ?_
  intro v1 T1 h1 L1 X1 e1 q1
  obtain ⟨r1, rfl, hr1, M1, rfl⟩ := q1
  have N1 := Fr.app N0 M1
  by_cases c6 : r1 < 0
  · refine own_ifYes (n := 18) X1 hx (hb hby d7_6) (Jvm.Free.XT.i0_lt_t c6) (by decide) (by decide) ?_
    refine own_iconst (n := 19) X1 hx (1 : Int32) (hb hby d7_18) rfl rfl ?_
    refine own_goto (n := 23) X1 hx (hb hby d7_19) (by decide) (by decide) ?_
    refine own_retN X1 hx lk hret (by simp) (hb hby d7_23) (by decide) (by decide) ?_
    rw [e1]
    exact ⟨_, rfl, Or.inl ⟨rfl, fun z => (hr1.mpr z.1) c6⟩, N1, rfl⟩
  · refine own_ifNo (n := 9) X1 hx (hb hby d7_6) (Jvm.Free.XT.i0_lt_f c6) rfl ?_
    refine own_aloadN (n := 10) X1 hx (hb hby d7_9) rfl rfl rfl ?_
    refine own_bipush (n := 12) X1 hx (39 : Int32) (hb hby d7_10) rfl rfl ?_
    refine own_callV (n := 15) X1 hx hZ hown (hw _ (List.mem_of_getElem? (i := 37) rfl)) (hw _ (List.mem_of_getElem? (i := 38) rfl)) (hw _ (List.mem_of_getElem? (i := 40) rfl)) (hw _ (List.mem_of_getElem? (i := 39) rfl)) (hw _ (List.mem_of_getElem? (i := 10) rfl)) (hw _ (List.mem_of_getElem? (i := 41) rfl)) (by decide) e1 F0.1 (rm8 l Z a0 hw [] a1 (39 : Int32) b2 f r n k g h0 n0 Z0 cs fm TT OL F0 A hn D (by decide) hg hk4) (W := 0) (by decide) (by decide) (by decide) (by decide) (by rw [hml]; rfl) (argsL := [(.int (39 : Int32))]) (rest := []) pd_8 rfl (by rfl) (Nat.le_of_eq rfl) (hb hby d7_12) rfl rfl ?_
    intro v2 T2 h2 L2 X2 e2 q2
    obtain ⟨r2, rfl, hr2, M2, rfl⟩ := q2
    have N2 := Fr.app N1 M2
    by_cases c15 : r2 < 0
    · refine own_ifNo (n := 18) X2 hx (hb hby d7_15) (Jvm.Free.XT.i0_ge_f c15) rfl ?_
      refine own_iconst (n := 19) X2 hx (1 : Int32) (hb hby d7_18) rfl rfl ?_
      refine own_goto (n := 23) X2 hx (hb hby d7_19) (by decide) (by decide) ?_
      refine own_retN X2 hx lk hret (by simp) (hb hby d7_23) (by decide) (by decide) ?_
      rw [e2]
      exact ⟨_, rfl, Or.inl ⟨rfl, fun z => (hr2.mpr z.2) c15⟩, N2, rfl⟩
    · refine own_ifYes (n := 22) X2 hx (hb hby d7_15) (Jvm.Free.XT.i0_ge_t c15) (by decide) (by decide) ?_
      refine own_iconst (n := 23) X2 hx (0 : Int32) (hb hby d7_22) rfl rfl ?_
      refine own_retN X2 hx lk hret (by simp) (hb hby d7_23) (by decide) (by decide) ?_
      rw [e2]
      exact ⟨_, rfl, Or.inr ⟨rfl, hr1.mp c6, hr2.mp c15⟩, N2, rfl⟩
theorem pn_0 : plainFor x = true := by first | exact plainFor_of_name (by first | (simp [plainName, overriddenIn]; done) | decide +kernel) | decide +kernel
theorem ef_0 (m : MethodId) (p1 : Int32) (p2 : Int32) (p3 : Int32) (p4 : Int32) (p5 : Int32) : entryFrame m #[(.int p1), (.int p2), (.int p3), (.int p4), (.int p5)] maxLocals = mkF m 0 #[.val (.int p1), .val (.int p2), .val (.int p3), .val (.int p4), .val (.int p5), .unset, .unset, .unset, .unset, .unset, .unset, .unset, .unset, .unset] [] := by first | (simp [entryFrame, argsToLocals, Value.category, Array.replicate, maxLocals]; done) | rfl
def Q0 (Z : State) (p1 : Int32) (p2 : Int32) (p3 : Int32) (p4 : Int32) (p5 : Int32)  (h0 : Heap) (n0 : Nat) (v : Option Value) (h : Heap) (L : List Loc) : Prop := v = some (.int 1) ∧ Fr n0 L
theorem own_w1 {y t1 t2 : Int32} {P Q : Prop} (hy : (y = 1 ∧ ¬ (P ∧ Q)) ∨ (y = 0 ∧ P ∧ Q)) (h1 : (t1 = 1 ∧ P) ∨ (t1 = 0 ∧ ¬ P)) (h2 : (t2 = 1 ∧ Q) ∨ (t2 = 0 ∧ ¬ Q)) (e : t1 = 0 ∨ t2 = 0) : y = 1 := by
  rcases hy with ⟨q, -⟩ | ⟨-, p1, p2⟩
  · exact q
  · exfalso
    rcases e with e | e
    · rcases h1 with ⟨z, -⟩ | ⟨-, z⟩
      · rw [e] at z; exact absurd z (by decide)
      · exact z p1
    · rcases h2 with ⟨z, -⟩ | ⟨-, z⟩
      · rw [e] at z; exact absurd z (by decide)
      · exact z p2
theorem own_w0 {y t1 t2 : Int32} {P Q : Prop} (hy : (y = 1 ∧ ¬ (P ∧ Q)) ∨ (y = 0 ∧ P ∧ Q)) (h1 : (t1 = 1 ∧ P) ∨ (t1 = 0 ∧ ¬ P)) (h2 : (t2 = 1 ∧ Q) ∨ (t2 = 0 ∧ ¬ Q)) (e1 : ¬ t1 = 0) (zp2 : ¬ t2 = 0) : y = 0 := by
  rcases hy with ⟨-, q⟩ | ⟨q, -⟩
  · exfalso
    rcases h1 with ⟨-, z1⟩ | ⟨z, -⟩
    · rcases h2 with ⟨-, z2⟩ | ⟨z, -⟩
      · exact q ⟨z1, z2⟩
      · exact zp2 z
    · exact e1 z
  · exact q
theorem rm0 (l : Launch) (Z : State) (a0 : Array Value) (hw : ∀ d ∈ tables_1, d.before a0 Z = true) (ws : List Jvm.Cond) (p1 : Int32) (p2 : Int32) (p3 : Int32) (p4 : Int32) (p5 : Int32)  (h0 : Heap) (n0 : Nat) (Z0 : n0 ≤ h0.size) (cs : Int32) (fm : Value) (TT : STT Z cs fm) (OL : Old Z n0 h0) (hcst : Jvm.Lit.constHeld Z "java/lang/String" 7) (hcw : Jvm.Lit.compactW.before a0 Z = true) :
    MetFree l x (head1 (Jvm.Cond.code x code maxLocals ret :: ws) room_1) (fun a U => a = #[(.int p1), (.int p2), (.int p3), (.int p4), (.int p5)] ∧ Z.Warmed39 U.vm ∧ U.heap = h0 ∧ IB Z U.vm []) (fun _ _ _ _ _ => True) (fun _ U o U' => ∃ v L, o = .returned v ∧ (Q0 Z p1 p2 p3 p4 p5  h0 n0) v U'.heap L ∧ ReturnedEndW U o U' L 24 1152) := by
  refine MetFree.of_bodySF pn_0 hisR ?_
  intro p e s m args below meth c s₁ Bd hml0 hP hK
  obtain ⟨rfl, hZ, hh, hI⟩ := hP
  have hx := Bd.exec
  have hby := Bd.bytes
  have hml : c.maxLocals = 14 := hml0
  have hown : s.vm.findClass "com/example/pathgauge/pathgauge/expression/PredicateIsWritablePinLaw" = some m.cls := findClass_of_methodNamed Bd.named
  have hnm := (name_of_methodNamed Bd.named Bd.method).1
  have X0 : Stand p l e room_1 s m #[(.int p1), (.int p2), (.int p3), (.int p4), (.int p5)] below meth c s₁ [] 0 0 := Stand.of_body Bd
  have e0 : s₁.heap = h0 := by rw [← hh, Bd.state]; rfl
  have N0 := Fr.nil n0
  have lk : meth.locks = false := BodyLoose.notSynchronized Bd
  have hret := Bd.returns
  show Ends p e below (EW s 24 1152) (Q0 Z p1 p2 p3 p4 p5  h0 n0) (s₁.setTop (entryFrame m #[(.int p1), (.int p2), (.int p3), (.int p4), (.int p5)] maxLocals))
  refine Ends.cast (ef_0 m p1 p2 p3 p4 p5) ?_
  refine own_iloadN (n := 1) X0 hx (hb hby at_0) rfl rfl ?_
  refine own_ldc (n := 3) X0 hx hZ hown (hw _ (List.mem_of_getElem? (i := 0) rfl)) (hb hby at_1) rfl ?_
  refine own_iand (n := 4) X0 hx (hb hby at_3) rfl ?_
  refine own_iconst (n := 5) X0 hx (5 : Int32) (hb hby at_4) rfl rfl ?_
  refine own_irem (n := 6) X0 hx (hb hby at_5) (by decide) rfl ?_
  refine own_istore (n := 8) X0 hx (hb hby at_6) (l' := #[.val (.int p1), .val (.int p2), .val (.int p3), .val (.int p4), .val (.int p5), .val (.int ((p1 &&& (2147483647 : Int32)) % (5 : Int32))), .unset, .unset, .unset, .unset, .unset, .unset, .unset, .unset]) rfl rfl ?_
  show Ends p e below (EW s 24 1152) (Q0 Z p1 p2 p3 p4 p5  h0 n0) (s₁.setTop (mkF m 8 #[.val (.int p1), .val (.int p2), .val (.int p3), .val (.int p4), .val (.int p5), .val (.int ((p1 &&& (2147483647 : Int32)) % (5 : Int32))), .unset, .unset, .unset, .unset, .unset, .unset, .unset, .unset] []))
  generalize g_w5 : ((p1 &&& (2147483647 : Int32)) % (5 : Int32)) = w5
  refine own_iloadN (n := 9) X0 hx (hb hby at_8) rfl rfl ?_
  refine own_callS (n := 12) X0 hx hZ hown (hw _ (List.mem_of_getElem? (i := 1) rfl)) (hw _ (List.mem_of_getElem? (i := 2) rfl)) (hw _ (List.mem_of_getElem? (i := 3) rfl)) (hw _ (List.mem_of_getElem? (i := 4) rfl)) (by decide) e0 (rm1 l Z a0 hw [] p2 h0 n0 Z0 ) (W := 0) (by decide) (by decide) (by decide) (by decide) (by rw [hml]; rfl) (argsL := [(.int p2)]) (rest := []) pd_1 rfl (by rfl) (Nat.le_of_eq rfl) (hb hby at_9) rfl rfl ?_
  intro v1 T1 h1 L1 X1 e1 q1
  obtain ⟨k1, rfl, ka1, kb1, kc1, M1, rfl⟩ := q1
  have N1 := Fr.app N0 M1
  refine own_istore (n := 14) X1 hx (hb hby at_12) (l' := #[.val (.int p1), .val (.int p2), .val (.int p3), .val (.int p4), .val (.int p5), .val (.int w5), .val (.int k1), .unset, .unset, .unset, .unset, .unset, .unset, .unset]) rfl rfl ?_
  refine own_iloadN (n := 15) X1 hx (hb hby at_14) rfl rfl ?_
  refine own_callS (n := 18) X1 hx hZ hown (hw _ (List.mem_of_getElem? (i := 1) rfl)) (hw _ (List.mem_of_getElem? (i := 2) rfl)) (hw _ (List.mem_of_getElem? (i := 3) rfl)) (hw _ (List.mem_of_getElem? (i := 4) rfl)) (by decide) e1 (rm1 l Z a0 hw [] p3 h0 n0 Z0 ) (W := 0) (by decide) (by decide) (by decide) (by decide) (by rw [hml]; rfl) (argsL := [(.int p3)]) (rest := []) pd_1 rfl (by rfl) (Nat.le_of_eq rfl) (hb hby at_15) rfl rfl ?_
  intro v2 T2 h2 L2 X2 e2 q2
  obtain ⟨k2, rfl, ka2, kb2, kc2, M2, rfl⟩ := q2
  have N2 := Fr.app N1 M2
  refine own_istore (n := 20) X2 hx (hb hby at_18) (l' := #[.val (.int p1), .val (.int p2), .val (.int p3), .val (.int p4), .val (.int p5), .val (.int w5), .val (.int k1), .val (.int k2), .unset, .unset, .unset, .unset, .unset, .unset]) rfl rfl ?_
  refine own_iloadN (n := 21) X2 hx (hb hby at_20) rfl rfl ?_
  refine own_callS (n := 24) X2 hx hZ hown (hw _ (List.mem_of_getElem? (i := 1) rfl)) (hw _ (List.mem_of_getElem? (i := 2) rfl)) (hw _ (List.mem_of_getElem? (i := 3) rfl)) (hw _ (List.mem_of_getElem? (i := 4) rfl)) (by decide) e2 (rm1 l Z a0 hw [] p4 h0 n0 Z0 ) (W := 0) (by decide) (by decide) (by decide) (by decide) (by rw [hml]; rfl) (argsL := [(.int p4)]) (rest := []) pd_1 rfl (by rfl) (Nat.le_of_eq rfl) (hb hby at_21) rfl rfl ?_
  intro v3 T3 h3 L3 X3 e3 q3
  obtain ⟨k3, rfl, ka3, kb3, kc3, M3, rfl⟩ := q3
  have N3 := Fr.app N2 M3
  refine own_istore (n := 26) X3 hx (hb hby at_24) (l' := #[.val (.int p1), .val (.int p2), .val (.int p3), .val (.int p4), .val (.int p5), .val (.int w5), .val (.int k1), .val (.int k2), .val (.int k3), .unset, .unset, .unset, .unset, .unset]) rfl rfl ?_
  refine own_iload (n := 28) X3 hx (hb hby at_26) rfl rfl ?_
  refine own_callS (n := 31) X3 hx hZ hown (hw _ (List.mem_of_getElem? (i := 1) rfl)) (hw _ (List.mem_of_getElem? (i := 2) rfl)) (hw _ (List.mem_of_getElem? (i := 3) rfl)) (hw _ (List.mem_of_getElem? (i := 4) rfl)) (by decide) e3 (rm1 l Z a0 hw [] p5 h0 n0 Z0 ) (W := 0) (by decide) (by decide) (by decide) (by decide) (by rw [hml]; rfl) (argsL := [(.int p5)]) (rest := []) pd_1 rfl (by rfl) (Nat.le_of_eq rfl) (hb hby at_28) rfl rfl ?_
  intro v4 T4 h4 L4 X4 e4 q4
  obtain ⟨k4, rfl, ka4, kb4, kc4, M4, rfl⟩ := q4
  have N4 := Fr.app N3 M4
  refine own_istore (n := 33) X4 hx (hb hby at_31) (l' := #[.val (.int p1), .val (.int p2), .val (.int p3), .val (.int p4), .val (.int p5), .val (.int w5), .val (.int k1), .val (.int k2), .val (.int k3), .val (.int k4), .unset, .unset, .unset, .unset]) rfl rfl ?_
  refine own_iload (n := 35) X4 hx (hb hby at_33) rfl rfl ?_
  refine own_iload (n := 37) X4 hx (hb hby at_35) rfl rfl ?_
  refine own_iload (n := 39) X4 hx (hb hby at_37) rfl rfl ?_
  refine own_iload (n := 41) X4 hx (hb hby at_39) rfl rfl ?_
  refine own_iload (n := 43) X4 hx (hb hby at_41) rfl rfl ?_
  obtain ⟨k, hk, hk4⟩ : ∃ k : Nat, w5.toInt = (k : Int) ∧ k ≤ 4 := by
    have q1 := c_and p1 2147483647 (by decide)
    have q2 := (c_irem (p1 &&& (2147483647 : Int32)) 5 5 rfl).1 q1.1
    rw [g_w5] at q2
    exact ⟨w5.toInt.toNat, by omega, by omega⟩
  refine own_callSW (n := 46) X4 hx hZ hI hown (hw _ (List.mem_of_getElem? (i := 5) rfl)) (hw _ (List.mem_of_getElem? (i := 6) rfl)) (hw _ (List.mem_of_getElem? (i := 3) rfl)) (hw _ (List.mem_of_getElem? (i := 7) rfl)) (by decide) e4 (rm2 l Z a0 hw [] w5 k1 k2 k3 k4 k h0 n0 Z0 cs fm TT OL hcst hcw hk hk4 kc1 ⟨ka1, kb1⟩ kc2 ⟨ka2, kb2⟩ kc3 ⟨ka3, kb3⟩ kc4 ⟨ka4, kb4⟩) (W := 0) (by decide) (by decide) (by decide) (by decide) (by rw [hml]; rfl) (argsL := [(.int w5), (.int k1), (.int k2), (.int k3), (.int k4)]) (rest := []) pd_2 rfl (by rfl) (Nat.le_of_eq rfl) (hb hby at_43) rfl rfl ?_
  intro v5 T5 h5 L5 X5 e5 hS5 hZ hown q5
  obtain ⟨so, rfl, M5, OL5, b2, f, r, n, F0, A, D⟩ := q5
  have N5 := Fr.app N4 M5
  have Z5 := own_oldz OL5
  have hn : n ≤ 8 := by rcases own_D D with ⟨-, z⟩ | ⟨-, z⟩ <;> omega
  have hg : CHS (CH k1 k2 k3 k4) k := by
    intro j hj
    rcases j with _ | _ | _ | _ | j <;> first | omega | exact ⟨ka1, kb1⟩ | exact ⟨ka2, kb2⟩ | exact ⟨ka3, kb3⟩ | exact ⟨ka4, kb4⟩
  refine own_astore (n := 48) X5 hx (hb hby at_46) rfl (l' := #[.val (.int p1), .val (.int p2), .val (.int p3), .val (.int p4), .val (.int p5), .val (.int w5), .val (.int k1), .val (.int k2), .val (.int k3), .val (.int k4), .val (.ref so), .unset, .unset, .unset]) rfl rfl ?_
  refine own_iload (n := 50) X5 hx (hb hby at_48) rfl rfl ?_
  refine own_iload (n := 52) X5 hx (hb hby at_50) rfl rfl ?_
  refine own_iload (n := 54) X5 hx (hb hby at_52) rfl rfl ?_
  refine own_iload (n := 56) X5 hx (hb hby at_54) rfl rfl ?_
  refine own_iload (n := 58) X5 hx (hb hby at_56) rfl rfl ?_
  refine own_bipush (n := 60) X5 hx (34 : Int32) (hb hby at_58) rfl rfl ?_
  refine own_callS (n := 63) X5 hx hZ hown (hw _ (List.mem_of_getElem? (i := 30) rfl)) (hw _ (List.mem_of_getElem? (i := 31) rfl)) (hw _ (List.mem_of_getElem? (i := 3) rfl)) (hw _ (List.mem_of_getElem? (i := 32) rfl)) (by decide) e5 (rm6 l Z a0 hw [] w5 k1 k2 k3 k4 (34 : Int32) k h5 n0 Z5 hk hk4) (W := 0) (by decide) (by decide) (by decide) (by decide) (by rw [hml]; rfl) (argsL := [(.int w5), (.int k1), (.int k2), (.int k3), (.int k4), (.int (34 : Int32))]) (rest := []) pd_6 rfl (by rfl) (Nat.le_of_eq rfl) (hb hby at_60) rfl rfl ?_
  intro v6 T6 h6 L6 X6 e6 q6
  obtain ⟨t6, rfl, ht6, M6, rfl⟩ := q6
  have N6 := Fr.app N5 M6
  refine own_istore (n := 65) X6 hx (hb hby at_63) (l' := #[.val (.int p1), .val (.int p2), .val (.int p3), .val (.int p4), .val (.int p5), .val (.int w5), .val (.int k1), .val (.int k2), .val (.int k3), .val (.int k4), .val (.ref so), .val (.int t6), .unset, .unset]) rfl rfl ?_
  refine own_iload (n := 67) X6 hx (hb hby at_65) rfl rfl ?_
  refine own_iload (n := 69) X6 hx (hb hby at_67) rfl rfl ?_
  refine own_iload (n := 71) X6 hx (hb hby at_69) rfl rfl ?_
  refine own_iload (n := 73) X6 hx (hb hby at_71) rfl rfl ?_
  refine own_iload (n := 75) X6 hx (hb hby at_73) rfl rfl ?_
  refine own_bipush (n := 77) X6 hx (39 : Int32) (hb hby at_75) rfl rfl ?_
  refine own_callS (n := 80) X6 hx hZ hown (hw _ (List.mem_of_getElem? (i := 30) rfl)) (hw _ (List.mem_of_getElem? (i := 31) rfl)) (hw _ (List.mem_of_getElem? (i := 3) rfl)) (hw _ (List.mem_of_getElem? (i := 32) rfl)) (by decide) e6 (rm6 l Z a0 hw [] w5 k1 k2 k3 k4 (39 : Int32) k h5 n0 Z5 hk hk4) (W := 0) (by decide) (by decide) (by decide) (by decide) (by rw [hml]; rfl) (argsL := [(.int w5), (.int k1), (.int k2), (.int k3), (.int k4), (.int (39 : Int32))]) (rest := []) pd_6 rfl (by rfl) (Nat.le_of_eq rfl) (hb hby at_77) rfl rfl ?_
  intro v7 T7 h7 L7 X7 e7 q7
  obtain ⟨t7, rfl, ht7, M7, rfl⟩ := q7
  have N7 := Fr.app N6 M7
  refine own_istore (n := 82) X7 hx (hb hby at_80) (l' := #[.val (.int p1), .val (.int p2), .val (.int p3), .val (.int p4), .val (.int p5), .val (.int w5), .val (.int k1), .val (.int k2), .val (.int k3), .val (.int k4), .val (.ref so), .val (.int t6), .val (.int t7), .unset]) rfl rfl ?_
  refine own_iload (n := 84) X7 hx (hb hby at_82) rfl rfl ?_
  by_cases c84 : t6 = 0
  · refine own_ifYes (n := 92) X7 hx (hb hby at_84) (Jvm.Free.XT.i0_eq_t c84) (by decide) (by decide) ?_
    refine own_iconst (n := 93) X7 hx (1 : Int32) (hb hby at_92) rfl rfl ?_
    refine own_goto (n := 97) X7 hx (hb hby at_93) (by decide) (by decide) ?_
    refine own_istore (n := 99) X7 hx (hb hby at_97) (l' := #[.val (.int p1), .val (.int p2), .val (.int p3), .val (.int p4), .val (.int p5), .val (.int w5), .val (.int k1), .val (.int k2), .val (.int k3), .val (.int k4), .val (.ref so), .val (.int t6), .val (.int t7), .val (.int (1 : Int32))]) rfl rfl ?_
    refine own_aload (n := 101) X7 hx (hb hby at_99) rfl rfl rfl ?_
    refine own_callS (n := 104) X7 hx hZ hown (hw _ (List.mem_of_getElem? (i := 33) rfl)) (hw _ (List.mem_of_getElem? (i := 34) rfl)) (hw _ (List.mem_of_getElem? (i := 35) rfl)) (hw _ (List.mem_of_getElem? (i := 36) rfl)) (by decide) e7 (rm7 l Z a0 hw [] so b2 f r n k (CH k1 k2 k3 k4) h5 n0 Z5 cs fm TT OL5 F0 A hn D hg hk4) (W := 0) (by decide) (by decide) (by decide) (by decide) (by rw [hml]; rfl) (argsL := [(.ref so)]) (rest := []) pd_7 rfl (by rfl) (Nat.le_of_eq rfl) (hb hby at_101) rfl rfl ?_
    intro v8 T8 h8 L8 X8 e8 q8
    obtain ⟨y8, rfl, hy8, M8, rfl⟩ := q8
    have N8 := Fr.app N7 M8
    refine own_iload (n := 106) X8 hx (hb hby at_104) rfl rfl ?_
    refine own_icmpNo (n := 109) X8 hx (hb hby at_106) (Jvm.Free.XT.ii_ne_f (own_w1 hy8 ht6 ht7 (Or.inl c84))) rfl ?_
    refine own_iconst (n := 110) X8 hx (1 : Int32) (hb hby at_109) rfl rfl ?_
    refine own_goto (n := 114) X8 hx (hb hby at_110) (by decide) (by decide) ?_
    refine own_retNW X8 hx lk hS5 (by rw [e8]; exact (Nat.le_refl _)) hret (by simp) (hb hby at_114) (by decide) (by decide) ?_
    rw [e8]
    exact ⟨rfl, N8⟩
  · refine own_ifNo (n := 87) X7 hx (hb hby at_84) (Jvm.Free.XT.i0_eq_f c84) rfl ?_
    refine own_iload (n := 89) X7 hx (hb hby at_87) rfl rfl ?_
    by_cases c89 : t7 = 0
    · refine own_ifNo (n := 92) X7 hx (hb hby at_89) (Jvm.Free.XT.i0_ne_f c89) rfl ?_
      refine own_iconst (n := 93) X7 hx (1 : Int32) (hb hby at_92) rfl rfl ?_
      refine own_goto (n := 97) X7 hx (hb hby at_93) (by decide) (by decide) ?_
      refine own_istore (n := 99) X7 hx (hb hby at_97) (l' := #[.val (.int p1), .val (.int p2), .val (.int p3), .val (.int p4), .val (.int p5), .val (.int w5), .val (.int k1), .val (.int k2), .val (.int k3), .val (.int k4), .val (.ref so), .val (.int t6), .val (.int t7), .val (.int (1 : Int32))]) rfl rfl ?_
      refine own_aload (n := 101) X7 hx (hb hby at_99) rfl rfl rfl ?_
      refine own_callS (n := 104) X7 hx hZ hown (hw _ (List.mem_of_getElem? (i := 33) rfl)) (hw _ (List.mem_of_getElem? (i := 34) rfl)) (hw _ (List.mem_of_getElem? (i := 35) rfl)) (hw _ (List.mem_of_getElem? (i := 36) rfl)) (by decide) e7 (rm7 l Z a0 hw [] so b2 f r n k (CH k1 k2 k3 k4) h5 n0 Z5 cs fm TT OL5 F0 A hn D hg hk4) (W := 0) (by decide) (by decide) (by decide) (by decide) (by rw [hml]; rfl) (argsL := [(.ref so)]) (rest := []) pd_7 rfl (by rfl) (Nat.le_of_eq rfl) (hb hby at_101) rfl rfl ?_
      intro v9 T9 h9 L9 X9 e9 q9
      obtain ⟨y9, rfl, hy9, M9, rfl⟩ := q9
      have N9 := Fr.app N7 M9
      refine own_iload (n := 106) X9 hx (hb hby at_104) rfl rfl ?_
      refine own_icmpNo (n := 109) X9 hx (hb hby at_106) (Jvm.Free.XT.ii_ne_f (own_w1 hy9 ht6 ht7 (Or.inr c89))) rfl ?_
      refine own_iconst (n := 110) X9 hx (1 : Int32) (hb hby at_109) rfl rfl ?_
      refine own_goto (n := 114) X9 hx (hb hby at_110) (by decide) (by decide) ?_
      refine own_retNW X9 hx lk hS5 (by rw [e9]; exact (Nat.le_refl _)) hret (by simp) (hb hby at_114) (by decide) (by decide) ?_
      rw [e9]
      exact ⟨rfl, N9⟩
    · refine own_ifYes (n := 96) X7 hx (hb hby at_89) (Jvm.Free.XT.i0_ne_t c89) (by decide) (by decide) ?_
      refine own_iconst (n := 97) X7 hx (0 : Int32) (hb hby at_96) rfl rfl ?_
      refine own_istore (n := 99) X7 hx (hb hby at_97) (l' := #[.val (.int p1), .val (.int p2), .val (.int p3), .val (.int p4), .val (.int p5), .val (.int w5), .val (.int k1), .val (.int k2), .val (.int k3), .val (.int k4), .val (.ref so), .val (.int t6), .val (.int t7), .val (.int (0 : Int32))]) rfl rfl ?_
      refine own_aload (n := 101) X7 hx (hb hby at_99) rfl rfl rfl ?_
      refine own_callS (n := 104) X7 hx hZ hown (hw _ (List.mem_of_getElem? (i := 33) rfl)) (hw _ (List.mem_of_getElem? (i := 34) rfl)) (hw _ (List.mem_of_getElem? (i := 35) rfl)) (hw _ (List.mem_of_getElem? (i := 36) rfl)) (by decide) e7 (rm7 l Z a0 hw [] so b2 f r n k (CH k1 k2 k3 k4) h5 n0 Z5 cs fm TT OL5 F0 A hn D hg hk4) (W := 0) (by decide) (by decide) (by decide) (by decide) (by rw [hml]; rfl) (argsL := [(.ref so)]) (rest := []) pd_7 rfl (by rfl) (Nat.le_of_eq rfl) (hb hby at_101) rfl rfl ?_
      intro v10 T10 h10 L10 X10 e10 q10
      obtain ⟨y10, rfl, hy10, M10, rfl⟩ := q10
      have N10 := Fr.app N7 M10
      refine own_iload (n := 106) X10 hx (hb hby at_104) rfl rfl ?_
      refine own_icmpNo (n := 109) X10 hx (hb hby at_106) (Jvm.Free.XT.ii_ne_f (own_w0 hy10 ht6 ht7 c84 c89)) rfl ?_
      refine own_iconst (n := 110) X10 hx (1 : Int32) (hb hby at_109) rfl rfl ?_
      refine own_goto (n := 114) X10 hx (hb hby at_110) (by decide) (by decide) ?_
      refine own_retNW X10 hx lk hS5 (by rw [e10]; exact (Nat.le_refl _)) hret (by simp) (hb hby at_114) (by decide) (by decide) ?_
      rw [e10]
      exact ⟨rfl, N10⟩
theorem own_steq {s : State} {args : Array Value} {t : Term} {k : Int32} (h : (Cond.eq t (Term.int k)).before args s = true) : t.eval args s none [] s = some (.int k) := Cond.eq_int h rfl
theorem comes_1 {Post : Tables → Env → Array Value → State → Outcome → State → Prop} (hpost : ∀ tb e args s v u, (limb_1_1.after args s (.returned v) u = true ∧ limb_1_2.after args s (.returned v) u = true ∧ True) → ReturnedEndW s (.returned v) u (Jvm.fieldLocs frame_1_writes args s ++ Jvm.arrayLocs frame_1_arrays args s ++ Jvm.staticLocs frame_1_statics s) 24 1152 → Post tb e args s (.returned v) u) :
    ArmFor flags0 classFile x code maxLocals ret World_1 tables_1 room_1 Calls_1 rest_1 Pre_1 Post := by
  intro l hfl _ _ p e ha hc hk s m args below hf hA hF happ hP
  obtain ⟨hcalls, hrest, hpre⟩ := hP
  obtain ⟨-, -, -, hnamed, -, -, -, hat⟩ := (Spec.applies_iff hf).mp happ
  obtain ⟨hg, hn⟩ := and_e (Cond.before_iff.mp (show (Jvm.Cond.and given_1 narrow_1).before args s = true from hpre))
  obtain ⟨hcount, hg0⟩ := and_e hg
  obtain ⟨hi0, hg1⟩ := and_e hg0
  obtain ⟨hi1, hg2⟩ := and_e hg1
  obtain ⟨hi2, hg3⟩ := and_e hg2
  obtain ⟨hi3, hg4⟩ := and_e hg3
  obtain ⟨w0, w1, w2, w3, w4, rfl⟩ : ∃ w0 w1 w2 w3 w4 : Value, args = #[w0, w1, w2, w3, w4] := by
    have hs : args.size = 5 := by simpa [Cond.value, given_1] using hcount
    obtain ⟨L⟩ := args
    match L, hs with
    | [w0, w1, w2, w3, w4], _ => exact ⟨w0, w1, w2, w3, w4, rfl⟩
  have hw := fun d (hd : d ∈ tables_1) => atoms_spec (ws := Jvm.Cond.code x code maxLocals ret :: tables_1) hat d (List.mem_cons_of_mem _ hd)
  have hfit : Fit s := fun {y c} hc i hi => by
    obtain ⟨ha, rfl⟩ := Array.getElem?_eq_some_iff.mp hc
    have q := List.all_eq_true.mp ((Array.all_eq_true_iff_forall_mem.mp hF) _ (Array.getElem_mem ha)) i (List.mem_range.mpr hi)
    simpa [Array.getElem?_eq_getElem hi] using q
  obtain ⟨i0, j0⟩ := is_v hi0
  obtain rfl : w0 = (.int i0) := Option.some.inj j0
  obtain ⟨i1, j1⟩ := is_v hi1
  obtain rfl : w1 = (.int i1) := Option.some.inj j1
  obtain ⟨i2, j2⟩ := is_v hi2
  obtain rfl : w2 = (.int i2) := Option.some.inj j2
  obtain ⟨i3, j3⟩ := is_v hi3
  obtain rfl : w3 = (.int i3) := Option.some.inj j3
  obtain ⟨i4, j4⟩ := is_v hg4
  obtain rfl : w4 = (.int i4) := Option.some.inj j4
  obtain ⟨hsets, hown0⟩ := atoms_of _ (rest_1_c_eq ▸ (show rest_1_c.before _ s = true from hrest))
  have hr0 := Cond.before_iff.mp hown0
  have jj := fun i d (h : jdkStatics_1[i]? = some d) => hsets d (List.mem_of_getElem? h)
  have j0 := jj 0 _ rfl
  have j1 := jj 1 _ rfl
  have j2 := jj 2 _ rfl
  obtain ⟨cs, ev⟩ := is_v (Cond.before_iff.mp j1)
  have CS : Sta s s.heap "java/lang/String" "COMPACT_STRINGS" "Z" (.int cs) := Sta.start ev (Or.inl j0)
  have hcs : ¬ cs = 0 := fun z => by
    subst z
    have q := not_v (Cond.before_iff.mp j2)
    have q2 := eq_i ev (Term.int_eval 0) rfl
    rw [q] at q2
    cases q2
  obtain ⟨fm, evf, hfm⟩ := isR_v (Cond.before_iff.mp (jj 8 _ rfl))
  have FM : Sta s s.heap "jdk/internal/util/Preconditions" "SIOOBE_FORMATTER" "Ljava/util/function/BiFunction;" fm := Sta.start evf (Or.inl (jj 7 _ rfl))
  have AD : Sta s s.heap "java/lang/StringUTF16" "$assertionsDisabled" "Z" (.int 1) := Sta.start (own_steq (jj 12 _ rfl)) (Or.inl (jj 11 _ rfl))
  have HI : Sta s s.heap "java/lang/StringUTF16" "HI_BYTE_SHIFT" "I" (.int 0) := Sta.start (own_steq (jj 15 _ rfl)) (Or.inl (jj 14 _ rfl))
  have LO : Sta s s.heap "java/lang/StringUTF16" "LO_BYTE_SHIFT" "I" (.int 8) := Sta.start (own_steq (jj 18 _ rfl)) (Or.inl (jj 17 _ rfl))
  have hcst : Jvm.Lit.constHeld s "java/lang/String" 7 := hcalls.1 ("java/lang/String", 7) (List.mem_singleton.mpr rfl)
  obtain ⟨n, o, h1, h2, h3, _, L, rfl, ⟨rfl, N⟩, hq⟩ := rm0 l s _ hw tables_1 i0 i1 i2 i3 i4  s.heap s.heap.size (Nat.le_refl _) cs fm ⟨hcs, hfm, CS, AD, HI, LO, FM⟩ (Old.start s) hcst j2 p e ha hc hk s m _ below hf ((Spec.applies_iff_loose hf).mp happ).1 ⟨rfl, State.Warmed39.refl s, rfl, IB.start⟩ trivial
  refine ⟨n, _, h1, h2, h3, hpost _ _ _ _ _ _ ⟨Cond.after_iff.mpr rfl, Cond.after_iff.mpr (eq_i res_at (Term.int_eval (1)) rfl), trivial⟩ ⟨hq.1, hq.2.1, hq.2.2.1, (hq.2.2.2.sift fun y hy => Or.inr (N y hy)).mono (by decide) (by decide)⟩⟩
theorem main_1_1 : Claimed_1_1 := comes_1 fun _ _ _ _ _ _ h hF => ⟨h.1, hF⟩
theorem main_1_2 : Claimed_1_2 := comes_1 fun _ _ _ _ _ _ h hF => ⟨h.2.1, hF⟩
end Jvm.Pilot.@@N@@
namespace Jvm.Pilot.@@N@@
open Jvm Jvm.ClassFile Sem Op Lib Jvm.Free Jvm.Stand Jvm.Pilot.@@N@@.Jvm.D
/-! MADE BY PROGRAM (witnessworld.py) out of the Statement's table words and the real class files: 21 classes; the members and pool entries that the words name. The judged class is class 1, her method 4. -/
namespace start1
open Jvm.ClassFile
def u (s : String) : CpInfo := .utf8 (stringToUtf16 s)
/-- a pool by its gaps: so many unusable entries, then the entry; so many at the end -/
def gap : Nat → List CpInfo → List CpInfo
  | 0, r => r
  | n + 1, r => .unusable :: gap n r
def poolList (es : List (Nat × CpInfo)) (last : Nat) : List CpInfo := es.foldr (fun e r => gap e.1 (e.2 :: r)) (gap last [])
def pool (es : List (Nat × CpInfo)) (last : Nat) : Array CpInfo := ⟨poolList es last⟩
def fileOf (pool : Array CpInfo) (this : Nat) (attrs : Array Attribute := #[]) (ms : Array MethodInfo := #[]) (fl : Nat := 33) (sup : Nat := 0) (ifs : Array Nat := #[]) (fds : Array FieldInfo := #[]) : ClassFile where
  minorVersion := 0
  majorVersion := 65
  constantPool := pool
  accessFlags := fl
  thisClass := this
  superClass := sup
  interfaces := ifs
  fields := fds
  methods := ms
  attributes := attrs
def plain (name : String) (sup : Option ClassId) : Class where
  name := name
  kind := .ordinary
  loader := none
  accessFlags := 33
  super := sup
  interfaces := #[]
  cf := none
  fields := #[]
  methods := #[]
  instanceTypes := #[]
  staticTypes := #[]
  resolved := #[]
  callSites := []
  init := .initialized
  statics := none
  mirror := none

def pool0 : Array CpInfo := pool [(5, u "<init>"), (0, u "()V"), (1, .class_ 10), (1, u "java/lang/Object")] 113

def k0c0 : Code := { maxStack := 0, maxLocals := 1, code := object_method_1_code, exceptionTable := #[], attributes := #[] }
def k0m0 : Method := { name := "<init>", desc := "()V", sig := { parameters := [], returnType := none }, accessFlags := 1, code := some k0c0 }
/-- java/lang/Object -/
def k0 : Class := { plain "java/lang/Object" none with
  accessFlags := 33
  interfaces := #[]
  cf := some (fileOf pool0 8 #[] #[{ accessFlags := 1, nameIndex := 5, descriptorIndex := 6, attributes := #[] }] 33 0 #[] #[])
  fields := #[]
  methods := #[k0m0]
  instanceTypes := #[]
  staticTypes := #[]
  resolved := Array.replicate 124 none
  statics := none }

def pool1 : Array CpInfo := pool [(2, .class_ 4), (1, u "java/lang/Object"), (0, u "<init>"), (0, u "()V"), (0, .class_ 8), (0, u "java/lang/String"), (0, .methodref 7 10), (0, .nameAndType 5 11), (0, u "([C)V"), (0, .integer 2147483647), (0, .methodref 14 15), (0, .class_ 16), (0, .nameAndType 17 18), (0, u "com/example/pathgauge/pathgauge/expression/PredicateIsWritablePinLaw"), (0, u "pick"), (0, u "(I)C"), (0, .methodref 14 20), (0, .nameAndType 21 22), (0, u "make"), (0, u "(ICCCC)Ljava/lang/String;"), (0, .methodref 14 24), (0, .nameAndType 25 26), (0, u "has"), (0, u "(ICCCCC)Z"), (0, .methodref 28 29), (0, .class_ 30), (0, .nameAndType 31 32), (0, u "com/example/pathgauge/pathgauge/expression/Predicate"), (0, u "isWritable"), (0, u "(Ljava/lang/String;)Z"), (3, u "law"), (0, u "(IIIII)Z")] 2

def k1m0 : Method := { name := "<init>", desc := "()V", sig := { parameters := [], returnType := none }, accessFlags := 2, code := none }
def k1c1 : Code := { maxStack := 2, maxLocals := 2, code := method_2_code, exceptionTable := #[], attributes := #[] }
def k1m1 : Method := { name := "pick", desc := "(I)C", sig := { parameters := [.int], returnType := some .char }, accessFlags := 10, code := some k1c1 }
def k1c2 : Code := { maxStack := 6, maxLocals := 5, code := method_3_code, exceptionTable := #[], attributes := #[] }
def k1m2 : Method := { name := "make", desc := "(ICCCC)Ljava/lang/String;", sig := { parameters := [.int, .char, .char, .char, .char], returnType := some (.object "java/lang/String") }, accessFlags := 10, code := some k1c2 }
def k1c3 : Code := { maxStack := 2, maxLocals := 6, code := method_4_code, exceptionTable := #[], attributes := #[] }
def k1m3 : Method := { name := "has", desc := "(ICCCCC)Z", sig := { parameters := [.int, .char, .char, .char, .char, .char], returnType := some .boolean }, accessFlags := 10, code := some k1c3 }
def k1c4 : Code := { maxStack := 6, maxLocals := 14, code := code, exceptionTable := #[], attributes := #[] }
def k1m4 : Method := { name := "law", desc := "(IIIII)Z", sig := { parameters := [.int, .int, .int, .int, .int], returnType := some .boolean }, accessFlags := 9, code := some k1c4 }
/-- com/example/pathgauge/pathgauge/expression/PredicateIsWritablePinLaw -/
def k1 : Class := { plain "com/example/pathgauge/pathgauge/expression/PredicateIsWritablePinLaw" (some 0) with
  accessFlags := 49
  interfaces := #[]
  cf := some (fileOf pool1 14 #[] #[{ accessFlags := 2, nameIndex := 5, descriptorIndex := 6, attributes := #[] }, { accessFlags := 10, nameIndex := 17, descriptorIndex := 18, attributes := #[] }, { accessFlags := 10, nameIndex := 21, descriptorIndex := 22, attributes := #[] }, { accessFlags := 10, nameIndex := 25, descriptorIndex := 26, attributes := #[] }, { accessFlags := 9, nameIndex := 36, descriptorIndex := 37, attributes := #[] }] 49 2 #[] #[])
  fields := #[]
  methods := #[k1m0, k1m1, k1m2, k1m3, k1m4]
  instanceTypes := #[]
  staticTypes := #[]
  resolved := Array.replicate 40 none
  statics := none }

def pool2 : Array CpInfo := pool [(1, .class_ 2), (0, u "java/io/Serializable"), (0, .class_ 4), (0, u "java/lang/Object")] 2

/-- java/io/Serializable -/
def k2 : Class := { plain "java/io/Serializable" (some 0) with
  accessFlags := 1537
  interfaces := #[]
  cf := some (fileOf pool2 1 #[] #[] 1537 3 #[] #[])
  fields := #[]
  methods := #[]
  instanceTypes := #[]
  staticTypes := #[]
  resolved := Array.replicate 7 none
  statics := none }

def pool3 : Array CpInfo := pool [(1, .class_ 2), (0, u "java/lang/Comparable"), (0, .class_ 4), (0, u "java/lang/Object")] 7

/-- java/lang/Comparable -/
def k3 : Class := { plain "java/lang/Comparable" (some 0) with
  accessFlags := 1537
  interfaces := #[]
  cf := some (fileOf pool3 1 #[] #[] 1537 3 #[] #[])
  fields := #[]
  methods := #[]
  instanceTypes := #[]
  staticTypes := #[]
  resolved := Array.replicate 12 none
  statics := none }

def pool4 : Array CpInfo := pool [(2, .class_ 4), (1, u "java/lang/CharSequence"), (42, .class_ 48), (0, u "java/lang/CharSequence$1CodePointIterator"), (10, .class_ 60), (0, u "java/lang/CharSequence$1CharIterator"), (5, .class_ 67), (0, u "java/lang/Object")] 63

/-- java/lang/CharSequence -/
def k4 : Class := { plain "java/lang/CharSequence" (some 0) with
  accessFlags := 1537
  interfaces := #[]
  cf := some (fileOf pool4 2 #[.nestMembers #[47, 59]] #[] 1537 66 #[] #[])
  fields := #[]
  methods := #[]
  instanceTypes := #[]
  staticTypes := #[]
  resolved := Array.replicate 131 none
  statics := none }

def pool5 : Array CpInfo := pool [(1, .class_ 2), (0, u "java/lang/constant/Constable"), (0, .class_ 4), (0, u "java/lang/Object")] 6

/-- java/lang/constant/Constable -/
def k5 : Class := { plain "java/lang/constant/Constable" (some 0) with
  accessFlags := 1537
  interfaces := #[]
  cf := some (fileOf pool5 1 #[] #[] 1537 3 #[] #[])
  fields := #[]
  methods := #[]
  instanceTypes := #[]
  staticTypes := #[]
  resolved := Array.replicate 11 none
  statics := none }

def pool6 : Array CpInfo := pool [(1, .class_ 2), (0, u "java/lang/constant/ConstantDesc"), (0, .class_ 4), (0, u "java/lang/Object")] 32

/-- java/lang/constant/ConstantDesc -/
def k6 : Class := { plain "java/lang/constant/ConstantDesc" (some 0) with
  accessFlags := 1537
  interfaces := #[]
  cf := some (fileOf pool6 1 #[] #[] 1537 3 #[] #[])
  fields := #[]
  methods := #[]
  instanceTypes := #[]
  staticTypes := #[]
  resolved := Array.replicate 37 none
  statics := none }

def pool7 : Array CpInfo := pool [(1, .methodref 2 3), (0, .class_ 4), (0, .nameAndType 5 6), (0, u "java/lang/Object"), (0, u "<init>"), (0, u "()V"), (0, .string 8), (0, u ""), (0, .fieldref 10 11), (0, .class_ 12), (0, .nameAndType 13 14), (0, u "java/lang/String"), (0, u "value"), (0, u "[B"), (0, .fieldref 10 16), (0, .nameAndType 17 18), (0, u "coder"), (0, u "B"), (2, u "hash"), (0, u "I"), (2, u "hashIsZero"), (0, u "Z"), (0, .methodref 10 28), (0, .nameAndType 5 29), (0, u "([CIILjava/lang/Void;)V"), (8, .fieldref 10 39), (0, .nameAndType 40 26), (0, u "COMPACT_STRINGS"), (1, .class_ 44), (1, u "java/lang/StringUTF16"), (0, u "compress"), (1, .methodref 42 48), (0, .nameAndType 49 50), (0, u "coderFromArrayLen"), (0, u "([BI)B"), (56, .class_ 109), (1, u "java/lang/StringLatin1"), (32, u "()Z"), (34, .methodref 42 178), (0, .nameAndType 45 179), (0, u "([CII)[B"), (154, u "()I"), (0, .methodref 10 336), (0, .nameAndType 17 337), (0, u "()B"), (154, .methodref 10 493), (0, .nameAndType 494 142), (0, u "isLatin1"), (10, .methodref 10 506), (0, .nameAndType 507 334), (0, u "length"), (5, u "checkFromToIndex"), (9, u "checkBoundsBeginEnd"), (0, u "(III)V"), (50, .class_ 576), (0, u "java/lang/CharSequence"), (22, u "CASE_INSENSITIVE_ORDER"), (0, u "Ljava/util/Comparator;"), (32, .methodref 10 634), (0, .nameAndType 635 636), (0, u "indexOf"), (0, u "(II)I"), (0, .methodref 107 638), (0, .nameAndType 635 639), (0, u "([BIII)I"), (0, .methodref 42 638), (124, u "(I)I"), (244, u "([C)V"), (42, .fieldref 1054 1055), (0, .class_ 1056), (0, .nameAndType 1057 1058), (0, u "jdk/internal/util/Preconditions"), (0, u "SIOOBE_FORMATTER"), (0, u "Ljava/util/function/BiFunction;"), (3, .methodref 1054 1063), (0, .nameAndType 513 1064), (0, u "(IIILjava/util/function/BiFunction;)I"), (36, u "serialPersistentFields"), (0, u "[Ljava/io/ObjectStreamField;"), (0, .class_ 1104), (0, u "java/lang/String$CaseInsensitiveComparator"), (1, .class_ 1107), (0, u "java/io/Serializable"), (0, .class_ 1109), (0, u "java/lang/Comparable"), (0, .class_ 1111), (0, u "java/lang/constant/Constable"), (0, .class_ 1113), (0, u "java/lang/constant/ConstantDesc"), (2, u "serialVersionUID"), (0, u "J"), (3, u "REPL"), (0, u "C"), (2, u "LATIN1"), (1, u "UTF16")] 323

def k7m0 : Method := { name := "<init>", desc := "()V", sig := { parameters := [], returnType := none }, accessFlags := 1, code := none }
def k7c1 : Code := { maxStack := 5, maxLocals := 2, code := jdk_42_method_3_code, exceptionTable := #[], attributes := #[] }
def k7m1 : Method := { name := "<init>", desc := "([C)V", sig := { parameters := [(.array .char)], returnType := none }, accessFlags := 1, code := some k7c1 }
def k7c2 : Code := { maxStack := 2, maxLocals := 1, code := jdk_42_method_54_code, exceptionTable := #[], attributes := #[] }
def k7m2 : Method := { name := "length", desc := "()I", sig := { parameters := [], returnType := some .int }, accessFlags := 1, code := some k7c2 }
def k7c3 : Code := { maxStack := 3, maxLocals := 2, code := jdk_42_method_79_code, exceptionTable := #[], attributes := #[] }
def k7m3 : Method := { name := "indexOf", desc := "(I)I", sig := { parameters := [.int], returnType := some .int }, accessFlags := 1, code := some k7c3 }
def k7c4 : Code := { maxStack := 4, maxLocals := 3, code := jdk_42_method_80_code, exceptionTable := #[], attributes := #[] }
def k7m4 : Method := { name := "indexOf", desc := "(II)I", sig := { parameters := [.int, .int], returnType := some .int }, accessFlags := 1, code := some k7c4 }
def k7c5 : Code := { maxStack := 4, maxLocals := 6, code := jdk_42_method_149_code, exceptionTable := #[], attributes := #[] }
def k7m5 : Method := { name := "<init>", desc := "([CIILjava/lang/Void;)V", sig := { parameters := [(.array .char), .int, .int, (.object "java/lang/Void")], returnType := none }, accessFlags := 2, code := some k7c5 }
def k7c6 : Code := { maxStack := 1, maxLocals := 1, code := jdk_42_method_152_code, exceptionTable := #[], attributes := #[] }
def k7m6 : Method := { name := "coder", desc := "()B", sig := { parameters := [], returnType := some .byte }, accessFlags := 0, code := some k7c6 }
def k7c7 : Code := { maxStack := 1, maxLocals := 1, code := jdk_42_method_154_code, exceptionTable := #[], attributes := #[] }
def k7m7 : Method := { name := "isLatin1", desc := "()Z", sig := { parameters := [], returnType := some .boolean }, accessFlags := 0, code := some k7c7 }
def k7c8 : Code := { maxStack := 4, maxLocals := 3, code := jdk_42_method_158_code, exceptionTable := #[], attributes := #[] }
def k7m8 : Method := { name := "checkBoundsBeginEnd", desc := "(III)V", sig := { parameters := [.int, .int, .int], returnType := none }, accessFlags := 8, code := some k7c8 }
/-- java/lang/String -/
def k7 : Class := { plain "java/lang/String" (some 0) with
  accessFlags := 49
  interfaces := #[2, 3, 4, 5, 6]
  cf := some (fileOf pool7 10 #[.nestMembers #[1103]] #[{ accessFlags := 1, nameIndex := 5, descriptorIndex := 6, attributes := #[] }, { accessFlags := 1, nameIndex := 5, descriptorIndex := 1010, attributes := #[] }, { accessFlags := 1, nameIndex := 507, descriptorIndex := 334, attributes := #[] }, { accessFlags := 1, nameIndex := 635, descriptorIndex := 765, attributes := #[] }, { accessFlags := 1, nameIndex := 635, descriptorIndex := 636, attributes := #[] }, { accessFlags := 2, nameIndex := 5, descriptorIndex := 29, attributes := #[] }, { accessFlags := 0, nameIndex := 17, descriptorIndex := 337, attributes := #[] }, { accessFlags := 0, nameIndex := 494, descriptorIndex := 142, attributes := #[] }, { accessFlags := 8, nameIndex := 523, descriptorIndex := 524, attributes := #[] }] 49 2 #[1106, 1108, 575, 1110, 1112] #[{ accessFlags := 18, nameIndex := 13, descriptorIndex := 14, attributes := #[] }, { accessFlags := 18, nameIndex := 17, descriptorIndex := 18, attributes := #[] }, { accessFlags := 2, nameIndex := 21, descriptorIndex := 22, attributes := #[] }, { accessFlags := 2, nameIndex := 25, descriptorIndex := 26, attributes := #[] }, { accessFlags := 26, nameIndex := 1116, descriptorIndex := 1117, attributes := #[] }, { accessFlags := 24, nameIndex := 40, descriptorIndex := 26, attributes := #[] }, { accessFlags := 26, nameIndex := 1101, descriptorIndex := 1102, attributes := #[] }, { accessFlags := 26, nameIndex := 1121, descriptorIndex := 1122, attributes := #[] }, { accessFlags := 25, nameIndex := 599, descriptorIndex := 600, attributes := #[] }, { accessFlags := 24, nameIndex := 1125, descriptorIndex := 18, attributes := #[] }, { accessFlags := 24, nameIndex := 1127, descriptorIndex := 18, attributes := #[] }])
  fields := #[{ name := "value", type := (.array .byte), accessFlags := 18, slot := 0, constantValue := 0 }, { name := "coder", type := .byte, accessFlags := 18, slot := 1, constantValue := 0 }, { name := "hash", type := .int, accessFlags := 2, slot := 2, constantValue := 0 }, { name := "hashIsZero", type := .boolean, accessFlags := 2, slot := 3, constantValue := 0 }, { name := "serialVersionUID", type := .long, accessFlags := 26, slot := 0, constantValue := 0 }, { name := "COMPACT_STRINGS", type := .boolean, accessFlags := 24, slot := 1, constantValue := 0 }, { name := "serialPersistentFields", type := (.array (.object "java/io/ObjectStreamField")), accessFlags := 26, slot := 2, constantValue := 0 }, { name := "REPL", type := .char, accessFlags := 26, slot := 3, constantValue := 0 }, { name := "CASE_INSENSITIVE_ORDER", type := (.object "java/util/Comparator"), accessFlags := 25, slot := 4, constantValue := 0 }, { name := "LATIN1", type := .byte, accessFlags := 24, slot := 5, constantValue := 0 }, { name := "UTF16", type := .byte, accessFlags := 24, slot := 6, constantValue := 0 }]
  methods := #[k7m0, k7m1, k7m2, k7m3, k7m4, k7m5, k7m6, k7m7, k7m8]
  instanceTypes := #[(.array .byte), .byte, .int, .boolean]
  staticTypes := #[.long, .boolean, (.array (.object "java/io/ObjectStreamField")), .char, (.object "java/util/Comparator"), .byte, .byte]
  resolved := Array.replicate 1451 none
  statics := some 0 }

def pool8 : Array CpInfo := pool [(2, .class_ 4), (1, u "java/lang/Object"), (3, .class_ 10), (1, u "com/example/pathgauge/pathgauge/expression/Predicate"), (0, u "value"), (0, u "Ljava/lang/String;"), (2, u "value"), (4, .methodref 21 22), (0, .class_ 23), (0, .nameAndType 24 25), (0, u "java/lang/String"), (0, u "indexOf"), (0, u "(I)I"), (2, u "isWritable"), (0, u "(Ljava/lang/String;)Z")] 51

def k8c0 : Code := { maxStack := 2, maxLocals := 1, code := prog_20_method_4_code, exceptionTable := #[], attributes := #[] }
def k8m0 : Method := { name := "isWritable", desc := "(Ljava/lang/String;)Z", sig := { parameters := [(.object "java/lang/String")], returnType := some .boolean }, accessFlags := 9, code := some k8c0 }
/-- com/example/pathgauge/pathgauge/expression/Predicate -/
def k8 : Class := { plain "com/example/pathgauge/pathgauge/expression/Predicate" (some 0) with
  accessFlags := 49
  interfaces := #[]
  cf := some (fileOf pool8 8 #[] #[{ accessFlags := 9, nameIndex := 28, descriptorIndex := 29, attributes := #[] }] 49 2 #[] #[])
  fields := #[]
  methods := #[k8m0]
  instanceTypes := #[]
  staticTypes := #[]
  resolved := Array.replicate 81 none
  statics := none }

def pool9 : Array CpInfo := pool [(4, .class_ 6), (1, u "java/lang/Object"), (0, u "<init>"), (0, u "()V"), (5, .class_ 16), (1, u "java/lang/StringLatin1"), (21, .methodref 39 40), (0, .class_ 41), (0, .nameAndType 42 43), (0, u "java/lang/Math"), (0, u "min"), (0, u "(II)I"), (44, .methodref 14 89), (0, .nameAndType 90 91), (0, u "canEncode"), (0, u "(I)Z"), (0, .methodref 39 93), (0, .nameAndType 94 43), (0, u "max"), (0, .methodref 14 96), (0, .nameAndType 97 98), (0, u "indexOfChar"), (0, u "([BIII)I"), (2, u "indexOf"), (19, u "$assertionsDisabled"), (0, u "Z"), (98, .class_ 223), (1, u "java/lang/StringLatin1$LinesSpliterator"), (166, .class_ 391), (0, u "java/lang/StringLatin1$CharsSpliterator")] 3

def k9m0 : Method := { name := "<init>", desc := "()V", sig := { parameters := [], returnType := none }, accessFlags := 0, code := none }
def k9c1 : Code := { maxStack := 2, maxLocals := 1, code := jdk_43_method_4_code, exceptionTable := #[], attributes := #[] }
def k9m1 : Method := { name := "canEncode", desc := "(I)Z", sig := { parameters := [.int], returnType := some .boolean }, accessFlags := 9, code := some k9c1 }
def k9c2 : Code := { maxStack := 4, maxLocals := 4, code := jdk_43_method_22_code, exceptionTable := #[], attributes := #[] }
def k9m2 : Method := { name := "indexOf", desc := "([BIII)I", sig := { parameters := [(.array .byte), .int, .int, .int], returnType := some .int }, accessFlags := 9, code := some k9c2 }
def k9c3 : Code := { maxStack := 2, maxLocals := 6, code := jdk_43_method_23_code, exceptionTable := #[], attributes := #[] }
def k9m3 : Method := { name := "indexOfChar", desc := "([BIII)I", sig := { parameters := [(.array .byte), .int, .int, .int], returnType := some .int }, accessFlags := 10, code := some k9c3 }
/-- java/lang/StringLatin1 -/
def k9 : Class := { plain "java/lang/StringLatin1" (some 0) with
  accessFlags := 48
  interfaces := #[]
  cf := some (fileOf pool9 14 #[.nestMembers #[390, 221]] #[{ accessFlags := 0, nameIndex := 7, descriptorIndex := 8, attributes := #[] }, { accessFlags := 9, nameIndex := 90, descriptorIndex := 91, attributes := #[] }, { accessFlags := 9, nameIndex := 101, descriptorIndex := 98, attributes := #[] }, { accessFlags := 10, nameIndex := 97, descriptorIndex := 98, attributes := #[] }] 48 4 #[] #[{ accessFlags := 4120, nameIndex := 121, descriptorIndex := 122, attributes := #[] }])
  fields := #[{ name := "$assertionsDisabled", type := .boolean, accessFlags := 4120, slot := 0, constantValue := 0 }]
  methods := #[k9m0, k9m1, k9m2, k9m3]
  instanceTypes := #[]
  staticTypes := #[.boolean]
  resolved := Array.replicate 395 none
  statics := none }

def pool10 : Array CpInfo := pool [(1, .class_ 2), (0, u "java/lang/Math"), (1, .class_ 6), (1, u "java/lang/Object"), (0, u "<init>"), (0, u "()V"), (89, .class_ 100), (1, u "java/lang/Math$RandomNumberGeneratorHolder"), (71, u "negativeZeroFloatBits"), (0, u "J"), (2, u "negativeZeroDoubleBits"), (21, u "max"), (2, u "min"), (43, u "$assertionsDisabled"), (0, u "Z"), (88, u "(II)I"), (2, u "twoToTheDoubleScaleDown"), (0, u "D"), (4, u "twoToTheDoubleScaleUp"), (9, u "E"), (3, u "PI"), (2, u "TAU"), (2, u "DEGREES_TO_RADIANS"), (0, u "RADIANS_TO_DEGREES")] 94

def k10m0 : Method := { name := "<init>", desc := "()V", sig := { parameters := [], returnType := none }, accessFlags := 2, code := none }
def k10c1 : Code := { maxStack := 2, maxLocals := 2, code := jdk_29_method_65_code, exceptionTable := #[], attributes := #[] }
def k10m1 : Method := { name := "max", desc := "(II)I", sig := { parameters := [.int, .int], returnType := some .int }, accessFlags := 9, code := some k10c1 }
def k10c2 : Code := { maxStack := 2, maxLocals := 2, code := jdk_29_method_69_code, exceptionTable := #[], attributes := #[] }
def k10m2 : Method := { name := "min", desc := "(II)I", sig := { parameters := [.int, .int], returnType := some .int }, accessFlags := 9, code := some k10c2 }
/-- java/lang/Math -/
def k10 : Class := { plain "java/lang/Math" (some 0) with
  accessFlags := 49
  interfaces := #[]
  cf := some (fileOf pool10 1 #[.nestMembers #[98]] #[{ accessFlags := 2, nameIndex := 7, descriptorIndex := 8, attributes := #[] }, { accessFlags := 9, nameIndex := 198, descriptorIndex := 335, attributes := #[] }, { accessFlags := 9, nameIndex := 201, descriptorIndex := 335, attributes := #[] }] 49 4 #[] #[{ accessFlags := 25, nameIndex := 354, descriptorIndex := 339, attributes := #[] }, { accessFlags := 25, nameIndex := 358, descriptorIndex := 339, attributes := #[] }, { accessFlags := 25, nameIndex := 361, descriptorIndex := 339, attributes := #[] }, { accessFlags := 26, nameIndex := 364, descriptorIndex := 339, attributes := #[] }, { accessFlags := 26, nameIndex := 365, descriptorIndex := 339, attributes := #[] }, { accessFlags := 26, nameIndex := 172, descriptorIndex := 173, attributes := #[] }, { accessFlags := 26, nameIndex := 176, descriptorIndex := 173, attributes := #[] }, { accessFlags := 8, nameIndex := 344, descriptorIndex := 339, attributes := #[] }, { accessFlags := 8, nameIndex := 338, descriptorIndex := 339, attributes := #[] }, { accessFlags := 4120, nameIndex := 245, descriptorIndex := 246, attributes := #[] }])
  fields := #[{ name := "E", type := .double, accessFlags := 25, slot := 0, constantValue := 0 }, { name := "PI", type := .double, accessFlags := 25, slot := 1, constantValue := 0 }, { name := "TAU", type := .double, accessFlags := 25, slot := 2, constantValue := 0 }, { name := "DEGREES_TO_RADIANS", type := .double, accessFlags := 26, slot := 3, constantValue := 0 }, { name := "RADIANS_TO_DEGREES", type := .double, accessFlags := 26, slot := 4, constantValue := 0 }, { name := "negativeZeroFloatBits", type := .long, accessFlags := 26, slot := 5, constantValue := 0 }, { name := "negativeZeroDoubleBits", type := .long, accessFlags := 26, slot := 6, constantValue := 0 }, { name := "twoToTheDoubleScaleUp", type := .double, accessFlags := 8, slot := 7, constantValue := 0 }, { name := "twoToTheDoubleScaleDown", type := .double, accessFlags := 8, slot := 8, constantValue := 0 }, { name := "$assertionsDisabled", type := .boolean, accessFlags := 4120, slot := 9, constantValue := 0 }]
  methods := #[k10m0, k10m1, k10m2]
  instanceTypes := #[]
  staticTypes := #[.double, .double, .double, .double, .double, .long, .long, .double, .double, .boolean]
  resolved := Array.replicate 460 none
  statics := none }

def pool11 : Array CpInfo := pool [(3, .class_ 4), (0, u "java/lang/String"), (1, .class_ 8), (1, u "java/lang/Object"), (0, u "<init>"), (0, u "()V"), (0, .methodref 12 13), (0, .class_ 14), (0, .nameAndType 15 16), (0, u "java/lang/StringUTF16"), (0, u "newBytesLength"), (0, u "(I)I"), (3, .integer 1073741823), (23, .fieldref 12 45), (0, .nameAndType 46 47), (0, u "$assertionsDisabled"), (0, u "Z"), (0, .methodref 12 49), (0, .nameAndType 50 51), (0, u "length"), (0, u "([B)I"), (7, .fieldref 12 60), (0, .nameAndType 61 62), (0, u "HI_BYTE_SHIFT"), (0, u "I"), (0, .fieldref 12 64), (0, .nameAndType 65 62), (0, u "LO_BYTE_SHIFT"), (5, .methodref 12 72), (0, .nameAndType 73 74), (0, u "getChar"), (0, u "([BI)C"), (21, .methodref 12 97), (0, .nameAndType 98 99), (0, u "checkBoundsBeginEnd"), (0, u "(II[B)V"), (7, .methodref 12 108), (0, .nameAndType 109 110), (0, u "newBytesFor"), (0, u "(I)[B"), (0, .methodref 12 112), (0, .nameAndType 113 114), (0, u "putChar"), (0, u "([BII)V"), (0, .methodref 12 116), (0, .nameAndType 117 118), (0, u "compress"), (0, u "([CI[BII)I"), (0, .methodref 12 120), (0, .nameAndType 121 122), (0, u "toBytes"), (0, u "([CII)[B"), (60, .methodref 184 185), (0, .class_ 186), (0, .nameAndType 187 188), (0, u "java/lang/Math"), (0, u "min"), (0, u "(II)I"), (35, .methodref 184 225), (0, .nameAndType 226 188), (0, u "max"), (0, .integer 65536), (0, .methodref 12 229), (0, .nameAndType 230 231), (0, u "indexOfChar"), (0, u "([BIII)I"), (9, .methodref 3 242), (0, .nameAndType 98 243), (0, u "(III)V"), (0, .methodref 12 245), (0, .nameAndType 246 231), (0, u "indexOfCharUnsafe"), (14, u "coderFromArrayLen"), (0, u "([BI)B"), (5, u "indexOf"), (100, .class_ 371), (1, u "java/lang/StringUTF16$LinesSpliterator"), (58, u "MAX_LENGTH"), (196, .class_ 628), (0, u "java/lang/StringUTF16$CodePointsSpliterator"), (0, .class_ 630), (0, u "java/lang/StringUTF16$CharsSpliterator")] 4

def k11m0 : Method := { name := "<init>", desc := "()V", sig := { parameters := [], returnType := none }, accessFlags := 0, code := none }
def k11c1 : Code := { maxStack := 1, maxLocals := 1, code := jdk_52_method_2_code, exceptionTable := #[], attributes := #[] }
def k11m1 : Method := { name := "newBytesFor", desc := "(I)[B", sig := { parameters := [.int], returnType := some (.array .byte) }, accessFlags := 9, code := some k11c1 }
def k11c2 : Code := { maxStack := 4, maxLocals := 1, code := jdk_52_method_3_code, exceptionTable := #[], attributes := #[] }
def k11m2 : Method := { name := "newBytesLength", desc := "(I)I", sig := { parameters := [.int], returnType := some .int }, accessFlags := 9, code := some k11c2 }
def k11c3 : Code := { maxStack := 4, maxLocals := 3, code := jdk_52_method_4_code, exceptionTable := #[], attributes := #[] }
def k11m3 : Method := { name := "putChar", desc := "([BII)V", sig := { parameters := [(.array .byte), .int, .int], returnType := none }, accessFlags := 8, code := some k11c3 }
def k11c4 : Code := { maxStack := 3, maxLocals := 2, code := jdk_52_method_5_code, exceptionTable := #[], attributes := #[] }
def k11m4 : Method := { name := "getChar", desc := "([BI)C", sig := { parameters := [(.array .byte), .int], returnType := some .char }, accessFlags := 8, code := some k11c4 }
def k11c5 : Code := { maxStack := 2, maxLocals := 1, code := jdk_52_method_6_code, exceptionTable := #[], attributes := #[] }
def k11m5 : Method := { name := "length", desc := "([B)I", sig := { parameters := [(.array .byte)], returnType := some .int }, accessFlags := 9, code := some k11c5 }
def k11c6 : Code := { maxStack := 4, maxLocals := 5, code := jdk_52_method_14_code, exceptionTable := #[], attributes := #[] }
def k11m6 : Method := { name := "toBytes", desc := "([CII)[B", sig := { parameters := [(.array .char), .int, .int], returnType := some (.array .byte) }, accessFlags := 9, code := some k11c6 }
def k11c7 : Code := { maxStack := 2, maxLocals := 2, code := jdk_52_method_15_code, exceptionTable := #[], attributes := #[] }
def k11m7 : Method := { name := "coderFromArrayLen", desc := "([BI)B", sig := { parameters := [(.array .byte), .int], returnType := some .byte }, accessFlags := 8, code := some k11c7 }
def k11c8 : Code := { maxStack := 5, maxLocals := 6, code := jdk_52_method_16_code, exceptionTable := #[], attributes := #[] }
def k11m8 : Method := { name := "compress", desc := "([CII)[B", sig := { parameters := [(.array .char), .int, .int], returnType := some (.array .byte) }, accessFlags := 9, code := some k11c8 }
def k11c9 : Code := { maxStack := 3, maxLocals := 7, code := jdk_52_method_21_code, exceptionTable := #[], attributes := #[] }
def k11m9 : Method := { name := "compress", desc := "([CI[BII)I", sig := { parameters := [(.array .char), .int, (.array .byte), .int, .int], returnType := some .int }, accessFlags := 9, code := some k11c9 }
def k11c10 : Code := { maxStack := 4, maxLocals := 4, code := jdk_52_method_40_code, exceptionTable := #[], attributes := #[] }
def k11m10 : Method := { name := "indexOf", desc := "([BIII)I", sig := { parameters := [(.array .byte), .int, .int, .int], returnType := some .int }, accessFlags := 9, code := some k11c10 }
def k11c11 : Code := { maxStack := 4, maxLocals := 4, code := jdk_52_method_47_code, exceptionTable := #[], attributes := #[] }
def k11m11 : Method := { name := "indexOfChar", desc := "([BIII)I", sig := { parameters := [(.array .byte), .int, .int, .int], returnType := some .int }, accessFlags := 10, code := some k11c11 }
def k11c12 : Code := { maxStack := 2, maxLocals := 5, code := jdk_52_method_48_code, exceptionTable := #[], attributes := #[] }
def k11m12 : Method := { name := "indexOfCharUnsafe", desc := "([BIII)I", sig := { parameters := [(.array .byte), .int, .int, .int], returnType := some .int }, accessFlags := 10, code := some k11c12 }
def k11c13 : Code := { maxStack := 3, maxLocals := 3, code := jdk_52_method_93_code, exceptionTable := #[], attributes := #[] }
def k11m13 : Method := { name := "checkBoundsBeginEnd", desc := "(II[B)V", sig := { parameters := [.int, .int, (.array .byte)], returnType := none }, accessFlags := 9, code := some k11c13 }
/-- java/lang/StringUTF16 -/
def k11 : Class := { plain "java/lang/StringUTF16" (some 0) with
  accessFlags := 48
  interfaces := #[]
  cf := some (fileOf pool11 12 #[.nestMembers #[627, 629, 369]] #[{ accessFlags := 0, nameIndex := 9, descriptorIndex := 10, attributes := #[] }, { accessFlags := 9, nameIndex := 109, descriptorIndex := 110, attributes := #[] }, { accessFlags := 9, nameIndex := 15, descriptorIndex := 16, attributes := #[] }, { accessFlags := 8, nameIndex := 113, descriptorIndex := 114, attributes := #[] }, { accessFlags := 8, nameIndex := 73, descriptorIndex := 74, attributes := #[] }, { accessFlags := 9, nameIndex := 50, descriptorIndex := 51, attributes := #[] }, { accessFlags := 9, nameIndex := 121, descriptorIndex := 122, attributes := #[] }, { accessFlags := 8, nameIndex := 261, descriptorIndex := 262, attributes := #[] }, { accessFlags := 9, nameIndex := 117, descriptorIndex := 122, attributes := #[] }, { accessFlags := 9, nameIndex := 117, descriptorIndex := 118, attributes := #[] }, { accessFlags := 9, nameIndex := 268, descriptorIndex := 231, attributes := #[] }, { accessFlags := 10, nameIndex := 230, descriptorIndex := 231, attributes := #[] }, { accessFlags := 10, nameIndex := 246, descriptorIndex := 231, attributes := #[] }, { accessFlags := 9, nameIndex := 98, descriptorIndex := 99, attributes := #[] }] 48 6 #[] #[{ accessFlags := 26, nameIndex := 61, descriptorIndex := 62, attributes := #[] }, { accessFlags := 26, nameIndex := 65, descriptorIndex := 62, attributes := #[] }, { accessFlags := 24, nameIndex := 430, descriptorIndex := 62, attributes := #[] }, { accessFlags := 4120, nameIndex := 46, descriptorIndex := 47, attributes := #[] }])
  fields := #[{ name := "HI_BYTE_SHIFT", type := .int, accessFlags := 26, slot := 0, constantValue := 0 }, { name := "LO_BYTE_SHIFT", type := .int, accessFlags := 26, slot := 1, constantValue := 0 }, { name := "MAX_LENGTH", type := .int, accessFlags := 24, slot := 2, constantValue := 0 }, { name := "$assertionsDisabled", type := .boolean, accessFlags := 4120, slot := 3, constantValue := 0 }]
  methods := #[k11m0, k11m1, k11m2, k11m3, k11m4, k11m5, k11m6, k11m7, k11m8, k11m9, k11m10, k11m11, k11m12, k11m13]
  instanceTypes := #[]
  staticTypes := #[.int, .int, .int, .boolean]
  resolved := Array.replicate 635 none
  statics := some 1 }

def pool12 : Array CpInfo := pool [(2, .class_ 4), (1, u "java/lang/Object"), (0, u "<init>"), (0, u "()V"), (17, .class_ 26), (1, u "jdk/internal/util/Preconditions"), (20, u "checkFromToIndex"), (7, .class_ 56), (0, u "jdk/internal/util/Preconditions$4"), (57, .class_ 115), (0, u "jdk/internal/util/Preconditions$1"), (7, u "SIOOBE_FORMATTER"), (0, u "Ljava/util/function/BiFunction;"), (0, .class_ 126), (0, u "jdk/internal/util/Preconditions$2"), (3, u "AIOOBE_FORMATTER"), (0, .class_ 132), (0, u "jdk/internal/util/Preconditions$3"), (3, u "IOOBE_FORMATTER"), (46, u "(IIILjava/util/function/BiFunction;)I")] 10

def k12m0 : Method := { name := "<init>", desc := "()V", sig := { parameters := [], returnType := none }, accessFlags := 1, code := none }
def k12c1 : Code := { maxStack := 4, maxLocals := 4, code := jdk_41_method_12_code, exceptionTable := #[], attributes := #[] }
def k12m1 : Method := { name := "checkFromToIndex", desc := "(IIILjava/util/function/BiFunction;)I", sig := { parameters := [.int, .int, .int, (.object "java/util/function/BiFunction")], returnType := some .int }, accessFlags := 9, code := some k12c1 }
/-- jdk/internal/util/Preconditions -/
def k12 : Class := { plain "jdk/internal/util/Preconditions" (some 0) with
  accessFlags := 33
  interfaces := #[]
  cf := some (fileOf pool12 24 #[.nestMembers #[55, 131, 125, 114]] #[{ accessFlags := 1, nameIndex := 5, descriptorIndex := 6, attributes := #[] }, { accessFlags := 9, nameIndex := 47, descriptorIndex := 183, attributes := #[] }] 33 2 #[] #[{ accessFlags := 25, nameIndex := 123, descriptorIndex := 124, attributes := #[] }, { accessFlags := 25, nameIndex := 130, descriptorIndex := 124, attributes := #[] }, { accessFlags := 25, nameIndex := 136, descriptorIndex := 124, attributes := #[] }])
  fields := #[{ name := "SIOOBE_FORMATTER", type := (.object "java/util/function/BiFunction"), accessFlags := 25, slot := 0, constantValue := 0 }, { name := "AIOOBE_FORMATTER", type := (.object "java/util/function/BiFunction"), accessFlags := 25, slot := 1, constantValue := 0 }, { name := "IOOBE_FORMATTER", type := (.object "java/util/function/BiFunction"), accessFlags := 25, slot := 2, constantValue := 0 }]
  methods := #[k12m0, k12m1]
  instanceTypes := #[]
  staticTypes := #[(.object "java/util/function/BiFunction"), (.object "java/util/function/BiFunction"), (.object "java/util/function/BiFunction")]
  resolved := Array.replicate 194 none
  statics := some 2 }

def pool13 : Array CpInfo := pool [(9, u "<init>"), (6, .class_ 18), (1, u "java/lang/Object"), (0, u "()V"), (1, .class_ 23), (1, u "jdk/internal/util/ArraysSupport"), (0, u "LOG2_ARRAY_LONG_INDEX_SCALE"), (0, u "I"), (2, u "U"), (0, u "Ljdk/internal/misc/Unsafe;"), (8, u "BIG_ENDIAN"), (0, u "Z"), (8, u "LOG2_BYTE_BIT_SIZE"), (4, u "LOG2_ARRAY_INT_INDEX_SCALE"), (54, u "JLA"), (0, u "Ljdk/internal/access/JavaLangAccess;"), (11, u "LOG2_ARRAY_BOOLEAN_INDEX_SCALE"), (9, u "LOG2_ARRAY_BYTE_INDEX_SCALE"), (5, u "LOG2_ARRAY_CHAR_INDEX_SCALE"), (5, u "LOG2_ARRAY_SHORT_INDEX_SCALE"), (18, u "LOG2_ARRAY_FLOAT_INDEX_SCALE"), (24, u "LOG2_ARRAY_DOUBLE_INDEX_SCALE"), (89, u "T_BOOLEAN"), (2, u "T_CHAR"), (1, u "T_FLOAT"), (1, u "T_DOUBLE"), (1, u "T_BYTE"), (1, u "T_SHORT"), (1, u "T_INT"), (1, u "T_LONG"), (1, u "SOFT_MAX_ARRAY_LENGTH")] 83

def k13m0 : Method := { name := "<init>", desc := "()V", sig := { parameters := [], returnType := none }, accessFlags := 2, code := none }
/-- jdk/internal/util/ArraysSupport -/
def k13 : Class := { plain "jdk/internal/util/ArraysSupport" (some 0) with
  accessFlags := 33
  interfaces := #[]
  cf := some (fileOf pool13 21 #[] #[{ accessFlags := 2, nameIndex := 9, descriptorIndex := 19, attributes := #[] }] 33 16 #[] #[{ accessFlags := 24, nameIndex := 28, descriptorIndex := 29, attributes := #[] }, { accessFlags := 26, nameIndex := 38, descriptorIndex := 39, attributes := #[] }, { accessFlags := 25, nameIndex := 121, descriptorIndex := 25, attributes := #[] }, { accessFlags := 25, nameIndex := 131, descriptorIndex := 25, attributes := #[] }, { accessFlags := 25, nameIndex := 137, descriptorIndex := 25, attributes := #[] }, { accessFlags := 25, nameIndex := 143, descriptorIndex := 25, attributes := #[] }, { accessFlags := 25, nameIndex := 53, descriptorIndex := 25, attributes := #[] }, { accessFlags := 25, nameIndex := 24, descriptorIndex := 25, attributes := #[] }, { accessFlags := 25, nameIndex := 162, descriptorIndex := 25, attributes := #[] }, { accessFlags := 25, nameIndex := 187, descriptorIndex := 25, attributes := #[] }, { accessFlags := 26, nameIndex := 48, descriptorIndex := 25, attributes := #[] }, { accessFlags := 25, nameIndex := 277, descriptorIndex := 25, attributes := #[] }, { accessFlags := 25, nameIndex := 280, descriptorIndex := 25, attributes := #[] }, { accessFlags := 25, nameIndex := 282, descriptorIndex := 25, attributes := #[] }, { accessFlags := 25, nameIndex := 284, descriptorIndex := 25, attributes := #[] }, { accessFlags := 25, nameIndex := 286, descriptorIndex := 25, attributes := #[] }, { accessFlags := 25, nameIndex := 288, descriptorIndex := 25, attributes := #[] }, { accessFlags := 25, nameIndex := 290, descriptorIndex := 25, attributes := #[] }, { accessFlags := 25, nameIndex := 292, descriptorIndex := 25, attributes := #[] }, { accessFlags := 26, nameIndex := 108, descriptorIndex := 109, attributes := #[] }, { accessFlags := 25, nameIndex := 294, descriptorIndex := 25, attributes := #[] }])
  fields := #[{ name := "U", type := (.object "jdk/internal/misc/Unsafe"), accessFlags := 24, slot := 0, constantValue := 0 }, { name := "BIG_ENDIAN", type := .boolean, accessFlags := 26, slot := 1, constantValue := 0 }, { name := "LOG2_ARRAY_BOOLEAN_INDEX_SCALE", type := .int, accessFlags := 25, slot := 2, constantValue := 0 }, { name := "LOG2_ARRAY_BYTE_INDEX_SCALE", type := .int, accessFlags := 25, slot := 3, constantValue := 0 }, { name := "LOG2_ARRAY_CHAR_INDEX_SCALE", type := .int, accessFlags := 25, slot := 4, constantValue := 0 }, { name := "LOG2_ARRAY_SHORT_INDEX_SCALE", type := .int, accessFlags := 25, slot := 5, constantValue := 0 }, { name := "LOG2_ARRAY_INT_INDEX_SCALE", type := .int, accessFlags := 25, slot := 6, constantValue := 0 }, { name := "LOG2_ARRAY_LONG_INDEX_SCALE", type := .int, accessFlags := 25, slot := 7, constantValue := 0 }, { name := "LOG2_ARRAY_FLOAT_INDEX_SCALE", type := .int, accessFlags := 25, slot := 8, constantValue := 0 }, { name := "LOG2_ARRAY_DOUBLE_INDEX_SCALE", type := .int, accessFlags := 25, slot := 9, constantValue := 0 }, { name := "LOG2_BYTE_BIT_SIZE", type := .int, accessFlags := 26, slot := 10, constantValue := 0 }, { name := "T_BOOLEAN", type := .int, accessFlags := 25, slot := 11, constantValue := 0 }, { name := "T_CHAR", type := .int, accessFlags := 25, slot := 12, constantValue := 0 }, { name := "T_FLOAT", type := .int, accessFlags := 25, slot := 13, constantValue := 0 }, { name := "T_DOUBLE", type := .int, accessFlags := 25, slot := 14, constantValue := 0 }, { name := "T_BYTE", type := .int, accessFlags := 25, slot := 15, constantValue := 0 }, { name := "T_SHORT", type := .int, accessFlags := 25, slot := 16, constantValue := 0 }, { name := "T_INT", type := .int, accessFlags := 25, slot := 17, constantValue := 0 }, { name := "T_LONG", type := .int, accessFlags := 25, slot := 18, constantValue := 0 }, { name := "JLA", type := (.object "jdk/internal/access/JavaLangAccess"), accessFlags := 26, slot := 19, constantValue := 0 }, { name := "SOFT_MAX_ARRAY_LENGTH", type := .int, accessFlags := 25, slot := 20, constantValue := 0 }]
  methods := #[k13m0]
  instanceTypes := #[]
  staticTypes := #[(.object "jdk/internal/misc/Unsafe"), .boolean, .int, .int, .int, .int, .int, .int, .int, .int, .int, .int, .int, .int, .int, .int, .int, .int, .int, (.object "jdk/internal/access/JavaLangAccess"), .int]
  resolved := Array.replicate 378 none
  statics := none }

def pool14 : Array CpInfo := pool [(1, u "java/lang/Cloneable"), (0, .class_ 1), (0, u "java/lang/Object"), (0, .class_ 3)] 3

/-- java/lang/Cloneable -/
def k14 : Class := { plain "java/lang/Cloneable" (some 0) with
  accessFlags := 1537
  interfaces := #[]
  cf := some (fileOf pool14 2 #[] #[] 1537 4 #[] #[])
  fields := #[]
  methods := #[]
  instanceTypes := #[]
  staticTypes := #[]
  resolved := Array.replicate 8 none
  statics := none }

/-- the primitive byte -/
def k15 : Class := { plain "byte" none with kind := .primitive 'B', accessFlags := 0x411 }
/-- [B -/
def k16 : Class := { plain "[B" (some 0) with kind := .array 15 .byte, interfaces := #[14, 2], accessFlags := 1041 }

/-- the primitive char -/
def k17 : Class := { plain "char" none with kind := .primitive 'C', accessFlags := 0x411 }
/-- [C -/
def k18 : Class := { plain "[C" (some 0) with kind := .array 17 .char, interfaces := #[14, 2], accessFlags := 1041 }

/-- the primitive int -/
def k19 : Class := { plain "int" none with kind := .primitive 'I', accessFlags := 0x411 }
/-- [I -/
def k20 : Class := { plain "[I" (some 0) with kind := .array 19 .int, interfaces := #[14, 2], accessFlags := 1041 }

def heap : Heap := #[{ cls := 7, slots := #[.long 0, .int 1, .null, .int 0, .null, .int 0, .int 0], vm := .statics 7 },
  { cls := 11, slots := #[.int 0, .int 8, .int 0, .int 1], vm := .statics 11 },
  { cls := 12, slots := #[.null, .null, .null], vm := .statics 12 }]
def classes : Array Class := #[k0, k1, k2, k3, k4, k5, k6, k7, k8, k9, k10, k11, k12, k13, k14, k15, k16, k17, k18, k19, k20]
def interned : List (Array UInt16 × Addr) := []
def slotsUsed : Nat := 14
def theMethod : MethodId := ⟨1, 4⟩
def args0 : Array Value := #[.int 5, .int 5, .int 5, .int 5, .int 5]
def aboutOver (below : List Frame) : State where
  vm := { classes := classes, interned := interned.toArray }
  heap := heap
  slotsUsed := slotsUsed
  threads := #[{ frames := .invoking theMethod args0 :: below }]
def below0 : List Frame := [.native { method := ⟨0, 0⟩, args := #[] }]
def about1 : State := aboutOver below0
def p0 : Program := .bare "" "" ""
def e0 : Env := launch0.env 0 0 0
theorem w_frames : about1.frames = Frame.invoking theMethod args0 :: below0 := rfl
set_option maxRecDepth 65536 in
theorem w_args : argsFit about1.vm theMethod args0 = true := by decide +kernel
set_option maxRecDepth 65536 in
theorem w_heap : heapFits about1 = true := by decide +kernel
set_option maxRecDepth 65536 in
theorem w_runnable : about1.curStatus? = some .runnable := by decide +kernel
set_option maxRecDepth 65536 in
theorem w_alone : about1.alone = true := by decide +kernel
set_option maxRecDepth 65536 in
theorem w_named : about1.methodNamed? x = some theMethod := by decide +kernel
set_option maxRecDepth 65536 in
theorem w_hears : about1.hears theMethod below0 = true := by decide +kernel
set_option maxRecDepth 65536 in
theorem w_ripe : about1.ripe theMethod args0 below0 = true := by decide +kernel
theorem w_running : about1.status = .running := rfl
set_option maxRecDepth 65536 in
theorem w_room : about1.hasRoom e0.platform room_1 = true :=
  launch0.hasRoom_least _ room_1 (by decide +kernel) (by decide +kernel) (by decide +kernel) (by decide +kernel) (by decide +kernel) (by decide +kernel)
theorem allAtoms_all (ts : List Jvm.Cond) (a : Array Jvm.Value) (st : Jvm.State) : (allAtoms ts).before a st = ts.all (fun c => c.before a st) := by
  induction ts with
  | nil => rfl
  | cons c t ih =>
    show (Jvm.Cond.and c (allAtoms t)).before a st = _
    rw [Jvm.Cond.before_and, ih, List.all_cons]
def words1 : List Jvm.Cond := Jvm.Cond.code x code maxLocals ret :: tables_1
/-- a 'code' word, met by the world's own term for the bytes: nothing is compared byte by byte -/
theorem code_word {y : MethodName} {bytes : ByteArray} {mx : Nat} {rt : Option FieldType} {a : Array Value} {s : State} {m : MethodId} {meth : Method} {c : Code} (h1 : s.methodNamed? y = some m) (h2 : s.vm.method? m = some meth) (h3 : meth.code = some c) (h4 : c.code = bytes)
    (h5 : (c.maxLocals == mx && c.exceptionTable.isEmpty && decide (c.maxStack ≤ mostOperands) && decide (meth.sig.returnType = rt) && !meth.locks && decide (parseMethodDescriptor y.desc = some meth.sig)) = true) : (Jvm.Cond.code y bytes mx rt).before a s = true := by
  simp only [Bool.and_eq_true, beq_iff_eq, Bool.not_eq_true', decide_eq_true_eq] at h5
  obtain ⟨⟨⟨⟨⟨g1, g2⟩, g3⟩, g4⟩, g5⟩, g6⟩ := h5
  simp [Cond.before, Cond.holds, Cond.value, h1, h2, h3, h4, g1, g2, g3, g4, g5, g6]
def isCode : Jvm.Cond → Bool
  | .code _ _ _ _ => true
  | _ => false
theorem all_split {L : List Jvm.Cond} {P : Jvm.Cond → Bool} (h1 : L.all (fun c => isCode c || P c) = true) (h2 : ∀ c ∈ L.filter isCode, P c = true) : L.all P = true := by
  refine List.all_eq_true.mpr fun c hc => ?_
  have h := List.all_eq_true.mp h1 c hc
  rcases Bool.eq_false_or_eq_true (isCode c) with hi | hi
  · exact h2 c (List.mem_filter.mpr ⟨hc, hi⟩)
  · simpa [hi] using h
set_option maxRecDepth 65536 in
theorem w_c0 : (Jvm.Cond.code x code maxLocals ret).before args0 about1 = true := code_word (m := ⟨1, 4⟩) (meth := k1m4) (c := k1c4) (by decide +kernel) rfl rfl rfl (by decide +kernel)
set_option maxRecDepth 65536 in
theorem w_c1 : (Jvm.Cond.code ({ cls := "com/example/pathgauge/pathgauge/expression/PredicateIsWritablePinLaw", name := "pick", desc := "(I)C" } : Jvm.MethodName) method_2_code (2 : Nat) (Option.some Jvm.ClassFile.FieldType.char)).before args0 about1 = true := code_word (m := ⟨1, 1⟩) (meth := k1m1) (c := k1c1) (by decide +kernel) rfl rfl rfl (by decide +kernel)
set_option maxRecDepth 65536 in
theorem w_c2 : (Jvm.Cond.code ({ cls := "com/example/pathgauge/pathgauge/expression/PredicateIsWritablePinLaw", name := "make", desc := "(ICCCC)Ljava/lang/String;" } : Jvm.MethodName) method_3_code (5 : Nat) (Option.some (Jvm.ClassFile.FieldType.object "java/lang/String"))).before args0 about1 = true := code_word (m := ⟨1, 2⟩) (meth := k1m2) (c := k1c2) (by decide +kernel) rfl rfl rfl (by decide +kernel)
set_option maxRecDepth 65536 in
theorem w_c3 : (Jvm.Cond.code ({ cls := "java/lang/String", name := "<init>", desc := "([C)V" } : Jvm.MethodName) jdk_42_method_3_code (2 : Nat) (Option.none : Option Jvm.ClassFile.FieldType)).before args0 about1 = true := code_word (m := ⟨7, 1⟩) (meth := k7m1) (c := k7c1) (by decide +kernel) rfl rfl rfl (by decide +kernel)
set_option maxRecDepth 65536 in
theorem w_c4 : (Jvm.Cond.code ({ cls := "java/lang/String", name := "<init>", desc := "([CIILjava/lang/Void;)V" } : Jvm.MethodName) jdk_42_method_149_code (6 : Nat) (Option.none : Option Jvm.ClassFile.FieldType)).before args0 about1 = true := code_word (m := ⟨7, 5⟩) (meth := k7m5) (c := k7c5) (by decide +kernel) rfl rfl rfl (by decide +kernel)
set_option maxRecDepth 65536 in
theorem w_c5 : (Jvm.Cond.code ({ cls := "java/lang/Object", name := "<init>", desc := "()V" } : Jvm.MethodName) object_method_1_code (1 : Nat) (Option.none : Option Jvm.ClassFile.FieldType)).before args0 about1 = true := code_word (m := ⟨0, 0⟩) (meth := k0m0) (c := k0c0) (by decide +kernel) rfl rfl rfl (by decide +kernel)
set_option maxRecDepth 65536 in
theorem w_c6 : (Jvm.Cond.code ({ cls := "com/example/pathgauge/pathgauge/expression/PredicateIsWritablePinLaw", name := "has", desc := "(ICCCCC)Z" } : Jvm.MethodName) method_4_code (6 : Nat) (Option.some Jvm.ClassFile.FieldType.boolean)).before args0 about1 = true := code_word (m := ⟨1, 3⟩) (meth := k1m3) (c := k1c3) (by decide +kernel) rfl rfl rfl (by decide +kernel)
set_option maxRecDepth 65536 in
theorem w_c7 : (Jvm.Cond.code ({ cls := "com/example/pathgauge/pathgauge/expression/Predicate", name := "isWritable", desc := "(Ljava/lang/String;)Z" } : Jvm.MethodName) prog_20_method_4_code (1 : Nat) (Option.some Jvm.ClassFile.FieldType.boolean)).before args0 about1 = true := code_word (m := ⟨8, 0⟩) (meth := k8m0) (c := k8c0) (by decide +kernel) rfl rfl rfl (by decide +kernel)
set_option maxRecDepth 65536 in
theorem w_c8 : (Jvm.Cond.code ({ cls := "java/lang/String", name := "indexOf", desc := "(I)I" } : Jvm.MethodName) jdk_42_method_79_code (2 : Nat) (Option.some Jvm.ClassFile.FieldType.int)).before args0 about1 = true := code_word (m := ⟨7, 3⟩) (meth := k7m3) (c := k7c3) (by decide +kernel) rfl rfl rfl (by decide +kernel)
set_option maxRecDepth 65536 in
theorem w_c9 : (Jvm.Cond.code ({ cls := "java/lang/String", name := "indexOf", desc := "(II)I" } : Jvm.MethodName) jdk_42_method_80_code (3 : Nat) (Option.some Jvm.ClassFile.FieldType.int)).before args0 about1 = true := code_word (m := ⟨7, 4⟩) (meth := k7m4) (c := k7c4) (by decide +kernel) rfl rfl rfl (by decide +kernel)
set_option maxRecDepth 65536 in
theorem w_c10 : (Jvm.Cond.code ({ cls := "java/lang/String", name := "isLatin1", desc := "()Z" } : Jvm.MethodName) jdk_42_method_154_code (1 : Nat) (Option.some Jvm.ClassFile.FieldType.boolean)).before args0 about1 = true := code_word (m := ⟨7, 7⟩) (meth := k7m7) (c := k7c7) (by decide +kernel) rfl rfl rfl (by decide +kernel)
set_option maxRecDepth 65536 in
theorem w_c11 : (Jvm.Cond.code ({ cls := "java/lang/String", name := "length", desc := "()I" } : Jvm.MethodName) jdk_42_method_54_code (1 : Nat) (Option.some Jvm.ClassFile.FieldType.int)).before args0 about1 = true := code_word (m := ⟨7, 2⟩) (meth := k7m2) (c := k7c2) (by decide +kernel) rfl rfl rfl (by decide +kernel)
set_option maxRecDepth 65536 in
theorem w_c12 : (Jvm.Cond.code ({ cls := "java/lang/String", name := "coder", desc := "()B" } : Jvm.MethodName) jdk_42_method_152_code (1 : Nat) (Option.some Jvm.ClassFile.FieldType.byte)).before args0 about1 = true := code_word (m := ⟨7, 6⟩) (meth := k7m6) (c := k7c6) (by decide +kernel) rfl rfl rfl (by decide +kernel)
set_option maxRecDepth 65536 in
theorem w_c13 : (Jvm.Cond.code ({ cls := "java/lang/StringLatin1", name := "indexOf", desc := "([BIII)I" } : Jvm.MethodName) jdk_43_method_22_code (4 : Nat) (Option.some Jvm.ClassFile.FieldType.int)).before args0 about1 = true := code_word (m := ⟨9, 2⟩) (meth := k9m2) (c := k9c2) (by decide +kernel) rfl rfl rfl (by decide +kernel)
set_option maxRecDepth 65536 in
theorem w_c14 : (Jvm.Cond.code ({ cls := "java/lang/StringLatin1", name := "canEncode", desc := "(I)Z" } : Jvm.MethodName) jdk_43_method_4_code (1 : Nat) (Option.some Jvm.ClassFile.FieldType.boolean)).before args0 about1 = true := code_word (m := ⟨9, 1⟩) (meth := k9m1) (c := k9c1) (by decide +kernel) rfl rfl rfl (by decide +kernel)
set_option maxRecDepth 65536 in
theorem w_c15 : (Jvm.Cond.code ({ cls := "java/lang/Math", name := "max", desc := "(II)I" } : Jvm.MethodName) jdk_29_method_65_code (2 : Nat) (Option.some Jvm.ClassFile.FieldType.int)).before args0 about1 = true := code_word (m := ⟨10, 1⟩) (meth := k10m1) (c := k10c1) (by decide +kernel) rfl rfl rfl (by decide +kernel)
set_option maxRecDepth 65536 in
theorem w_c16 : (Jvm.Cond.code ({ cls := "java/lang/Math", name := "min", desc := "(II)I" } : Jvm.MethodName) jdk_29_method_69_code (2 : Nat) (Option.some Jvm.ClassFile.FieldType.int)).before args0 about1 = true := code_word (m := ⟨10, 2⟩) (meth := k10m2) (c := k10c2) (by decide +kernel) rfl rfl rfl (by decide +kernel)
set_option maxRecDepth 65536 in
theorem w_c17 : (Jvm.Cond.code ({ cls := "java/lang/StringUTF16", name := "compress", desc := "([CII)[B" } : Jvm.MethodName) jdk_52_method_16_code (6 : Nat) (Option.some (Jvm.ClassFile.FieldType.array Jvm.ClassFile.FieldType.byte))).before args0 about1 = true := code_word (m := ⟨11, 8⟩) (meth := k11m8) (c := k11c8) (by decide +kernel) rfl rfl rfl (by decide +kernel)
set_option maxRecDepth 65536 in
theorem w_c18 : (Jvm.Cond.code ({ cls := "java/lang/StringUTF16", name := "compress", desc := "([CI[BII)I" } : Jvm.MethodName) jdk_52_method_21_code (7 : Nat) (Option.some Jvm.ClassFile.FieldType.int)).before args0 about1 = true := code_word (m := ⟨11, 9⟩) (meth := k11m9) (c := k11c9) (by decide +kernel) rfl rfl rfl (by decide +kernel)
set_option maxRecDepth 65536 in
theorem w_c19 : (Jvm.Cond.code ({ cls := "java/lang/StringUTF16", name := "coderFromArrayLen", desc := "([BI)B" } : Jvm.MethodName) jdk_52_method_15_code (2 : Nat) (Option.some Jvm.ClassFile.FieldType.byte)).before args0 about1 = true := code_word (m := ⟨11, 7⟩) (meth := k11m7) (c := k11c7) (by decide +kernel) rfl rfl rfl (by decide +kernel)
set_option maxRecDepth 65536 in
theorem w_c20 : (Jvm.Cond.code ({ cls := "java/lang/StringLatin1", name := "indexOfChar", desc := "([BIII)I" } : Jvm.MethodName) jdk_43_method_23_code (6 : Nat) (Option.some Jvm.ClassFile.FieldType.int)).before args0 about1 = true := code_word (m := ⟨9, 3⟩) (meth := k9m3) (c := k9c3) (by decide +kernel) rfl rfl rfl (by decide +kernel)
set_option maxRecDepth 65536 in
theorem w_c21 : (Jvm.Cond.code ({ cls := "java/lang/StringUTF16", name := "toBytes", desc := "([CII)[B" } : Jvm.MethodName) jdk_52_method_14_code (5 : Nat) (Option.some (Jvm.ClassFile.FieldType.array Jvm.ClassFile.FieldType.byte))).before args0 about1 = true := code_word (m := ⟨11, 6⟩) (meth := k11m6) (c := k11c6) (by decide +kernel) rfl rfl rfl (by decide +kernel)
set_option maxRecDepth 65536 in
theorem w_c22 : (Jvm.Cond.code ({ cls := "java/lang/StringUTF16", name := "newBytesFor", desc := "(I)[B" } : Jvm.MethodName) jdk_52_method_2_code (1 : Nat) (Option.some (Jvm.ClassFile.FieldType.array Jvm.ClassFile.FieldType.byte))).before args0 about1 = true := code_word (m := ⟨11, 1⟩) (meth := k11m1) (c := k11c1) (by decide +kernel) rfl rfl rfl (by decide +kernel)
set_option maxRecDepth 65536 in
theorem w_c23 : (Jvm.Cond.code ({ cls := "java/lang/StringUTF16", name := "newBytesLength", desc := "(I)I" } : Jvm.MethodName) jdk_52_method_3_code (1 : Nat) (Option.some Jvm.ClassFile.FieldType.int)).before args0 about1 = true := code_word (m := ⟨11, 2⟩) (meth := k11m2) (c := k11c2) (by decide +kernel) rfl rfl rfl (by decide +kernel)
set_option maxRecDepth 65536 in
theorem w_c24 : (Jvm.Cond.code ({ cls := "java/lang/StringUTF16", name := "putChar", desc := "([BII)V" } : Jvm.MethodName) jdk_52_method_4_code (3 : Nat) (Option.none : Option Jvm.ClassFile.FieldType)).before args0 about1 = true := code_word (m := ⟨11, 3⟩) (meth := k11m3) (c := k11c3) (by decide +kernel) rfl rfl rfl (by decide +kernel)
set_option maxRecDepth 65536 in
theorem w_c25 : (Jvm.Cond.code ({ cls := "java/lang/StringUTF16", name := "getChar", desc := "([BI)C" } : Jvm.MethodName) jdk_52_method_5_code (2 : Nat) (Option.some Jvm.ClassFile.FieldType.char)).before args0 about1 = true := code_word (m := ⟨11, 4⟩) (meth := k11m4) (c := k11c4) (by decide +kernel) rfl rfl rfl (by decide +kernel)
set_option maxRecDepth 65536 in
theorem w_c26 : (Jvm.Cond.code ({ cls := "java/lang/StringUTF16", name := "indexOf", desc := "([BIII)I" } : Jvm.MethodName) jdk_52_method_40_code (4 : Nat) (Option.some Jvm.ClassFile.FieldType.int)).before args0 about1 = true := code_word (m := ⟨11, 10⟩) (meth := k11m10) (c := k11c10) (by decide +kernel) rfl rfl rfl (by decide +kernel)
set_option maxRecDepth 65536 in
theorem w_c27 : (Jvm.Cond.code ({ cls := "java/lang/StringUTF16", name := "indexOfChar", desc := "([BIII)I" } : Jvm.MethodName) jdk_52_method_47_code (4 : Nat) (Option.some Jvm.ClassFile.FieldType.int)).before args0 about1 = true := code_word (m := ⟨11, 11⟩) (meth := k11m11) (c := k11c11) (by decide +kernel) rfl rfl rfl (by decide +kernel)
set_option maxRecDepth 65536 in
theorem w_c28 : (Jvm.Cond.code ({ cls := "java/lang/StringUTF16", name := "checkBoundsBeginEnd", desc := "(II[B)V" } : Jvm.MethodName) jdk_52_method_93_code (3 : Nat) (Option.none : Option Jvm.ClassFile.FieldType)).before args0 about1 = true := code_word (m := ⟨11, 13⟩) (meth := k11m13) (c := k11c13) (by decide +kernel) rfl rfl rfl (by decide +kernel)
set_option maxRecDepth 65536 in
theorem w_c29 : (Jvm.Cond.code ({ cls := "java/lang/StringUTF16", name := "length", desc := "([B)I" } : Jvm.MethodName) jdk_52_method_6_code (1 : Nat) (Option.some Jvm.ClassFile.FieldType.int)).before args0 about1 = true := code_word (m := ⟨11, 5⟩) (meth := k11m5) (c := k11c5) (by decide +kernel) rfl rfl rfl (by decide +kernel)
set_option maxRecDepth 65536 in
theorem w_c30 : (Jvm.Cond.code ({ cls := "java/lang/String", name := "checkBoundsBeginEnd", desc := "(III)V" } : Jvm.MethodName) jdk_42_method_158_code (3 : Nat) (Option.none : Option Jvm.ClassFile.FieldType)).before args0 about1 = true := code_word (m := ⟨7, 8⟩) (meth := k7m8) (c := k7c8) (by decide +kernel) rfl rfl rfl (by decide +kernel)
set_option maxRecDepth 65536 in
theorem w_c31 : (Jvm.Cond.code ({ cls := "jdk/internal/util/Preconditions", name := "checkFromToIndex", desc := "(IIILjava/util/function/BiFunction;)I" } : Jvm.MethodName) jdk_41_method_12_code (4 : Nat) (Option.some Jvm.ClassFile.FieldType.int)).before args0 about1 = true := code_word (m := ⟨12, 1⟩) (meth := k12m1) (c := k12c1) (by decide +kernel) rfl rfl rfl (by decide +kernel)
set_option maxRecDepth 65536 in
theorem w_c32 : (Jvm.Cond.code ({ cls := "java/lang/StringUTF16", name := "indexOfCharUnsafe", desc := "([BIII)I" } : Jvm.MethodName) jdk_52_method_48_code (5 : Nat) (Option.some Jvm.ClassFile.FieldType.int)).before args0 about1 = true := code_word (m := ⟨11, 12⟩) (meth := k11m12) (c := k11c12) (by decide +kernel) rfl rfl rfl (by decide +kernel)
def codes1 : List Jvm.Cond := [Jvm.Cond.code x code maxLocals ret, Jvm.Cond.code ({ cls := "com/example/pathgauge/pathgauge/expression/PredicateIsWritablePinLaw", name := "pick", desc := "(I)C" } : Jvm.MethodName) method_2_code (2 : Nat) (Option.some Jvm.ClassFile.FieldType.char), Jvm.Cond.code ({ cls := "com/example/pathgauge/pathgauge/expression/PredicateIsWritablePinLaw", name := "make", desc := "(ICCCC)Ljava/lang/String;" } : Jvm.MethodName) method_3_code (5 : Nat) (Option.some (Jvm.ClassFile.FieldType.object "java/lang/String")), Jvm.Cond.code ({ cls := "java/lang/String", name := "<init>", desc := "([C)V" } : Jvm.MethodName) jdk_42_method_3_code (2 : Nat) (Option.none : Option Jvm.ClassFile.FieldType), Jvm.Cond.code ({ cls := "java/lang/String", name := "<init>", desc := "([CIILjava/lang/Void;)V" } : Jvm.MethodName) jdk_42_method_149_code (6 : Nat) (Option.none : Option Jvm.ClassFile.FieldType), Jvm.Cond.code ({ cls := "java/lang/Object", name := "<init>", desc := "()V" } : Jvm.MethodName) object_method_1_code (1 : Nat) (Option.none : Option Jvm.ClassFile.FieldType), Jvm.Cond.code ({ cls := "com/example/pathgauge/pathgauge/expression/PredicateIsWritablePinLaw", name := "has", desc := "(ICCCCC)Z" } : Jvm.MethodName) method_4_code (6 : Nat) (Option.some Jvm.ClassFile.FieldType.boolean), Jvm.Cond.code ({ cls := "com/example/pathgauge/pathgauge/expression/Predicate", name := "isWritable", desc := "(Ljava/lang/String;)Z" } : Jvm.MethodName) prog_20_method_4_code (1 : Nat) (Option.some Jvm.ClassFile.FieldType.boolean), Jvm.Cond.code ({ cls := "java/lang/String", name := "indexOf", desc := "(I)I" } : Jvm.MethodName) jdk_42_method_79_code (2 : Nat) (Option.some Jvm.ClassFile.FieldType.int), Jvm.Cond.code ({ cls := "java/lang/String", name := "indexOf", desc := "(II)I" } : Jvm.MethodName) jdk_42_method_80_code (3 : Nat) (Option.some Jvm.ClassFile.FieldType.int), Jvm.Cond.code ({ cls := "java/lang/String", name := "isLatin1", desc := "()Z" } : Jvm.MethodName) jdk_42_method_154_code (1 : Nat) (Option.some Jvm.ClassFile.FieldType.boolean), Jvm.Cond.code ({ cls := "java/lang/String", name := "length", desc := "()I" } : Jvm.MethodName) jdk_42_method_54_code (1 : Nat) (Option.some Jvm.ClassFile.FieldType.int), Jvm.Cond.code ({ cls := "java/lang/String", name := "coder", desc := "()B" } : Jvm.MethodName) jdk_42_method_152_code (1 : Nat) (Option.some Jvm.ClassFile.FieldType.byte), Jvm.Cond.code ({ cls := "java/lang/StringLatin1", name := "indexOf", desc := "([BIII)I" } : Jvm.MethodName) jdk_43_method_22_code (4 : Nat) (Option.some Jvm.ClassFile.FieldType.int), Jvm.Cond.code ({ cls := "java/lang/StringLatin1", name := "canEncode", desc := "(I)Z" } : Jvm.MethodName) jdk_43_method_4_code (1 : Nat) (Option.some Jvm.ClassFile.FieldType.boolean), Jvm.Cond.code ({ cls := "java/lang/Math", name := "max", desc := "(II)I" } : Jvm.MethodName) jdk_29_method_65_code (2 : Nat) (Option.some Jvm.ClassFile.FieldType.int), Jvm.Cond.code ({ cls := "java/lang/Math", name := "min", desc := "(II)I" } : Jvm.MethodName) jdk_29_method_69_code (2 : Nat) (Option.some Jvm.ClassFile.FieldType.int), Jvm.Cond.code ({ cls := "java/lang/StringUTF16", name := "compress", desc := "([CII)[B" } : Jvm.MethodName) jdk_52_method_16_code (6 : Nat) (Option.some (Jvm.ClassFile.FieldType.array Jvm.ClassFile.FieldType.byte)), Jvm.Cond.code ({ cls := "java/lang/StringUTF16", name := "compress", desc := "([CI[BII)I" } : Jvm.MethodName) jdk_52_method_21_code (7 : Nat) (Option.some Jvm.ClassFile.FieldType.int), Jvm.Cond.code ({ cls := "java/lang/StringUTF16", name := "coderFromArrayLen", desc := "([BI)B" } : Jvm.MethodName) jdk_52_method_15_code (2 : Nat) (Option.some Jvm.ClassFile.FieldType.byte), Jvm.Cond.code ({ cls := "java/lang/StringLatin1", name := "indexOfChar", desc := "([BIII)I" } : Jvm.MethodName) jdk_43_method_23_code (6 : Nat) (Option.some Jvm.ClassFile.FieldType.int), Jvm.Cond.code ({ cls := "java/lang/StringUTF16", name := "toBytes", desc := "([CII)[B" } : Jvm.MethodName) jdk_52_method_14_code (5 : Nat) (Option.some (Jvm.ClassFile.FieldType.array Jvm.ClassFile.FieldType.byte)), Jvm.Cond.code ({ cls := "java/lang/StringUTF16", name := "newBytesFor", desc := "(I)[B" } : Jvm.MethodName) jdk_52_method_2_code (1 : Nat) (Option.some (Jvm.ClassFile.FieldType.array Jvm.ClassFile.FieldType.byte)), Jvm.Cond.code ({ cls := "java/lang/StringUTF16", name := "newBytesLength", desc := "(I)I" } : Jvm.MethodName) jdk_52_method_3_code (1 : Nat) (Option.some Jvm.ClassFile.FieldType.int), Jvm.Cond.code ({ cls := "java/lang/StringUTF16", name := "putChar", desc := "([BII)V" } : Jvm.MethodName) jdk_52_method_4_code (3 : Nat) (Option.none : Option Jvm.ClassFile.FieldType), Jvm.Cond.code ({ cls := "java/lang/StringUTF16", name := "getChar", desc := "([BI)C" } : Jvm.MethodName) jdk_52_method_5_code (2 : Nat) (Option.some Jvm.ClassFile.FieldType.char), Jvm.Cond.code ({ cls := "java/lang/StringUTF16", name := "indexOf", desc := "([BIII)I" } : Jvm.MethodName) jdk_52_method_40_code (4 : Nat) (Option.some Jvm.ClassFile.FieldType.int), Jvm.Cond.code ({ cls := "java/lang/StringUTF16", name := "indexOfChar", desc := "([BIII)I" } : Jvm.MethodName) jdk_52_method_47_code (4 : Nat) (Option.some Jvm.ClassFile.FieldType.int), Jvm.Cond.code ({ cls := "java/lang/StringUTF16", name := "checkBoundsBeginEnd", desc := "(II[B)V" } : Jvm.MethodName) jdk_52_method_93_code (3 : Nat) (Option.none : Option Jvm.ClassFile.FieldType), Jvm.Cond.code ({ cls := "java/lang/StringUTF16", name := "length", desc := "([B)I" } : Jvm.MethodName) jdk_52_method_6_code (1 : Nat) (Option.some Jvm.ClassFile.FieldType.int), Jvm.Cond.code ({ cls := "java/lang/String", name := "checkBoundsBeginEnd", desc := "(III)V" } : Jvm.MethodName) jdk_42_method_158_code (3 : Nat) (Option.none : Option Jvm.ClassFile.FieldType), Jvm.Cond.code ({ cls := "jdk/internal/util/Preconditions", name := "checkFromToIndex", desc := "(IIILjava/util/function/BiFunction;)I" } : Jvm.MethodName) jdk_41_method_12_code (4 : Nat) (Option.some Jvm.ClassFile.FieldType.int), Jvm.Cond.code ({ cls := "java/lang/StringUTF16", name := "indexOfCharUnsafe", desc := "([BIII)I" } : Jvm.MethodName) jdk_52_method_48_code (5 : Nat) (Option.some Jvm.ClassFile.FieldType.int)]
set_option maxRecDepth 65536 in
theorem codes_eq : words1.filter isCode = codes1 := rfl
theorem w_codes : ∀ c ∈ words1.filter isCode, c.before args0 about1 = true := by
  rw [codes_eq]
  intro c hc
  simp only [codes1, List.mem_cons, List.not_mem_nil, or_false] at hc
  rcases hc with rfl | rfl | rfl | rfl | rfl | rfl | rfl | rfl | rfl | rfl | rfl | rfl | rfl | rfl | rfl | rfl | rfl | rfl | rfl | rfl | rfl | rfl | rfl | rfl | rfl | rfl | rfl | rfl | rfl | rfl | rfl | rfl | rfl
  · exact w_c0
  · exact w_c1
  · exact w_c2
  · exact w_c3
  · exact w_c4
  · exact w_c5
  · exact w_c6
  · exact w_c7
  · exact w_c8
  · exact w_c9
  · exact w_c10
  · exact w_c11
  · exact w_c12
  · exact w_c13
  · exact w_c14
  · exact w_c15
  · exact w_c16
  · exact w_c17
  · exact w_c18
  · exact w_c19
  · exact w_c20
  · exact w_c21
  · exact w_c22
  · exact w_c23
  · exact w_c24
  · exact w_c25
  · exact w_c26
  · exact w_c27
  · exact w_c28
  · exact w_c29
  · exact w_c30
  · exact w_c31
  · exact w_c32
set_option maxRecDepth 65536 in
theorem w_t1 : (words1.take 24).all (fun c => isCode c || c.before args0 about1) = true := by decide +kernel
set_option maxRecDepth 65536 in
theorem w_t2 : ((words1.drop 24).take 24).all (fun c => isCode c || c.before args0 about1) = true := by decide +kernel
set_option maxRecDepth 65536 in
theorem w_t3 : (((words1.drop 24).drop 24).take 24).all (fun c => isCode c || c.before args0 about1) = true := by decide +kernel
set_option maxRecDepth 65536 in
theorem w_t4 : ((((words1.drop 24).drop 24).drop 24).take 24).all (fun c => isCode c || c.before args0 about1) = true := by decide +kernel
set_option maxRecDepth 65536 in
theorem w_t5 : (((((words1.drop 24).drop 24).drop 24).drop 24).take 24).all (fun c => isCode c || c.before args0 about1) = true := by decide +kernel
set_option maxRecDepth 65536 in
theorem w_t6 : (((((words1.drop 24).drop 24).drop 24).drop 24).drop 24).all (fun c => isCode c || c.before args0 about1) = true := by decide +kernel
theorem w_tables : (allAtoms (Jvm.Cond.code x code maxLocals ret :: tables_1)).before args0 about1 = true := by
  rw [allAtoms_all]
  show words1.all (fun c => c.before args0 about1) = true
  refine all_split ?_ w_codes
  rw [← List.take_append_drop 24 words1, List.all_append, w_t1, ← List.take_append_drop 24 (words1.drop 24), List.all_append, w_t2, ← List.take_append_drop 24 ((words1.drop 24).drop 24), List.all_append, w_t3, ← List.take_append_drop 24 (((words1.drop 24).drop 24).drop 24), List.all_append, w_t4, ← List.take_append_drop 24 ((((words1.drop 24).drop 24).drop 24).drop 24), List.all_append, w_t5, w_t6]
  rfl
set_option maxRecDepth 65536 in
theorem w_rest : rest_1_c.before args0 about1 = true := by decide +kernel
set_option maxRecDepth 65536 in
theorem w_case : (Jvm.Cond.and given_1 narrow_1).before args0 about1 = true := by decide +kernel
set_option maxRecDepth 65536 in
theorem w_consts : constsHeld consts_1 about1 := Jvm.Lit.constsHeldB_iff.mp (by decide +kernel)
theorem w_applies : (headSpec (Jvm.Cond.code x code maxLocals ret :: tables_1) room_1).applies x e0.platform about1 = true :=
  (Spec.applies_iff w_frames).mpr ⟨w_running, w_runnable, w_alone, w_named, w_hears, w_ripe, w_room, w_tables⟩
theorem atStart : AtStart classFile x code maxLocals ret World_1 tables_1 room_1 Calls_1 rest_1 Pre_1 launch0 p0 e0 about1 theMethod args0 below0 :=
  ⟨lists_1, trivial, launch0.admits_env _ _ _, launch0.least_env, fairChoices_fair.cas, fairChoices_fair.clock, w_frames, w_args, w_heap, w_applies, ⟨w_consts, trivial⟩, w_rest, w_case⟩
end start1
theorem witness_1 : WitnessClaimed_1 := ⟨start1.p0, start1.e0, start1.about1, start1.theMethod, start1.args0, start1.below0, start1.atStart⟩
end Jvm.Pilot.@@N@@
