import JvmDerived
import JvmDerived.Pilot.@@N@@Statement
import JvmDerived.Pilot.@@N@@Code
set_option linter.unusedVariables false
set_option linter.unusedSimpArgs false
set_option maxRecDepth 65536
set_option maxHeartbeats 4000000
namespace Jvm.Pilot.@@N@@
open Jvm Jvm.ClassFile Sem Op Lib Jvm.Free Jvm.Stand Jvm.LawKit Jvm.RoadKit Bundle Jvm.Pilot.@@N@@.Jvm.D
section Own
variable {p : Program} {l : Launch} {e : Env} {R : Room} {s : State} {m : MethodId} {args : Array Value} {below : List Frame} {meth : Method} {c : Code} {T : State} {locs : List Loc} {cells slots : Nat} {K J : Nat} {Q : Option Value → Heap → List Loc → Prop} {Z : State} {a0 : Array Value} {h : Heap}
/-- from U the run comes to its end, and what it leaves is Q's -/
def Ends (p : Program) (e : Env) (below : List Frame) (s : State) (K J : Nat) (Q : Option Value → Heap → List Loc → Prop) (U : State) : Prop :=
  ∃ s₂ o, Steps p.tables e below U s₂ ∧ s₂.status = .running ∧ Ended s₂ below o ∧ ∃ v L, o = .returned v ∧ Q v s₂.heap L ∧ FrameEnd s o s₂ L K J
theorem Ends.via {A B : State} (h : ∀ t, Steps p.tables e below A t → Steps p.tables e below B t) (k : Ends p e below s K J Q A) : Ends p e below s K J Q B := by
  obtain ⟨s2, o, h1, h2⟩ := k
  exact ⟨s2, o, h _ h1, h2⟩
theorem Ends.tr {A B : State} (h : Steps p.tables e below B A) (k : Ends p e below s K J Q A) : Ends p e below s K J Q B := by
  obtain ⟨s2, o, h1, h2⟩ := k
  exact ⟨s2, o, h.trans h1, h2⟩
theorem Ends.cast {g g' : JFrame} (q : g = g') (k : Ends p e below s K J Q (T.setTop g')) : Ends p e below s K J Q (T.setTop g) := q ▸ k
theorem own_iadd (X : Stand p l e R s m args below meth c T locs cells slots) (hx : p.tables.exec = Jvm.exec) {pc n : Nat} {Ls : Array Slot} {st : List Value} {x y : Int32} (hd : decode c.code pc = .ok (.iadd, 1))  (hn : pc + 1 = n) (k : Ends p e below s K J Q (T.setTop (mkF m n Ls (.int (x + y) :: st)))) : Ends p e below s K J Q (T.setTop (mkF m pc Ls (.int y :: .int x :: st))) := by
  subst hn
  exact Ends.via (fun t h => XS.iadd X.here hx rfl hd rfl h) k
theorem own_imul (X : Stand p l e R s m args below meth c T locs cells slots) (hx : p.tables.exec = Jvm.exec) {pc n : Nat} {Ls : Array Slot} {st : List Value} {x y : Int32} (hd : decode c.code pc = .ok (.imul, 1))  (hn : pc + 1 = n) (k : Ends p e below s K J Q (T.setTop (mkF m n Ls (.int (x * y) :: st)))) : Ends p e below s K J Q (T.setTop (mkF m pc Ls (.int y :: .int x :: st))) := by
  subst hn
  exact Ends.via (fun t h => XS.imul X.here hx rfl hd rfl h) k
theorem own_iand (X : Stand p l e R s m args below meth c T locs cells slots) (hx : p.tables.exec = Jvm.exec) {pc n : Nat} {Ls : Array Slot} {st : List Value} {x y : Int32} (hd : decode c.code pc = .ok (.iand, 1))  (hn : pc + 1 = n) (k : Ends p e below s K J Q (T.setTop (mkF m n Ls (.int (x &&& y) :: st)))) : Ends p e below s K J Q (T.setTop (mkF m pc Ls (.int y :: .int x :: st))) := by
  subst hn
  exact Ends.via (fun t h => XS.iand X.here hx rfl hd rfl h) k
theorem own_iushr (X : Stand p l e R s m args below meth c T locs cells slots) (hx : p.tables.exec = Jvm.exec) {pc n : Nat} {Ls : Array Slot} {st : List Value} {x y : Int32} (hd : decode c.code pc = .ok (.iushr, 1))  (hn : pc + 1 = n) (k : Ends p e below s K J Q (T.setTop (mkF m n Ls (.int ((x.toUInt32 >>> (y &&& 31).toUInt32).toInt32) :: st)))) : Ends p e below s K J Q (T.setTop (mkF m pc Ls (.int y :: .int x :: st))) := by
  subst hn
  exact Ends.via (fun t h => XS.iushr X.here hx rfl hd rfl h) k
theorem own_irem (X : Stand p l e R s m args below meth c T locs cells slots) (hx : p.tables.exec = Jvm.exec) {pc n : Nat} {Ls : Array Slot} {st : List Value} {x y : Int32} (hd : decode c.code pc = .ok (.irem, 1)) (hy : y ≠ 0) (hn : pc + 1 = n) (k : Ends p e below s K J Q (T.setTop (mkF m n Ls (.int (x % y) :: st)))) : Ends p e below s K J Q (T.setTop (mkF m pc Ls (.int y :: .int x :: st))) := by
  subst hn
  exact Ends.via (fun t h => iremM X hx rfl hd rfl hy h) k
theorem own_dup (X : Stand p l e R s m args below meth c T locs cells slots) (hx : p.tables.exec = Jvm.exec) {pc n : Nat} {Ls : Array Slot} {st : List Value} {x : Value} (hd : decode c.code pc = .ok (.dup, 1)) (hc : x.category = 1) (hn : pc + 1 = n) (k : Ends p e below s K J Q (T.setTop (mkF m n Ls (x :: x :: st)))) : Ends p e below s K J Q (T.setTop (mkF m pc Ls (x :: st))) := by
  subst hn
  exact Ends.via (fun t h => XS.dup X.here hx rfl hd rfl hc h) k
theorem own_iconst (X : Stand p l e R s m args below meth c T locs cells slots) (hx : p.tables.exec = Jvm.exec) {pc n : Nat} {Ls : Array Slot} {st : List Value} {i : Int} (v : Int32) (hd : decode c.code pc = .ok (.iconst i, 1)) (hv : Int32.ofInt i = v) (hn : pc + 1 = n) (k : Ends p e below s K J Q (T.setTop (mkF m n Ls (.int v :: st)))) : Ends p e below s K J Q (T.setTop (mkF m pc Ls st)) := by
  subst hn hv
  exact Ends.via (fun t h => XS.iconst X.here hx rfl hd h) k
theorem own_bipush (X : Stand p l e R s m args below meth c T locs cells slots) (hx : p.tables.exec = Jvm.exec) {pc n : Nat} {Ls : Array Slot} {st : List Value} {i : Int} (v : Int32) (hd : decode c.code pc = .ok (.bipush i, 2)) (hv : (Int8.ofInt i).toInt32 = v) (hn : pc + 2 = n) (k : Ends p e below s K J Q (T.setTop (mkF m n Ls (.int v :: st)))) : Ends p e below s K J Q (T.setTop (mkF m pc Ls st)) := by
  subst hn hv
  exact Ends.via (fun t h => XS.bipush X.here hx rfl hd h) k
theorem own_iload (X : Stand p l e R s m args below meth c T locs cells slots) (hx : p.tables.exec = Jvm.exec) {pc n : Nat} {Ls : Array Slot} {st : List Value} {i : Nat} {v : Int32} (hd : decode c.code pc = .ok (.iload i, 2)) (hl : Ls[i]? = some (.val (.int v))) (hn : pc + 2 = n) (k : Ends p e below s K J Q (T.setTop (mkF m n Ls (.int v :: st)))) : Ends p e below s K J Q (T.setTop (mkF m pc Ls (st))) := by
  subst hn
  exact Ends.via (fun t h => XS.iload X.here hx rfl hd hl h) k
theorem own_iloadN (X : Stand p l e R s m args below meth c T locs cells slots) (hx : p.tables.exec = Jvm.exec) {pc n : Nat} {Ls : Array Slot} {st : List Value} {i : Fin 4} {v : Int32} (hd : decode c.code pc = .ok (.iload_n i, 1)) (hl : Ls[i.val]? = some (.val (.int v))) (hn : pc + 1 = n) (k : Ends p e below s K J Q (T.setTop (mkF m n Ls (.int v :: st)))) : Ends p e below s K J Q (T.setTop (mkF m pc Ls (st))) := by
  subst hn
  exact Ends.via (fun t h => XS.iloadN X.here hx rfl hd hl h) k
theorem own_istore (X : Stand p l e R s m args below meth c T locs cells slots) (hx : p.tables.exec = Jvm.exec) {pc n : Nat} {Ls : Array Slot} {st : List Value} {i : Nat} {v : Int32} {l' : Array Slot} (hd : decode c.code pc = .ok (.istore i, 2)) (hl : storeLocals Ls i (.int v) = some l') (hn : pc + 2 = n) (k : Ends p e below s K J Q (T.setTop (mkF m n l' (st)))) : Ends p e below s K J Q (T.setTop (mkF m pc Ls (.int v :: st))) := by
  subst hn
  exact Ends.via (fun t h => XS.istore X.here hx rfl hd rfl hl h) k
theorem own_istoreN (X : Stand p l e R s m args below meth c T locs cells slots) (hx : p.tables.exec = Jvm.exec) {pc n : Nat} {Ls : Array Slot} {st : List Value} {i : Fin 4} {v : Int32} {l' : Array Slot} (hd : decode c.code pc = .ok (.istore_n i, 1)) (hl : storeLocals Ls i.val (.int v) = some l') (hn : pc + 1 = n) (k : Ends p e below s K J Q (T.setTop (mkF m n l' (st)))) : Ends p e below s K J Q (T.setTop (mkF m pc Ls (.int v :: st))) := by
  subst hn
  exact Ends.via (fun t h => XS.istoreN X.here hx rfl hd rfl hl h) k
theorem own_aload (X : Stand p l e R s m args below meth c T locs cells slots) (hx : p.tables.exec = Jvm.exec) {pc n : Nat} {Ls : Array Slot} {st : List Value} {i : Nat} {v : Value} (hd : decode c.code pc = .ok (.aload i, 2)) (hl : Ls[i]? = some (.val v)) (hv : v.isRef = true) (hn : pc + 2 = n) (k : Ends p e below s K J Q (T.setTop (mkF m n Ls (v :: st)))) : Ends p e below s K J Q (T.setTop (mkF m pc Ls (st))) := by
  subst hn
  exact Ends.via (fun t h => XS.aload X.here hx rfl hd hl hv h) k
theorem own_aloadN (X : Stand p l e R s m args below meth c T locs cells slots) (hx : p.tables.exec = Jvm.exec) {pc n : Nat} {Ls : Array Slot} {st : List Value} {i : Fin 4} {v : Value} (hd : decode c.code pc = .ok (.aload_n i, 1)) (hl : Ls[i.val]? = some (.val v)) (hv : v.isRef = true) (hn : pc + 1 = n) (k : Ends p e below s K J Q (T.setTop (mkF m n Ls (v :: st)))) : Ends p e below s K J Q (T.setTop (mkF m pc Ls (st))) := by
  subst hn
  exact Ends.via (fun t h => XS.aloadN X.here hx rfl hd hl hv h) k
theorem own_astore (X : Stand p l e R s m args below meth c T locs cells slots) (hx : p.tables.exec = Jvm.exec) {pc n : Nat} {Ls : Array Slot} {st : List Value} {i : Nat} {v : Value} {l' : Array Slot} (hd : decode c.code pc = .ok (.astore i, 2)) (hv : v.isRef = true) (hl : storeLocals Ls i v = some l') (hn : pc + 2 = n) (k : Ends p e below s K J Q (T.setTop (mkF m n l' (st)))) : Ends p e below s K J Q (T.setTop (mkF m pc Ls (v :: st))) := by
  subst hn
  exact Ends.via (fun t h => XS.astore X.here hx rfl hd rfl hv hl h) k
theorem own_iinc (X : Stand p l e R s m args below meth c T locs cells slots) (hx : p.tables.exec = Jvm.exec) {pc n : Nat} {Ls : Array Slot} {st : List Value} {i : Nat} {cst : Int} {x v : Int32} {l' : Array Slot} (hd : decode c.code pc = .ok (.iinc i cst, 3)) (hl : Ls[i]? = some (.val (.int x))) (hv : Int32.ofInt cst = v) (hl' : storeLocals Ls i (.int (x + v)) = some l') (hn : pc + 3 = n) (k : Ends p e below s K J Q (T.setTop (mkF m n l' st))) : Ends p e below s K J Q (T.setTop (mkF m pc Ls st)) := by
  subst hn hv
  exact Ends.via (fun t h => XS.iinc X.here hx rfl hd hl hl' h) k
theorem own_goto (X : Stand p l e R s m args below meth c T locs cells slots) (hx : p.tables.exec = Jvm.exec) {pc n : Nat} {Ls : Array Slot} {st : List Value} {o : Int} (hd : decode c.code pc = .ok (.goto o, 3)) (ho : 0 ≤ (pc : Int) + o) (hp : ((pc : Int) + o).toNat = n) (k : Ends p e below s K J Q (T.setTop (mkF m n Ls st))) : Ends p e below s K J Q (T.setTop (mkF m pc Ls st)) :=
  Ends.via (fun t h => XS.goto X.here hx rfl (pc0 := pc) rfl hd ho hp h) k
theorem own_ifYes (X : Stand p l e R s m args below meth c T locs cells slots) (hx : p.tables.exec = Jvm.exec) {pc n : Nat} {Ls : Array Slot} {st : List Value} {o : Int} {cd : ClassFile.Cond} {x : Int32} (hd : decode c.code pc = .ok (.ifCond cd o, 3)) (hc : ifCond.holds cd x = true) (ho : 0 ≤ (pc : Int) + o) (hp : ((pc : Int) + o).toNat = n) (k : Ends p e below s K J Q (T.setTop (mkF m n Ls st))) : Ends p e below s K J Q (T.setTop (mkF m pc Ls (.int x :: st))) :=
  Ends.via (fun t h => XS.ifYes X.here hx rfl (pc0 := pc) rfl hd rfl hc ho hp h) k
theorem own_ifNo (X : Stand p l e R s m args below meth c T locs cells slots) (hx : p.tables.exec = Jvm.exec) {pc n : Nat} {Ls : Array Slot} {st : List Value} {o : Int} {cd : ClassFile.Cond} {x : Int32} (hd : decode c.code pc = .ok (.ifCond cd o, 3)) (hc : ifCond.holds cd x = false) (hn : pc + 3 = n) (k : Ends p e below s K J Q (T.setTop (mkF m n Ls st))) : Ends p e below s K J Q (T.setTop (mkF m pc Ls (.int x :: st))) := by
  subst hn
  exact Ends.via (fun t h => XS.ifNo X.here hx rfl hd rfl hc h) k
theorem own_icmpYes (X : Stand p l e R s m args below meth c T locs cells slots) (hx : p.tables.exec = Jvm.exec) {pc n : Nat} {Ls : Array Slot} {st : List Value} {o : Int} {cd : ClassFile.Cond} {x y : Int32} (hd : decode c.code pc = .ok (.if_icmp cd o, 3)) (hc : if_icmp.holds cd x y = true) (ho : 0 ≤ (pc : Int) + o) (hp : ((pc : Int) + o).toNat = n) (k : Ends p e below s K J Q (T.setTop (mkF m n Ls st))) : Ends p e below s K J Q (T.setTop (mkF m pc Ls (.int y :: .int x :: st))) :=
  Ends.via (fun t h => XS.icmpYes X.here hx rfl (pc0 := pc) rfl hd rfl hc ho hp h) k
theorem own_icmpNo (X : Stand p l e R s m args below meth c T locs cells slots) (hx : p.tables.exec = Jvm.exec) {pc n : Nat} {Ls : Array Slot} {st : List Value} {o : Int} {cd : ClassFile.Cond} {x y : Int32} (hd : decode c.code pc = .ok (.if_icmp cd o, 3)) (hc : if_icmp.holds cd x y = false) (hn : pc + 3 = n) (k : Ends p e below s K J Q (T.setTop (mkF m n Ls st))) : Ends p e below s K J Q (T.setTop (mkF m pc Ls (.int y :: .int x :: st))) := by
  subst hn
  exact Ends.via (fun t h => XS.icmpNo X.here hx rfl hd rfl hc h) k
theorem own_acmpYes (X : Stand p l e R s m args below meth c T locs cells slots) (hx : p.tables.exec = Jvm.exec) {pc n : Nat} {Ls : Array Slot} {st : List Value} {o : Int} {cd : ClassFile.ACond} {x y : Value} (hd : decode c.code pc = .ok (.if_acmp cd o, 3)) (h1 : x.isRef = true) (h2 : y.isRef = true) (hc : Jvm.Free.XT.acmp cd x y = true) (ho : 0 ≤ (pc : Int) + o) (hp : ((pc : Int) + o).toNat = n) (k : Ends p e below s K J Q (T.setTop (mkF m n Ls st))) : Ends p e below s K J Q (T.setTop (mkF m pc Ls (y :: x :: st))) :=
  Ends.via (fun t h => Jvm.Free.XT.acmpYes X.here hx rfl (pc0 := pc) rfl hd rfl h1 h2 hc ho hp h) k
theorem own_acmpNo (X : Stand p l e R s m args below meth c T locs cells slots) (hx : p.tables.exec = Jvm.exec) {pc n : Nat} {Ls : Array Slot} {st : List Value} {o : Int} {cd : ClassFile.ACond} {x y : Value} (hd : decode c.code pc = .ok (.if_acmp cd o, 3)) (h1 : x.isRef = true) (h2 : y.isRef = true) (hc : Jvm.Free.XT.acmp cd x y = false) (hn : pc + 3 = n) (k : Ends p e below s K J Q (T.setTop (mkF m n Ls st))) : Ends p e below s K J Q (T.setTop (mkF m pc Ls (y :: x :: st))) := by
  subst hn
  exact Ends.via (fun t h => Jvm.Free.XT.acmpNo X.here hx rfl hd rfl h1 h2 hc h) k
theorem own_ldc (X : Stand p l e R s m args below meth c T locs cells slots) (hx : p.tables.exec = Jvm.exec) (hZ : Z.Warmed39 s.vm) {own : String} (hown : s.vm.findClass own = some m.cls) {pc n : Nat} {Ls : Array Slot} {st : List Value} {i : Nat} {v : Int32} (w : (Cond.constant own i v).before a0 Z = true) (hd : decode c.code pc = .ok (.ldc i, 2)) (hn : pc + 2 = n) (k : Ends p e below s K J Q (T.setTop (mkF m n Ls (.int v :: st)))) : Ends p e below s K J Q (T.setTop (mkF m pc Ls st)) := by
  subst hn
  exact Ends.via (fun t h => X.ldcI hx hown (mvT hZ w) rfl hd h) k
theorem own_retI (X : Stand p l e R s m args below meth c T locs cells slots) (hx : p.tables.exec = Jvm.exec) (lk : meth.locks = false) {pc : Nat} {Ls : Array Slot} {rest : List Value} {z : Int32} (hret : meth.sig.returnType = some .int)  (hd : decode c.code pc = .ok (.ireturn, 1)) (hK : cells ≤ K) (hJ : slots ≤ J) (hq : Q (some (.int z)) T.heap locs) : Ends p e below s K J Q (T.setTop (mkF m pc Ls (.int z :: rest))) := by
  obtain ⟨fs, hr, hrun, hended, hW, hsame⟩ := X.leave (v := (some (.int z))) (fun h => by rw [hret] at h; cases h) lk
  exact ⟨_, _, retOut X hx (w := .int z) (t := .int) hret rfl (Or.inl ⟨rfl, Or.inl rfl, z, rfl⟩) hd hr, hrun, hended, _, _, rfl, hq, ⟨_, rfl⟩, hW, hsame.mono hK hJ⟩
theorem own_retN (X : Stand p l e R s m args below meth c T locs cells slots) (hx : p.tables.exec = Jvm.exec) (lk : meth.locks = false) {pc : Nat} {Ls : Array Slot} {rest : List Value} {z : Int32} {t : FieldType}  (hret : meth.sig.returnType = some t) (ht : t = .boolean ∨ t = .byte ∨ t = .char ∨ t = .short) (hd : decode c.code pc = .ok (.ireturn, 1)) (hK : cells ≤ K) (hJ : slots ≤ J) (hq : Q (some (.int (nar t z))) T.heap locs) : Ends p e below s K J Q (T.setTop (mkF m pc Ls (.int z :: rest))) := by
  obtain ⟨fs, hr, hrun, hended, hW, hsame⟩ := X.leave (v := (some (.int (nar t z)))) (fun h => by rw [hret] at h; cases h) lk
  exact ⟨_, _, Jvm.RoadKit.retN X hx hret ht hd hr, hrun, hended, _, _, rfl, hq, ⟨_, rfl⟩, hW, hsame.mono hK hJ⟩
theorem own_retV (X : Stand p l e R s m args below meth c T locs cells slots) (hx : p.tables.exec = Jvm.exec) (lk : meth.locks = false) {pc : Nat} {Ls : Array Slot}  (hret : meth.sig.returnType = none)  (hd : decode c.code pc = .ok (.return_, 1)) (hK : cells ≤ K) (hJ : slots ≤ J) (hq : Q none T.heap locs) : Ends p e below s K J Q (T.setTop (mkF m pc Ls ([]))) := by
  obtain ⟨fs, hr, hrun, hended, hW, hsame⟩ := X.leave (v := none) (fun h => by rfl) lk
  exact ⟨_, _, X.returnOut hx hret hd hr, hrun, hended, _, _, rfl, hq, ⟨_, rfl⟩, hW, hsame.mono hK hJ⟩
theorem own_retA (X : Stand p l e R s m args below meth c T locs cells slots) (hx : p.tables.exec = Jvm.exec) (lk : meth.locks = false) {pc : Nat} {Ls : Array Slot} {rest : List Value} {w : Value} {t : FieldType}  (hret : meth.sig.returnType = some t) (ht : t.isReference = true) (hw : w.isRef = true) (hd : decode c.code pc = .ok (.areturn, 1)) (hK : cells ≤ K) (hJ : slots ≤ J) (hq : Q (some w) T.heap locs) : Ends p e below s K J Q (T.setTop (mkF m pc Ls (w :: rest))) := by
  obtain ⟨fs, hr, hrun, hended, hW, hsame⟩ := X.leave (v := (some w)) (fun h => by rw [hret] at h; cases h) lk
  exact ⟨_, _, retOut X hx (w := w) (t := t) hret (by rcases ref_cases hw with rfl | ⟨_, rfl⟩ <;> cases t <;> rfl) (Or.inr (Or.inr (Or.inr (Or.inr ⟨rfl, ht, hw⟩)))) hd hr, hrun, hended, _, _, rfl, hq, ⟨_, rfl⟩, hW, hsame.mono hK hJ⟩
theorem own_callS (X : Stand p l e R s m args below meth c T locs cells slots) (hx : p.tables.exec = Jvm.exec) (hZ : Z.Warmed39 s.vm) {own : String} {index : Nat} {y : MethodName} {bytes : ByteArray} {maxL : Nat} {ret : Option FieldType} (hown : s.vm.findClass own = some m.cls) (wl : (Cond.methodLink own index y).before a0 Z = true) (ws : (Cond.static y).before a0 Z = true) (wz : (Cond.initialized y.cls).before a0 Z = true) (wc : (Cond.code y bytes maxL ret).before a0 Z = true) (hy : y.cls ≠ "java/lang/invoke/MethodHandle" ∧ y.cls ≠ "java/lang/invoke/VarHandle") (eT : T.heap = h)
    {rm : Room} {Qc : Option Value → Heap → List Loc → Prop} {as' : Array Value} (hM : MetFree l y (head1 [Cond.code y bytes maxL ret] rm) (fun a U => a = as' ∧ Z.Warmed39 U.vm ∧ U.heap = h) (fun _ _ _ _ _ => True) (fun _ U o U' => ∃ v L, o = .returned v ∧ Qc v U'.heap L ∧ FrameEnd U o U' L rm.cells rm.slots)) {W : Nat} (hf : rm.frames + 1 ≤ R.frames) (hl : W + (maxL + 11) + rm.locals ≤ R.locals) (hc : cells + rm.cells ≤ R.cells) (hsl : slots + rm.slots ≤ R.slots) {pc n : Nat} {Ls : Array Slot} (hsize : Ls.size = c.maxLocals) {argsL rest : List Value} {ps : List FieldType} {r : Option FieldType} (hpd : parseMethodDescriptor y.desc = some ⟨ps, r⟩) (hlen : argsL.length = ps.length) (has : argsL.toArray = as') (hW : 0 + (rest.map fun v => v.category).sum ≤ W) (hd : decode c.code pc = .ok (.invokestatic index, 3)) (hn : pc + 3 = n) {st : List Value} (hst : st = argsL.reverse ++ rest)
    (k : ∀ v T' h' L', Stand p l e R s m args below meth c T' (locs ++ L') (cells + rm.cells) (slots + rm.slots) → T'.heap = h' → Qc v h' L' → Ends p e below s K J Q (T'.setTop (mkF m n Ls (v.toList ++ rest)))) : Ends p e below s K J Q (T.setTop (mkF m pc Ls st)) := by
  subst hn
  obtain ⟨v, _, ⟨T18, L18, k18, n18⟩, -, X18, ⟨Lc18, hQ18, l18, y18, z18⟩, st18⟩ := Jvm.LawKit.callS X hx hown (mvT hZ wl) (mvT hZ ws) (mvT hZ wz) (mvT hZ wc) hy (backOf (W := W) hM hZ wc wz hf hl) (g := mkF m pc Ls st) rfl hsize (argsL := argsL) (rest := rest) (lenOf hpd hlen) hst hW hd (fun _ _ => ⟨has, eT, hc, hsl⟩)
  dsimp only [Pt.U, Pt.locs, Pt.cells, Pt.slots] at X18 l18 y18 z18 st18 hQ18
  subst l18 y18 z18
  exact Ends.via (fun t h => st18 t h) (k v T18 _ Lc18 X18 rfl hQ18)
theorem own_callN (X : Stand p l e R s m args below meth c T locs cells slots) (hx : p.tables.exec = Jvm.exec) (hZ : Z.Warmed39 s.vm) {own : String} {index : Nat} {y : MethodName} {bytes : ByteArray} {maxL : Nat} (hy1 : y.name = "<init>") (hown : s.vm.findClass own = some m.cls) (wl : (Cond.methodLink own index y).before a0 Z = true) (wi : (Cond.instanceMethod y).before a0 Z = true) (wz : (Cond.initialized y.cls).before a0 Z = true) (wc : (Cond.code y bytes maxL none).before a0 Z = true) (hy : y.cls ≠ "java/lang/invoke/MethodHandle" ∧ y.cls ≠ "java/lang/invoke/VarHandle") (eT : T.heap = h)
    {rm : Room} {Qc : Option Value → Heap → List Loc → Prop} {as' : Array Value} (hM : MetFree l y (head1 [Cond.code y bytes maxL none] rm) (fun a U => a = as' ∧ Z.Warmed39 U.vm ∧ U.heap = h) (fun _ _ _ _ _ => True) (fun _ U o U' => ∃ v L, o = .returned v ∧ Qc v U'.heap L ∧ FrameEnd U o U' L rm.cells rm.slots)) {W : Nat} (hf : rm.frames + 1 ≤ R.frames) (hl : W + (maxL + 11) + rm.locals ≤ R.locals) (hc : cells + rm.cells ≤ R.cells) (hsl : slots + rm.slots ≤ R.slots) {pc n : Nat} {Ls : Array Slot} (hsize : Ls.size = c.maxLocals) {argsL rest : List Value} {ps : List FieldType} {r : Option FieldType} (hpd : parseMethodDescriptor y.desc = some ⟨ps, r⟩) (hlen : argsL.length = ps.length) {a : Addr} (has : (.ref a :: argsL).toArray = as') (hW : 0 + (rest.map fun v => v.category).sum ≤ W) (hd : decode c.code pc = .ok (.invokespecial index, 3)) (hn : pc + 3 = n) {st : List Value} (hst : st = argsL.reverse ++ .ref a :: rest)
    (k : ∀ v T' h' L', Stand p l e R s m args below meth c T' (locs ++ L') (cells + rm.cells) (slots + rm.slots) → T'.heap = h' → Qc v h' L' → Ends p e below s K J Q (T'.setTop (mkF m n Ls (v.toList ++ rest)))) : Ends p e below s K J Q (T.setTop (mkF m pc Ls st)) := by
  subst hn
  obtain ⟨v, _, ⟨T18, L18, k18, n18⟩, -, X18, ⟨Lc18, hQ18, l18, y18, z18⟩, st18⟩ := X.specialBack hx hy1 hown (mvT hZ wl) (mvT hZ wi) (mvT hZ wc) hy (backOf (W := W) hM hZ wc wz hf hl) (g := mkF m pc Ls st) rfl hsize (Steps.refl _) (a := a) (argsL := argsL) (rest := rest) (lenOf hpd hlen) hst hW hd (fun _ _ => ⟨has, eT, hc, hsl⟩)
  dsimp only [Pt.U, Pt.locs, Pt.cells, Pt.slots] at X18 l18 y18 z18 st18 hQ18
  subst l18 y18 z18
  exact Ends.tr st18 (k v T18 _ Lc18 X18 rfl hQ18)
theorem own_callV (X : Stand p l e R s m args below meth c T locs cells slots) (hx : p.tables.exec = Jvm.exec) (hZ : Z.Warmed39 s.vm) {own C : String} {index : Nat} {y : MethodName} {bytes : ByteArray} {maxL : Nat} {ret : Option FieldType} (hown : s.vm.findClass own = some m.cls) (wl : (Cond.methodLink own index y).before a0 Z = true) (wd : (Cond.declares y).before a0 Z = true) (wsel : (Cond.selects C y y).before a0 Z = true) (wi : (Cond.instanceMethod y).before a0 Z = true) (wz : (Cond.initialized y.cls).before a0 Z = true) (wc : (Cond.code y bytes maxL ret).before a0 Z = true) (hy : y.cls ≠ "java/lang/invoke/MethodHandle" ∧ y.cls ≠ "java/lang/invoke/VarHandle") (eT : T.heap = h) {a : Addr} (EX : Exa Z h a C)
    {rm : Room} {Qc : Option Value → Heap → List Loc → Prop} {as' : Array Value} (hM : MetFree l y (head1 [Cond.code y bytes maxL ret] rm) (fun a U => a = as' ∧ Z.Warmed39 U.vm ∧ U.heap = h) (fun _ _ _ _ _ => True) (fun _ U o U' => ∃ v L, o = .returned v ∧ Qc v U'.heap L ∧ FrameEnd U o U' L rm.cells rm.slots)) {W : Nat} (hf : rm.frames + 1 ≤ R.frames) (hl : W + (maxL + 11) + rm.locals ≤ R.locals) (hc : cells + rm.cells ≤ R.cells) (hsl : slots + rm.slots ≤ R.slots) {pc n : Nat} {Ls : Array Slot} (hsize : Ls.size = c.maxLocals) {argsL rest : List Value} {ps : List FieldType} {r : Option FieldType} (hpd : parseMethodDescriptor y.desc = some ⟨ps, r⟩) (hlen : argsL.length = ps.length) (has : (.ref a :: argsL).toArray = as') (hW : 0 + (rest.map fun v => v.category).sum ≤ W) (hd : decode c.code pc = .ok (.invokevirtual index, 3)) (hn : pc + 3 = n) {st : List Value} (hst : st = argsL.reverse ++ .ref a :: rest)
    (k : ∀ v T' h' L', Stand p l e R s m args below meth c T' (locs ++ L') (cells + rm.cells) (slots + rm.slots) → T'.heap = h' → Qc v h' L' → Ends p e below s K J Q (T'.setTop (mkF m n Ls (v.toList ++ rest)))) : Ends p e below s K J Q (T.setTop (mkF m pc Ls st)) := by
  subst hn
  obtain ⟨cq, kq, qa, qb, qc⟩ := isOf hZ eT EX
  obtain ⟨v, _, ⟨T18, L18, k18, n18⟩, -, X18, ⟨Lc18, hQ18, l18, y18, z18⟩, st18⟩ := X.virtualBack hx hown (mvT hZ wl) (mvT hZ wd) (notFace_of_selects (args := #[]) (mvT hZ wsel)) (mvT hZ wsel) (mvT hZ wi) hy (backOf (W := W) hM hZ wc wz hf hl) qa qc (g := mkF m pc Ls st) rfl hsize (Steps.refl _) (argsL := argsL) (rest := rest) (lenOf hpd hlen) hst hW hd (fun _ _ => ⟨has, eT, hc, hsl⟩)
  dsimp only [Pt.U, Pt.locs, Pt.cells, Pt.slots] at X18 l18 y18 z18 st18 hQ18
  subst l18 y18 z18
  exact Ends.tr st18 (k v T18 _ Lc18 X18 rfl hQ18)
theorem own_getF (X : Stand p l e R s m args below meth c T locs cells slots) (hx : p.tables.exec = Jvm.exec) (hZ : Z.Warmed39 s.vm) {own C f d : String} {index : Nat} (hown : s.vm.findClass own = some m.cls) (w : (Cond.fieldLink own index C f d).before a0 Z = true) (eT : T.heap = h) {a : Addr} {v : Value} (F : Fld Z h a C f d v) {pc n : Nat} {Ls : Array Slot} {st : List Value} (hd : decode c.code pc = .ok (.getfield index, 3)) (hn : pc + 3 = n)
    (k : ∀ T', Stand p l e R s m args below meth c T' locs cells slots → T'.heap = h → Ends p e below s K J Q (T'.setTop (mkF m n Ls (v :: st)))) : Ends p e below s K J Q (T.setTop (mkF m pc Ls (.ref a :: st))) := by
  subst hn
  obtain ⟨T', X', e', st'⟩ := Jvm.RoadKit.getF X hx hZ hown (host := "") (Or.inl w) Via.refl eT F (g := mkF m pc Ls (.ref a :: st)) rfl rfl hd
  exact Ends.via (fun t h => st' t h) (k T' X' e')
theorem own_getS (X : Stand p l e R s m args below meth c T locs cells slots) (hx : p.tables.exec = Jvm.exec) (hZ : Z.Warmed39 s.vm) {own C f d : String} {index : Nat} (hown : s.vm.findClass own = some m.cls) (w : (Cond.fieldLink own index C f d).before a0 Z = true) (eT : T.heap = h) {v : Value} (F : Sta Z h C f d v) {pc n : Nat} {Ls : Array Slot} {st : List Value} (hd : decode c.code pc = .ok (.getstatic index, 3)) (hn : pc + 3 = n)
    (k : ∀ T', Stand p l e R s m args below meth c T' locs cells slots → T'.heap = h → Ends p e below s K J Q (T'.setTop (mkF m n Ls (v :: st)))) : Ends p e below s K J Q (T.setTop (mkF m pc Ls st)) := by
  subst hn
  obtain ⟨T', X', e', st'⟩ := getS2 X hx hZ hown (host := "") (Or.inl w) Via.refl eT F (g := mkF m pc Ls st) rfl hd
  exact Ends.via (fun t h => st' t h) (k T' X' e')
theorem own_putF (X : Stand p l e R s m args below meth c T locs cells slots) (hx : p.tables.exec = Jvm.exec) (hZ : Z.Warmed39 s.vm) {own C f d CC : String} {index kk : Nat} {ty : FieldType} (hown : s.vm.findClass own = some m.cls) (w : (Cond.fieldLink own index C f d).before a0 Z = true) (eT : T.heap = h) {a : Addr} {v old : Value} (F : Fld Z h a C f d old) (EX : Exa Z h a CC) (Lw : (Cond.lays CC C f d).before a0 Z = true ∨ ((Cond.laysFinal CC C f d).before a0 Z = true ∧ own = C ∧ meth.name = "<init>")) (wi : (Cond.instantiable CC kk).before a0 Z = true) (hty : parseFieldDescriptor d = some ty) (hnw : narrow ty v = v) (hft : fits ty v = true) {pc n : Nat} {Ls : Array Slot} {st : List Value} (hd : decode c.code pc = .ok (.putfield index, 3)) (hn : pc + 3 = n)
    (k : ∀ T' h', Stand p l e R s m args below meth c T' (locs ++ [⟨a, Jvm.RoadKit.slotOf Z C f d⟩]) cells slots → T'.heap = h' → Wr h h' a (Jvm.RoadKit.slotOf Z C f d) v → Ends p e below s K J Q (T'.setTop (mkF m n Ls st))) : Ends p e below s K J Q (T.setTop (mkF m pc Ls (v :: .ref a :: st))) := by
  subst hn
  obtain ⟨T', h', X', e', W', st'⟩ := Jvm.RoadKit.putF X hx hZ hown (host := "") (Or.inl w) Via.refl eT F EX Lw wi hty hnw hft (g := mkF m pc Ls (v :: .ref a :: st)) rfl rfl hd
  exact Ends.via (fun t h => st' t h) (k T' h' X' e' W')
theorem own_newO (X : Stand p l e R s m args below meth c T locs cells slots) (hx : p.tables.exec = Jvm.exec) (hZ : Z.Warmed39 s.vm) {own C : String} {index i : Nat} (hown : s.vm.findClass own = some m.cls) (w : (Cond.classLink own index C).before a0 Z = true) (wi : (Cond.instantiable C i).before a0 Z = true) (wz : (Cond.initialized C).before a0 Z = true) (eT : T.heap = h) (hc : cells + 1 ≤ R.cells) (hl : slots + i ≤ R.slots) {pc n : Nat} {Ls : Array Slot} {st : List Value} (hd : decode c.code pc = .ok (.new index, 3)) (hn : pc + 3 = n)
    (k : ∀ T' h' b, Stand p l e R s m args below meth c T' locs (cells + 1) (slots + i) → T'.heap = h' → b = h.size → Ext h h' → Exa Z h' b C → (∀ {O nm d : String} {ty : FieldType}, Laid Z a0 C O nm d → parseFieldDescriptor d = some ty → Fld Z h' b O nm d (defaultValue ty)) → Ends p e below s K J Q (T'.setTop (mkF m n Ls (.ref b :: st)))) : Ends p e below s K J Q (T.setTop (mkF m pc Ls st)) := by
  subst hn
  obtain ⟨T', h', X', e', E', A', D', -, st'⟩ := Jvm.RoadKit.newO X hx hZ hown w wi wz eT (g := mkF m pc Ls st) rfl hd hc hl
  exact Ends.via (fun t h => st' t h) (k T' h' _ X' e' rfl E' A' D')
theorem own_initO (X : Stand p l e R s m args below meth c T locs cells slots) (hx : p.tables.exec = Jvm.exec) (hZ : Z.Warmed39 s.vm) {own : String} {index : Nat} (hown : s.vm.findClass own = some m.cls) (w1 : (Cond.methodLink own index Lib.objectInit).before a0 Z = true) (w2 : (Cond.instanceMethod Lib.objectInit).before a0 Z = true) (w3 : (Cond.code Lib.objectInit ⟨#[0xb1]⟩ 1 none).before a0 Z = true) (eT : T.heap = h) {a : Addr} {pc n : Nat} {Ls : Array Slot} {st : List Value} (hsize : Ls.size = c.maxLocals) (hd : decode c.code pc = .ok (.invokespecial index, 3)) (hn : pc + 3 = n) (hf : 1 ≤ R.frames) {W : Nat} (hW : 0 + (st.map fun v => v.category).sum ≤ W) (hl : W + 12 ≤ R.locals)
    (k : ∀ T', Stand p l e R s m args below meth c T' locs cells slots → T'.heap = h → Ends p e below s K J Q (T'.setTop (mkF m n Ls (st)))) : Ends p e below s K J Q (T.setTop (mkF m pc Ls (.ref a :: st))) := by
  subst hn
  obtain ⟨T', X', e', st'⟩ := Jvm.RoadKit.initO X hx hZ hown w1 w2 w3 eT (g := mkF m pc Ls (.ref a :: st)) rfl hsize rfl hd hf (W := W) hW hl
  exact Ends.via (fun t h => st' t h) (k T' X' e')
/-- an array of n places: the j-th holds f j -/
def VA (Z : State) (h : Heap) (a : Addr) (ty : FieldType) (n : Nat) (f : Nat → Value) : Prop := n < 2 ^ 31 ∧ ∃ c : Cell, Arr Z h a c ty ∧ c.slots.size = n ∧ ∀ j, j < n → c.slots[j]? = some (f j)
theorem VA.ext {h' : Heap} {a : Addr} {ty : FieldType} {n : Nat} {f : Nat → Value} (F : VA Z h a ty n f) (E : Ext h h') : VA Z h' a ty n f := by obtain ⟨q, c, A, r⟩ := F; exact ⟨q, c, A.ext E, r⟩
theorem VA.keep {h' : Heap} {a : Addr} {ty : FieldType} {n : Nat} {f : Nat → Value} {ws : List Addr} (F : VA Z h a ty n f) (K : Keep h h' ws) (q : a ∉ ws) : VA Z h' a ty n f := by obtain ⟨r0, c, A, r⟩ := F; exact ⟨r0, c, ⟨K.2.1 a c A.1 q, A.2⟩, r⟩
theorem VA.wrO {h' : Heap} {a b : Addr} {sl : Nat} {w : Value} {ty : FieldType} {n : Nat} {f : Nat → Value} (F : VA Z h a ty n f) (W : Wr h h' b sl w) (q : a ≠ b) : VA Z h' a ty n f := by obtain ⟨r0, c, A, r⟩ := F; exact ⟨r0, c, A.other W q, r⟩
theorem VA.lt {a : Addr} {ty : FieldType} {n : Nat} {f : Nat → Value} (F : VA Z h a ty n f) : a < h.size := by obtain ⟨-, c, A, -⟩ := F; exact A.lt
theorem VA.set {h' : Heap} {a : Addr} {ty : FieldType} {n i : Nat} {f : Nat → Value} {w : Value} (F : VA Z h a ty n f) (W : Wr h h' a i w) (hi : i < n) : VA Z h' a ty n (fun j => if j = i then w else f j) := by
  obtain ⟨q, c, A, r1, r2⟩ := F
  refine ⟨q, _, A.same W, (sz_set c i w).trans r1, fun j hj => ?_⟩
  by_cases e : j = i
  · subst e
    simp [Cell.setSlot, r1, hj]
  · show (c.setSlot i w).slots[j]? = some (if j = i then w else f j)
    rw [if_neg e, ← r2 j hj]
    exact Array.getElem?_setIfInBounds_ne (fun z => e z.symm)
theorem VA.congr {a : Addr} {ty : FieldType} {n : Nat} {f g : Nat → Value} (F : VA Z h a ty n f) (e : ∀ j, j < n → f j = g j) : VA Z h a ty n g := by obtain ⟨q, c, A, r1, r2⟩ := F; exact ⟨q, c, A, r1, fun j hj => (r2 j hj).trans (congrArg some (e j hj))⟩
def IA (Z : State) (h : Heap) (a : Addr) (n : Nat) (g : Nat → Int32) : Prop := VA Z h a .int n (fun j => .int (g j))
theorem IA.ext {h' : Heap} {a : Addr} {n : Nat} {g : Nat → Int32} (F : IA Z h a n g) (E : Ext h h') : IA Z h' a n g := VA.ext F E
theorem IA.keep {h' : Heap} {a : Addr} {n : Nat} {g : Nat → Int32} {ws : List Addr} (F : IA Z h a n g) (K : Keep h h' ws) (q : a ∉ ws) : IA Z h' a n g := VA.keep F K q
theorem IA.wrO {h' : Heap} {a b : Addr} {sl : Nat} {w : Value} {n : Nat} {g : Nat → Int32} (F : IA Z h a n g) (W : Wr h h' b sl w) (q : a ≠ b) : IA Z h' a n g := VA.wrO F W q
theorem IA.lt {a : Addr} {n : Nat} {g : Nat → Int32} (F : IA Z h a n g) : a < h.size := VA.lt F
theorem IA.set {h' : Heap} {a : Addr} {n i : Nat} {g : Nat → Int32} {x : Int32} (F : IA Z h a n g) (W : Wr h h' a i (.int x)) (hi : i < n) : IA Z h' a n (fun j => if j = i then x else g j) :=
  VA.congr (VA.set F W hi) fun j _ => by by_cases e : j = i <;> simp [e]
theorem IA.congr {a : Addr} {n : Nat} {f g : Nat → Int32} (F : IA Z h a n f) (e : ∀ j, j < n → f j = g j) : IA Z h a n g := VA.congr F fun j hj => by rw [e j hj]
theorem own_clamp {j : Int32} {i : Nat} (hj : j.toInt = (i : Int)) : j.toNatClampNeg = i ∧ ¬ j < 0 := by
  refine ⟨by simp only [Int32.toNatClampNeg, hj]; rfl, fun q => ?_⟩
  rw [Int32.lt_iff_toInt_lt, hj] at q
  have o : (0 : Int32).toInt = 0 := rfl
  omega
theorem own_in {j : Int32} {i n : Nat} {c : Cell} (hj : j.toInt = (i : Int)) (hi : i < n) (S : c.slots.size = n) : ¬ (j < 0 ∨ c.slots.size ≤ j.toNatClampNeg) := by
  obtain ⟨q1, q2⟩ := own_clamp hj
  rintro (z | z)
  · exact q2 z
  · rw [q1, S] at z; omega
theorem own_newI (X : Stand p l e R s m args below meth c T locs cells slots) (hx : p.tables.exec = Jvm.exec) (hZ : Z.Warmed39 s.vm) (w : (Cond.arrayClass .int).before a0 Z = true) (eT : T.heap = h) {N : Int32} {i cap : Nat} (hN : N.toInt = (i : Int)) (hcap : i ≤ cap) (hb : cap * 8 ≤ 536870912) (hc : cells + 1 ≤ R.cells) (hl : slots + cap ≤ R.slots) {pc n : Nat} {Ls : Array Slot} {st : List Value} (hd : decode c.code pc = .ok (.newarray .int, 2)) (hn : pc + 2 = n)
    (k : ∀ T' h' b, Stand p l e R s m args below meth c T' locs (cells + 1) (slots + cap) → T'.heap = h' → b = h.size → Ext h h' → IA Z h' b i (fun _ => 0) → Ends p e below s K J Q (T'.setTop (mkF m n Ls (.ref b :: st)))) : Ends p e below s K J Q (T.setTop (mkF m pc Ls (.int N :: st))) := by
  subst hn
  obtain ⟨q1, q2⟩ := own_clamp hN
  obtain ⟨T', h', cA, X', e', E', A', st'⟩ := newP X hx hZ (aty := .int) w eT (g := mkF m pc Ls (.int N :: st)) rfl hd rfl q2 (cap := cap) (by rw [q1]; exact hcap) hb hc hl
  have b1 := rng32 N
  refine Ends.via (fun t h => st' t h) (k T' h' _ X' e' rfl E' ⟨by omega, _, A', (sz_new _ _ _).trans q1, fun j hj => ?_⟩)
  simp [newA, q1, hj]
  rfl
theorem own_iastore (X : Stand p l e R s m args below meth c T locs cells slots) (hx : p.tables.exec = Jvm.exec) (hZ : Z.Warmed39 s.vm) (eT : T.heap = h) {a : Addr} {N : Nat} {g : Nat → Int32} (F : IA Z h a N g) {j x : Int32} {i : Nat} (hj : j.toInt = (i : Int)) (hi : i < N) {pc n : Nat} {Ls : Array Slot} {st : List Value} (hd : decode c.code pc = .ok (.iastore, 1)) (hn : pc + 1 = n)
    (k : ∀ T' h', Stand p l e R s m args below meth c T' (locs ++ [⟨a, i⟩]) cells slots → T'.heap = h' → Wr h h' a i (.int x) → IA Z h' a N (fun y => if y = i then x else g y) → Ends p e below s K J Q (T'.setTop (mkF m n Ls st))) : Ends p e below s K J Q (T.setTop (mkF m pc Ls (.int x :: .int j :: .ref a :: st))) := by
  subst hn
  have F' := F
  obtain ⟨q, cl, A, S, H⟩ := F
  obtain ⟨q1, q2⟩ := own_clamp hj
  obtain ⟨T', h', X', e', W', st'⟩ := stI X hx hZ eT A (j := j) (own_in hj hi S) (g := mkF m pc Ls (.int x :: .int j :: .ref a :: st)) rfl rfl hd
  rw [q1] at X' W'
  exact Ends.via (fun t h => st' t h) (k T' h' X' e' W' (IA.set F' W' hi))
theorem own_iaload (X : Stand p l e R s m args below meth c T locs cells slots) (hx : p.tables.exec = Jvm.exec) (hZ : Z.Warmed39 s.vm) (eT : T.heap = h) {a : Addr} {N : Nat} {g : Nat → Int32} (F : IA Z h a N g) {j : Int32} {i : Nat} (hj : j.toInt = (i : Int)) (hi : i < N) {pc n : Nat} {Ls : Array Slot} {st : List Value} (hd : decode c.code pc = .ok (.iaload, 1)) (hn : pc + 1 = n)
    (k : Ends p e below s K J Q (T.setTop (mkF m n Ls (.int (g i) :: st)))) : Ends p e below s K J Q (T.setTop (mkF m pc Ls (.int j :: .ref a :: st))) := by
  subst hn
  obtain ⟨q, cl, A, S, H⟩ := F
  obtain ⟨q1, q2⟩ := own_clamp hj
  exact Ends.via (fun t h => X.iaload hx (j := j) (v := .int (g i)) (by rw [eT]; exact A.1) (State.isArrayOf_alike hZ.alike A.2.1) A.2.2 (own_in hj hi S) (by rw [q1]; exact H i hi) (g := mkF m pc Ls (.int j :: .ref a :: st)) rfl rfl hd _ h) k
theorem own_arraylength (X : Stand p l e R s m args below meth c T locs cells slots) (hx : p.tables.exec = Jvm.exec) (hZ : Z.Warmed39 s.vm) (eT : T.heap = h) {a : Addr} {ty : FieldType} {N : Nat} {g : Nat → Value} (F : VA Z h a ty N g) {v : Int32} (hv : v.toInt = (N : Int)) {pc n : Nat} {Ls : Array Slot} {st : List Value} (hd : decode c.code pc = .ok (.arraylength, 1)) (hn : pc + 1 = n)
    (k : Ends p e below s K J Q (T.setTop (mkF m n Ls (.int v :: st)))) : Ends p e below s K J Q (T.setTop (mkF m pc Ls (.ref a :: st))) := by
  subst hn
  obtain ⟨q, cl, A, S, H⟩ := F
  have e1 : cl.slots.size.toInt32 = v := Int32.toInt_inj.mp (by rw [len_toInt (by omega), hv, S])
  rw [← e1] at k
  exact Ends.via (fun t h => X.arraylength hx (by rw [eT]; exact A.1) (State.isArrayOf_alike hZ.alike A.2.1) (g := mkF m pc Ls (.ref a :: st)) rfl rfl hd _ h) k
/-- an array of references to C's -/
def RA (Z : State) (h : Heap) (a : Addr) (C : String) (n : Nat) (g : Nat → Value) : Prop := n < 2 ^ 31 ∧ ∃ c : Cell, Arr Z h a c (.object C) ∧ Ovr Z c.cls C ∧ c.slots.size = n ∧ ∀ j, j < n → c.slots[j]? = some (g j)
theorem RA.va {a : Addr} {C : String} {n : Nat} {g : Nat → Value} (F : RA Z h a C n g) : VA Z h a (.object C) n g := by obtain ⟨q, c, A, -, r⟩ := F; exact ⟨q, c, A, r⟩
theorem RA.ext {h' : Heap} {a : Addr} {C : String} {n : Nat} {g : Nat → Value} (F : RA Z h a C n g) (E : Ext h h') : RA Z h' a C n g := by obtain ⟨q, c, A, r⟩ := F; exact ⟨q, c, A.ext E, r⟩
theorem RA.keep {h' : Heap} {a : Addr} {C : String} {n : Nat} {g : Nat → Value} {ws : List Addr} (F : RA Z h a C n g) (K : Keep h h' ws) (q : a ∉ ws) : RA Z h' a C n g := by obtain ⟨r0, c, A, r⟩ := F; exact ⟨r0, c, ⟨K.2.1 a c A.1 q, A.2⟩, r⟩
theorem RA.wrO {h' : Heap} {a b : Addr} {sl : Nat} {w : Value} {C : String} {n : Nat} {g : Nat → Value} (F : RA Z h a C n g) (W : Wr h h' b sl w) (q : a ≠ b) : RA Z h' a C n g := by obtain ⟨r0, c, A, r⟩ := F; exact ⟨r0, c, A.other W q, r⟩
theorem RA.lt {a : Addr} {C : String} {n : Nat} {g : Nat → Value} (F : RA Z h a C n g) : a < h.size := by obtain ⟨-, c, A, -⟩ := F; exact A.lt
theorem RA.set {h' : Heap} {a : Addr} {C : String} {n i : Nat} {g : Nat → Value} {w : Value} (F : RA Z h a C n g) (W : Wr h h' a i w) (hi : i < n) : RA Z h' a C n (fun j => if j = i then w else g j) := by
  obtain ⟨q, c, A, O, r1, r2⟩ := F
  refine ⟨q, _, A.same W, O, (sz_set c i w).trans r1, fun j hj => ?_⟩
  by_cases e : j = i
  · subst e
    simp [Cell.setSlot, r1, hj]
  · show (c.setSlot i w).slots[j]? = some (if j = i then w else g j)
    rw [if_neg e, ← r2 j hj]
    exact Array.getElem?_setIfInBounds_ne (fun z => e z.symm)
theorem own_newR (X : Stand p l e R s m args below meth c T locs cells slots) (hx : p.tables.exec = Jvm.exec) (hZ : Z.Warmed39 s.vm) {own C : String} {index : Nat} (hown : s.vm.findClass own = some m.cls) (w1 : (Cond.classLink own index C).before a0 Z = true) (w2 : (Cond.arrayOver (.object C)).before a0 Z = true) (eT : T.heap = h) {N : Int32} {i cap : Nat} (hN : N.toInt = (i : Int)) (hcap : i ≤ cap) (hb : cap * 8 ≤ 536870912) (hc : cells + 1 ≤ R.cells) (hl : slots + cap ≤ R.slots) {pc n : Nat} {Ls : Array Slot} {st : List Value} (hd : decode c.code pc = .ok (.anewarray index, 3)) (hn : pc + 3 = n)
    (k : ∀ T' h' b, Stand p l e R s m args below meth c T' locs (cells + 1) (slots + cap) → T'.heap = h' → b = h.size → Ext h h' → RA Z h' b C i (fun _ => .null) → Ends p e below s K J Q (T'.setTop (mkF m n Ls (.ref b :: st)))) : Ends p e below s K J Q (T.setTop (mkF m pc Ls (.int N :: st))) := by
  subst hn
  obtain ⟨q1, q2⟩ := own_clamp hN
  obtain ⟨T', h', cA, X', e', E', A', O', st'⟩ := newR X hx hZ hown w1 w2 eT (g := mkF m pc Ls (.int N :: st)) rfl hd rfl q2 (cap := cap) (by rw [q1]; exact hcap) hb hc hl
  have b1 := rng32 N
  refine Ends.via (fun t h => st' t h) (k T' h' _ X' e' rfl E' ⟨by omega, _, A', O', (sz_new _ _ _).trans q1, fun j hj => ?_⟩)
  simp [newA, q1, hj]
  rfl
theorem own_aastore (X : Stand p l e R s m args below meth c T locs cells slots) (hx : p.tables.exec = Jvm.exec) (hZ : Z.Warmed39 s.vm) (eT : T.heap = h) {a y : Addr} {C : String} {N : Nat} {g : Nat → Value} (F : RA Z h a C N g) (I : Ins Z h y C true) {j : Int32} {i : Nat} (hj : j.toInt = (i : Int)) (hi : i < N) {pc n : Nat} {Ls : Array Slot} {st : List Value} (hd : decode c.code pc = .ok (.aastore, 1)) (hn : pc + 1 = n)
    (k : ∀ T' h', Stand p l e R s m args below meth c T' (locs ++ [⟨a, i⟩]) cells slots → T'.heap = h' → Wr h h' a i (.ref y) → RA Z h' a C N (fun z => if z = i then .ref y else g z) → Ends p e below s K J Q (T'.setTop (mkF m n Ls st))) : Ends p e below s K J Q (T.setTop (mkF m pc Ls (.ref y :: .int j :: .ref a :: st))) := by
  subst hn
  have F' := F
  obtain ⟨q, cl, A, O, S, H⟩ := F
  obtain ⟨q1, q2⟩ := own_clamp hj
  obtain ⟨T', h', X', e', W', st'⟩ := stR X hx hZ eT A (j := j) (own_in hj hi S) rfl (Sto.of A O I) (g := mkF m pc Ls (.ref y :: .int j :: .ref a :: st)) rfl rfl hd
  rw [q1] at X' W'
  exact Ends.via (fun t h => st' t h) (k T' h' X' e' W' (RA.set F' W' hi))
theorem own_aaload (X : Stand p l e R s m args below meth c T locs cells slots) (hx : p.tables.exec = Jvm.exec) (hZ : Z.Warmed39 s.vm) (eT : T.heap = h) {a : Addr} {C : String} {N : Nat} {g : Nat → Value} (F : RA Z h a C N g) {j : Int32} {i : Nat} (hj : j.toInt = (i : Int)) (hi : i < N) {v : Value} (hv : g i = v) {pc n : Nat} {Ls : Array Slot} {st : List Value} (hd : decode c.code pc = .ok (.aaload, 1)) (hn : pc + 1 = n)
    (k : Ends p e below s K J Q (T.setTop (mkF m n Ls (v :: st)))) : Ends p e below s K J Q (T.setTop (mkF m pc Ls (.int j :: .ref a :: st))) := by
  subst hn hv
  obtain ⟨q, cl, A, O, S, H⟩ := F
  obtain ⟨q1, q2⟩ := own_clamp hj
  exact Ends.via (fun t h => X.aaload hx (j := j) (v := g i) (by rw [eT]; exact A.1) (State.isArrayOf_alike hZ.alike A.2.1) rfl A.2.2 (own_in hj hi S) (by rw [q1]; exact H i hi) (g := mkF m pc Ls (.int j :: .ref a :: st)) rfl rfl hd _ h) k
end Own
theorem own_fld {s : State} {args : Array Value} {t : Term} {a : Addr} {C n d : String} {k : Int32} (ev : t.eval args s none [] s = some (.ref a)) (h : (Cond.eq (Term.field t C n d) (Term.int k)).value args s none s [] = some true) : Fld s s.heap a C n d (.int k) := by
  obtain ⟨x, y, h1, h2, -, h3⟩ := cmp_v (Or.inl h)
  have e2 : y = .int k := (Option.some.inj h2).symm
  subst e2
  obtain ⟨z, rfl⟩ := h3
  have q := gotT (Cond.eq_ints h1 (Term.int_eval k)) h
  subst q
  rw [fld_at ev] at h1
  exact Fld.start h1
theorem own_ords {Z : State} {h : Heap} {a b : Addr} {C n d : String} {i j : Int32} (F : Fld Z h a C n d (.int i)) (G : Fld Z h b C n d (.int j)) (q : i ≠ j) : a ≠ b := Fld.ne F G fun z => q (Value.int.inj z)
theorem own_inj {Z : State} {h : Heap} {en : Nat → Addr} {C n d : String} (N : Nat) (hN : N ≤ 1000) (ORD : ∀ i, i < N → Fld Z h (en i) C n d (.int i.toInt32)) : ∀ i j, i < N → j < N → en i = en j → i = j := fun i j hi hj q => by
  apply Classical.byContradiction
  intro hne
  refine Fld.ne (ORD i hi) (ORD j hj) (fun z => hne ?_) q
  have z' := congrArg Int32.toInt (Value.int.inj z)
  rw [len_toInt (by omega), len_toInt (by omega)] at z'
  omega
def HD (Z : State) (h : Heap) (a : Addr) (v0 : Value) (v1 : Value) (v2 : Value) (v3 : Int32) : Prop := Exa Z h a "com/example/idun/idun/http1/Head" ∧ Fld Z h a "com/example/idun/idun/http1/Head" "places" "[I" v0 ∧ Fld Z h a "com/example/idun/idun/http1/Head" "names" "[Lcom/example/idun/idun/http1/FieldName;" v1 ∧ Fld Z h a "com/example/idun/idun/http1/Head" "tokens" "[I" v2 ∧ Fld Z h a "com/example/idun/idun/http1/Head" "fields" "I" (.int v3)
theorem HD.ext {Z : State} {h h' : Heap} {a : Addr} {v0 : Value} {v1 : Value} {v2 : Value} {v3 : Int32} (F : HD Z h a v0 v1 v2 v3) (E : Ext h h') : HD Z h' a v0 v1 v2 v3 := ⟨F.1.ext E, F.2.1.ext E, F.2.2.1.ext E, F.2.2.2.1.ext E, F.2.2.2.2.ext E⟩
theorem HD.keep {Z : State} {h h' : Heap} {a : Addr} {v0 : Value} {v1 : Value} {v2 : Value} {v3 : Int32} {ws : List Addr} (F : HD Z h a v0 v1 v2 v3) (K : Keep h h' ws) (q : a ∉ ws) : HD Z h' a v0 v1 v2 v3 := ⟨F.1.keep K, F.2.1.keep K q, F.2.2.1.keep K q, F.2.2.2.1.keep K q, F.2.2.2.2.keep K q⟩
theorem HD.lt {Z : State} {h : Heap} {a : Addr} {v0 : Value} {v1 : Value} {v2 : Value} {v3 : Int32} (F : HD Z h a v0 v1 v2 v3) : a < h.size := F.1.lt
theorem HD.wrO {Z : State} {h h' : Heap} {a : Addr} {v0 : Value} {v1 : Value} {v2 : Value} {v3 : Int32} {b : Addr} {sl : Nat} {w : Value} (F : HD Z h a v0 v1 v2 v3) (W : Wr h h' b sl w) (q : a ≠ b) : HD Z h' a v0 v1 v2 v3 := ⟨F.1.wr W, F.2.1.other W (Or.inl q), F.2.2.1.other W (Or.inl q), F.2.2.2.1.other W (Or.inl q), F.2.2.2.2.other W (Or.inl q)⟩
theorem HD.set_places {Z : State} {h h' : Heap} {a : Addr} {v0 : Value} {v1 : Value} {v2 : Value} {v3 : Int32} {w : Value} {a0 : Array Value} (hw : ∀ d ∈ tables_1, d.before a0 Z = true) (F : HD Z h a v0 v1 v2 v3) (W : Wr h h' a (Jvm.RoadKit.slotOf Z "com/example/idun/idun/http1/Head" "places" "[I") w) : HD Z h' a w v1 v2 v3 := ⟨F.1.wr W, F.2.1.same W, F.2.2.1.other W (Or.inr (slot_ne (a0 := a0) (Or.inl (hw _ (List.mem_of_getElem? (i := 16) rfl))) (Or.inl (hw _ (List.mem_of_getElem? (i := 12) rfl))) (by decide) (t := (.array (.object "com/example/idun/idun/http1/FieldName"))) (t' := (.array .int)) (by decide) (by decide))), F.2.2.2.1.other W (Or.inr (slot_ne (a0 := a0) (Or.inl (hw _ (List.mem_of_getElem? (i := 18) rfl))) (Or.inl (hw _ (List.mem_of_getElem? (i := 12) rfl))) (by decide) (t := (.array .int)) (t' := (.array .int)) (by decide) (by decide))), F.2.2.2.2.other W (Or.inr (slot_ne (a0 := a0) (Or.inl (hw _ (List.mem_of_getElem? (i := 32) rfl))) (Or.inl (hw _ (List.mem_of_getElem? (i := 12) rfl))) (by decide) (t := .int) (t' := (.array .int)) (by decide) (by decide)))⟩
theorem HD.set_names {Z : State} {h h' : Heap} {a : Addr} {v0 : Value} {v1 : Value} {v2 : Value} {v3 : Int32} {w : Value} {a0 : Array Value} (hw : ∀ d ∈ tables_1, d.before a0 Z = true) (F : HD Z h a v0 v1 v2 v3) (W : Wr h h' a (Jvm.RoadKit.slotOf Z "com/example/idun/idun/http1/Head" "names" "[Lcom/example/idun/idun/http1/FieldName;") w) : HD Z h' a v0 w v2 v3 := ⟨F.1.wr W, F.2.1.other W (Or.inr (slot_ne (a0 := a0) (Or.inl (hw _ (List.mem_of_getElem? (i := 12) rfl))) (Or.inl (hw _ (List.mem_of_getElem? (i := 16) rfl))) (by decide) (t := (.array .int)) (t' := (.array (.object "com/example/idun/idun/http1/FieldName"))) (by decide) (by decide))), F.2.2.1.same W, F.2.2.2.1.other W (Or.inr (slot_ne (a0 := a0) (Or.inl (hw _ (List.mem_of_getElem? (i := 18) rfl))) (Or.inl (hw _ (List.mem_of_getElem? (i := 16) rfl))) (by decide) (t := (.array .int)) (t' := (.array (.object "com/example/idun/idun/http1/FieldName"))) (by decide) (by decide))), F.2.2.2.2.other W (Or.inr (slot_ne (a0 := a0) (Or.inl (hw _ (List.mem_of_getElem? (i := 32) rfl))) (Or.inl (hw _ (List.mem_of_getElem? (i := 16) rfl))) (by decide) (t := .int) (t' := (.array (.object "com/example/idun/idun/http1/FieldName"))) (by decide) (by decide)))⟩
theorem HD.set_tokens {Z : State} {h h' : Heap} {a : Addr} {v0 : Value} {v1 : Value} {v2 : Value} {v3 : Int32} {w : Value} {a0 : Array Value} (hw : ∀ d ∈ tables_1, d.before a0 Z = true) (F : HD Z h a v0 v1 v2 v3) (W : Wr h h' a (Jvm.RoadKit.slotOf Z "com/example/idun/idun/http1/Head" "tokens" "[I") w) : HD Z h' a v0 v1 w v3 := ⟨F.1.wr W, F.2.1.other W (Or.inr (slot_ne (a0 := a0) (Or.inl (hw _ (List.mem_of_getElem? (i := 12) rfl))) (Or.inl (hw _ (List.mem_of_getElem? (i := 18) rfl))) (by decide) (t := (.array .int)) (t' := (.array .int)) (by decide) (by decide))), F.2.2.1.other W (Or.inr (slot_ne (a0 := a0) (Or.inl (hw _ (List.mem_of_getElem? (i := 16) rfl))) (Or.inl (hw _ (List.mem_of_getElem? (i := 18) rfl))) (by decide) (t := (.array (.object "com/example/idun/idun/http1/FieldName"))) (t' := (.array .int)) (by decide) (by decide))), F.2.2.2.1.same W, F.2.2.2.2.other W (Or.inr (slot_ne (a0 := a0) (Or.inl (hw _ (List.mem_of_getElem? (i := 32) rfl))) (Or.inl (hw _ (List.mem_of_getElem? (i := 18) rfl))) (by decide) (t := .int) (t' := (.array .int)) (by decide) (by decide)))⟩
theorem HD.set_fields {Z : State} {h h' : Heap} {a : Addr} {v0 : Value} {v1 : Value} {v2 : Value} {v3 : Int32} {w : Int32} {a0 : Array Value} (hw : ∀ d ∈ tables_1, d.before a0 Z = true) (F : HD Z h a v0 v1 v2 v3) (W : Wr h h' a (Jvm.RoadKit.slotOf Z "com/example/idun/idun/http1/Head" "fields" "I") (.int w)) : HD Z h' a v0 v1 v2 w := ⟨F.1.wr W, F.2.1.other W (Or.inr (slot_ne (a0 := a0) (Or.inl (hw _ (List.mem_of_getElem? (i := 12) rfl))) (Or.inl (hw _ (List.mem_of_getElem? (i := 32) rfl))) (by decide) (t := (.array .int)) (t' := .int) (by decide) (by decide))), F.2.2.1.other W (Or.inr (slot_ne (a0 := a0) (Or.inl (hw _ (List.mem_of_getElem? (i := 16) rfl))) (Or.inl (hw _ (List.mem_of_getElem? (i := 32) rfl))) (by decide) (t := (.array (.object "com/example/idun/idun/http1/FieldName"))) (t' := .int) (by decide) (by decide))), F.2.2.2.1.other W (Or.inr (slot_ne (a0 := a0) (Or.inl (hw _ (List.mem_of_getElem? (i := 18) rfl))) (Or.inl (hw _ (List.mem_of_getElem? (i := 32) rfl))) (by decide) (t := (.array .int)) (t' := .int) (by decide) (by decide))), F.2.2.2.2.same W⟩
/-- the head at a: its places, its names (the first k are known) -/
def HA (Z : State) (h : Heap) (a pl na : Addr) (tv : Value) (fl : Int32) (gp : Nat → Int32) (g : Nat → Value) : Prop := HD Z h a (.ref pl) (.ref na) tv fl ∧ IA Z h pl 32 gp ∧ RA Z h na "com/example/idun/idun/http1/FieldName" 8 g
def NE3 (n0 : Nat) (a d c : Addr) : Prop := n0 ≤ a ∧ n0 ≤ d ∧ n0 ≤ c ∧ a ≠ d ∧ a ≠ c ∧ d ≠ c
theorem own_eq {a b : Int32} (h : a.toInt = b.toInt) : a = b := Int32.toInt_inj.mp h
def FST (q : Nat → Prop) (t k : Nat) (r : Int32) : Prop := (∃ i : Nat, r.toInt = (i : Int) ∧ t ≤ i ∧ i < k ∧ q i ∧ ∀ j, t ≤ j → j < i → ¬ q j) ∨ (r.toInt = -1 ∧ ∀ j, t ≤ j → j < k → ¬ q j)
theorem FST.uniq {q : Nat → Prop} {k : Nat} {r s : Int32} (h1 : FST q 0 k r) (h2 : FST q 0 k s) : r = s := by
  apply own_eq
  rcases h1 with ⟨i, a1, a2, a3, a4, a5⟩ | ⟨a1, a2⟩ <;> rcases h2 with ⟨j, b1, b2, b3, b4, b5⟩ | ⟨b1, b2⟩
  · rcases Nat.lt_trichotomy i j with h | h | h
    · exact absurd a4 (b5 i (Nat.zero_le _) h)
    · omega
    · exact absurd b4 (a5 j (Nat.zero_le _) h)
  · exact absurd a4 (b2 i (Nat.zero_le _) a3)
  · exact absurd b4 (a2 j (Nat.zero_le _) b3)
  · omega
theorem FST.skip {q : Nat → Prop} {t k : Nat} {r : Int32} (h : FST q (t + 1) k r) (hn : k ≤ t ∨ ¬ q t) : FST q t k r := by
  rcases h with ⟨i, a1, a2, a3, a4, a5⟩ | ⟨a1, a2⟩
  · refine Or.inl ⟨i, a1, by omega, a3, a4, fun j h1 h2 => ?_⟩
    by_cases e : j = t
    · subst e
      rcases hn with z | z
      · omega
      · exact z
    · exact a5 j (by omega) h2
  · refine Or.inr ⟨a1, fun j h1 h2 => ?_⟩
    by_cases e : j = t
    · subst e
      rcases hn with z | z
      · omega
      · exact z
    · exact a2 j (by omega) h2
theorem FST.hit {q : Nat → Prop} {t k : Nat} {r : Int32} (hr : r.toInt = (t : Int)) (h : t < k) (hq : q t) : FST q t k r := Or.inl ⟨t, hr, Nat.le_refl _, h, hq, fun j h1 h2 => by omega⟩
theorem own_add1 {q : Int32} {i : Nat} (h : q.toInt = (i : Int)) (h0 : i < 100) : (q + (1 : Int32)).toInt = ((i + 1 : Nat) : Int) := by
  have o : (1 : Int32).toInt = 1 := rfl
  have a1 := c_iadd q 1
  have r1 := rng32 (q + 1)
  omega
theorem own_off {q s : Int32} {i : Nat} (t : Nat) (h : q.toInt = (i : Int)) (h0 : i < 8) (ht : t ≤ 3) (hs : s.toInt = (t : Int)) : (q * (4 : Int32) + s).toInt = ((4 * i + t : Nat) : Int) := by
  have o : (4 : Int32).toInt = 4 := rfl
  have a1 := c_imul q 4
  have r1 := rng32 (q * 4)
  have a2 := c_iadd (q * 4) s
  have r2 := rng32 (q * 4 + s)
  rw [o] at a1
  omega
theorem own_off0 {q : Int32} {i : Nat} (h : q.toInt = (i : Int)) (h0 : i < 8) : (q * (4 : Int32)).toInt = ((4 * i : Nat) : Int) := by
  have o : (4 : Int32).toInt = 4 := rfl
  have a1 := c_imul q 4
  have r1 := rng32 (q * 4)
  rw [o] at a1
  omega
theorem own_rem {x y : Int32} {d : Nat} (h : 0 ≤ x.toInt) (hy : y.toInt = (d : Int)) (hd : 0 < d) : ∃ i : Nat, (x % y).toInt = (i : Int) ∧ i < d := by
  have := (c_iremV x y).1 h (by omega)
  exact ⟨(x % y).toInt.toNat, by omega, by omega⟩
theorem d1_0 : decode prog_25_method_1_code 0 = .ok (.aload_n 0, 1) := by decide +kernel
theorem d1_1 : decode prog_25_method_1_code 1 = .ok (.invokespecial 1, 3) := by decide +kernel
theorem d1_4 : decode prog_25_method_1_code 4 = .ok (.aload_n 0, 1) := by decide +kernel
theorem d1_5 : decode prog_25_method_1_code 5 = .ok (.bipush 32, 2) := by decide +kernel
theorem d1_7 : decode prog_25_method_1_code 7 = .ok (.newarray .int, 2) := by decide +kernel
theorem d1_9 : decode prog_25_method_1_code 9 = .ok (.putfield 9, 3) := by decide +kernel
theorem d1_12 : decode prog_25_method_1_code 12 = .ok (.aload_n 0, 1) := by decide +kernel
theorem d1_13 : decode prog_25_method_1_code 13 = .ok (.bipush 8, 2) := by decide +kernel
theorem d1_15 : decode prog_25_method_1_code 15 = .ok (.anewarray 13, 3) := by decide +kernel
theorem d1_18 : decode prog_25_method_1_code 18 = .ok (.putfield 15, 3) := by decide +kernel
theorem d1_21 : decode prog_25_method_1_code 21 = .ok (.aload_n 0, 1) := by decide +kernel
theorem d1_22 : decode prog_25_method_1_code 22 = .ok (.bipush 8, 2) := by decide +kernel
theorem d1_24 : decode prog_25_method_1_code 24 = .ok (.newarray .int, 2) := by decide +kernel
theorem d1_26 : decode prog_25_method_1_code 26 = .ok (.putfield 19, 3) := by decide +kernel
theorem d1_29 : decode prog_25_method_1_code 29 = .ok (.return_, 1) := by decide +kernel
theorem pn_1 : plainFor (⟨"com/example/idun/idun/http1/Head", "<init>", "()V"⟩ : MethodName) = true := by first | exact plainFor_of_name (by first | (simp [plainName, overriddenIn]; done) | decide +kernel) | decide +kernel
theorem ef_1 (m : MethodId) (a1 : Addr) : entryFrame m #[(.ref a1)] 1 = mkF m 0 #[.val (.ref a1)] [] := by first | rfl | (simp [entryFrame, mkF, argsToLocals, Value.category]; done)
theorem pd_1 : parseMethodDescriptor "()V" = some ⟨[], none⟩ := by decide +kernel
def Q1 (Z : State) (a1 : Addr)  (h0 : Heap) (n0 : Nat) (v : Option Value) (h : Heap) (L : List Loc) : Prop := ∃ pl na tv, v = none ∧ Fr n0 L ∧ Keep h0 h [a1] ∧ NE3 n0 a1 pl na ∧ HA Z h a1 pl na tv 0 (fun _ => 0) (fun _ => .null)
theorem rm1 (l : Launch) (Z : State) (a0 : Array Value) (hw : ∀ d ∈ tables_1, d.before a0 Z = true) (ws : List Jvm.Cond) (a1 : Addr)  (h0 : Heap) (n0 : Nat) (Z0 : n0 ≤ h0.size) (F0 : HD Z h0 a1 .null .null .null 0) (nb : n0 ≤ a1) :
    MetFree l (⟨"com/example/idun/idun/http1/Head", "<init>", "()V"⟩ : MethodName) (head1 (Jvm.Cond.code (⟨"com/example/idun/idun/http1/Head", "<init>", "()V"⟩ : MethodName) prog_25_method_1_code 1 (none) :: ws) ({ frames := 1, cells := 3, slots := 48, locals := 12 } : Room)) (fun a U => a = #[(.ref a1)] ∧ Z.Warmed39 U.vm ∧ U.heap = h0) (fun _ _ _ _ _ => True) (fun _ U o U' => ∃ v L, o = .returned v ∧ (Q1 Z a1  h0 n0) v U'.heap L ∧ FrameEnd U o U' L ({ frames := 1, cells := 3, slots := 48, locals := 12 } : Room).cells ({ frames := 1, cells := 3, slots := 48, locals := 12 } : Room).slots) := by
  refine MetFree.of_bodySF pn_1 hisR ?_
  intro p e s m args below meth c s₁ Bd hml0 hP hK
  obtain ⟨rfl, hZ, hh⟩ := hP
  have hx := Bd.exec
  have hby := Bd.bytes
  have hml : c.maxLocals = 1 := hml0
  have hown : s.vm.findClass "com/example/idun/idun/http1/Head" = some m.cls := findClass_of_methodNamed Bd.named
  have hnm := (name_of_methodNamed Bd.named Bd.method).1
  have X0 : Stand p l e ({ frames := 1, cells := 3, slots := 48, locals := 12 } : Room) s m #[(.ref a1)] below meth c s₁ [] 0 0 := Stand.of_body Bd
  have e0 : s₁.heap = h0 := by rw [← hh, Bd.state]; rfl
  have N0 := Fr.nil n0
  have lk : meth.locks = false := BodyLoose.notSynchronized Bd
  have hret := Bd.returns
  show Ends p e below s ({ frames := 1, cells := 3, slots := 48, locals := 12 } : Room).cells ({ frames := 1, cells := 3, slots := 48, locals := 12 } : Room).slots (Q1 Z a1  h0 n0) (s₁.setTop (entryFrame m #[(.ref a1)] 1))
  refine Ends.cast (ef_1 m a1) ?_
  refine own_aloadN (n := 1) X0 hx (hb hby d1_0) rfl rfl rfl ?_
  refine own_initO (n := 4) X0 hx hZ hown (hw _ (List.mem_of_getElem? (i := 7) rfl)) (hw _ (List.mem_of_getElem? (i := 8) rfl)) (hw _ (List.mem_of_getElem? (i := 9) rfl)) e0 (by rw [hml]; rfl) (hb hby d1_1) rfl (by decide) (W := 0) (Nat.le_of_eq rfl) (by decide) ?_
  intro T1 X1 e1
  refine own_aloadN (n := 5) X1 hx (hb hby d1_4) rfl rfl rfl ?_
  refine own_bipush (n := 7) X1 hx (32 : Int32) (hb hby d1_5) rfl rfl ?_
  refine own_newI (n := 9) X1 hx hZ (hw _ (List.mem_of_getElem? (i := 10) rfl)) e1 (i := 32) (cap := 32) rfl (Nat.le_refl _) (by decide) (by decide) (by decide) (hb hby d1_7) rfl ?_
  intro T2 h2 b2 X2 e2 g2 E2 A2
  have Z2 : n0 ≤ h2.size := Nat.le_trans Z0 E2.1
  have nb_b2 : n0 ≤ b2 := Nat.le_trans Z0 (Nat.le_of_eq g2.symm)
  have ne_a1_b2 : a1 ≠ b2 := Nat.ne_of_lt (Nat.lt_of_lt_of_le F0.lt (Nat.le_of_eq g2.symm))
  have F2_a1 := F0.ext E2
  have K2 : Keep h0 h2 [a1] := (Keep.refl h0 [a1]).ext E2
  refine own_putF (n := 12) X2 hx hZ hown (hw _ (List.mem_of_getElem? (i := 11) rfl)) e2 F2_a1.2.1 F2_a1.1 (Or.inl (hw _ (List.mem_of_getElem? (i := 12) rfl))) (hw _ (List.mem_of_getElem? (i := 2) rfl)) (ty := (.array .int)) (by decide) rfl rfl (hb hby d1_9) rfl ?_
  intro T3 h3 X3 e3 W3
  have N3 := Fr.snoc X3 N0 nb
  have Z3 : n0 ≤ h3.size := Nat.le_trans Z2 (Keep.of_wr W3).1
  have F3_a1 := F2_a1.set_places hw W3
  have F3_b2 := A2.wrO W3 (Ne.symm ne_a1_b2)
  have K3 : Keep h0 h3 [a1] := K2.wr W3 (Or.inl (List.mem_of_getElem? (i := 0) rfl))
  refine own_aloadN (n := 13) X3 hx (hb hby d1_12) rfl rfl rfl ?_
  refine own_bipush (n := 15) X3 hx (8 : Int32) (hb hby d1_13) rfl rfl ?_
  refine own_newR (n := 18) X3 hx hZ hown (hw _ (List.mem_of_getElem? (i := 13) rfl)) (hw _ (List.mem_of_getElem? (i := 14) rfl)) e3 (i := 8) (cap := 8) rfl (Nat.le_refl _) (by decide) (by decide) (by decide) (hb hby d1_15) rfl ?_
  intro T4 h4 b4 X4 e4 g4 E4 A4
  have Z4 : n0 ≤ h4.size := Nat.le_trans Z3 E4.1
  have nb_b4 : n0 ≤ b4 := Nat.le_trans Z3 (Nat.le_of_eq g4.symm)
  have ne_a1_b4 : a1 ≠ b4 := Nat.ne_of_lt (Nat.lt_of_lt_of_le F3_a1.lt (Nat.le_of_eq g4.symm))
  have F4_a1 := F3_a1.ext E4
  have ne_b2_b4 : b2 ≠ b4 := Nat.ne_of_lt (Nat.lt_of_lt_of_le F3_b2.lt (Nat.le_of_eq g4.symm))
  have F4_b2 := F3_b2.ext E4
  have K4 : Keep h0 h4 [a1] := K3.ext E4
  refine own_putF (n := 21) X4 hx hZ hown (hw _ (List.mem_of_getElem? (i := 15) rfl)) e4 F4_a1.2.2.1 F4_a1.1 (Or.inl (hw _ (List.mem_of_getElem? (i := 16) rfl))) (hw _ (List.mem_of_getElem? (i := 2) rfl)) (ty := (.array (.object "com/example/idun/idun/http1/FieldName"))) (by decide) rfl rfl (hb hby d1_18) rfl ?_
  intro T5 h5 X5 e5 W5
  have N5 := Fr.snoc X5 N3 nb
  have Z5 : n0 ≤ h5.size := Nat.le_trans Z4 (Keep.of_wr W5).1
  have F5_a1 := F4_a1.set_names hw W5
  have F5_b2 := F4_b2.wrO W5 (Ne.symm ne_a1_b2)
  have F5_b4 := A4.wrO W5 (Ne.symm ne_a1_b4)
  have K5 : Keep h0 h5 [a1] := K4.wr W5 (Or.inl (List.mem_of_getElem? (i := 0) rfl))
  refine own_aloadN (n := 22) X5 hx (hb hby d1_21) rfl rfl rfl ?_
  refine own_bipush (n := 24) X5 hx (8 : Int32) (hb hby d1_22) rfl rfl ?_
  refine own_newI (n := 26) X5 hx hZ (hw _ (List.mem_of_getElem? (i := 10) rfl)) e5 (i := 8) (cap := 8) rfl (Nat.le_refl _) (by decide) (by decide) (by decide) (hb hby d1_24) rfl ?_
  intro T6 h6 b6 X6 e6 g6 E6 A6
  have Z6 : n0 ≤ h6.size := Nat.le_trans Z5 E6.1
  have nb_b6 : n0 ≤ b6 := Nat.le_trans Z5 (Nat.le_of_eq g6.symm)
  have ne_a1_b6 : a1 ≠ b6 := Nat.ne_of_lt (Nat.lt_of_lt_of_le F5_a1.lt (Nat.le_of_eq g6.symm))
  have F6_a1 := F5_a1.ext E6
  have ne_b2_b6 : b2 ≠ b6 := Nat.ne_of_lt (Nat.lt_of_lt_of_le F5_b2.lt (Nat.le_of_eq g6.symm))
  have F6_b2 := F5_b2.ext E6
  have ne_b4_b6 : b4 ≠ b6 := Nat.ne_of_lt (Nat.lt_of_lt_of_le F5_b4.lt (Nat.le_of_eq g6.symm))
  have F6_b4 := F5_b4.ext E6
  have K6 : Keep h0 h6 [a1] := K5.ext E6
  refine own_putF (n := 29) X6 hx hZ hown (hw _ (List.mem_of_getElem? (i := 17) rfl)) e6 F6_a1.2.2.2.1 F6_a1.1 (Or.inl (hw _ (List.mem_of_getElem? (i := 18) rfl))) (hw _ (List.mem_of_getElem? (i := 2) rfl)) (ty := (.array .int)) (by decide) rfl rfl (hb hby d1_26) rfl ?_
  intro T7 h7 X7 e7 W7
  have N7 := Fr.snoc X7 N5 nb
  have Z7 : n0 ≤ h7.size := Nat.le_trans Z6 (Keep.of_wr W7).1
  have F7_a1 := F6_a1.set_tokens hw W7
  have F7_b2 := F6_b2.wrO W7 (Ne.symm ne_a1_b2)
  have F7_b4 := F6_b4.wrO W7 (Ne.symm ne_a1_b4)
  have F7_b6 := A6.wrO W7 (Ne.symm ne_a1_b6)
  have K7 : Keep h0 h7 [a1] := K6.wr W7 (Or.inl (List.mem_of_getElem? (i := 0) rfl))
  refine own_retV X7 hx lk hret (hb hby d1_29) (by decide) (by decide) ?_
  rw [e7]
  exact ⟨b2, b4, _, rfl, N7, K7, ⟨nb, nb_b2, nb_b4, ne_a1_b2, ne_a1_b4, ne_b2_b4⟩, F7_a1, F7_b2, F7_b4⟩
theorem d3_0 : decode method_2_code 0 = .ok (.iload_n 0, 1) := by decide +kernel
theorem d3_1 : decode method_2_code 1 = .ok (.ifCond .ne 7, 3) := by decide +kernel
theorem d3_4 : decode method_2_code 4 = .ok (.getstatic 7, 3) := by decide +kernel
theorem d3_7 : decode method_2_code 7 = .ok (.areturn, 1) := by decide +kernel
theorem d3_8 : decode method_2_code 8 = .ok (.iload_n 0, 1) := by decide +kernel
theorem d3_9 : decode method_2_code 9 = .ok (.iconst 1, 1) := by decide +kernel
theorem d3_10 : decode method_2_code 10 = .ok (.if_icmp .ne 7, 3) := by decide +kernel
theorem d3_13 : decode method_2_code 13 = .ok (.getstatic 13, 3) := by decide +kernel
theorem d3_16 : decode method_2_code 16 = .ok (.areturn, 1) := by decide +kernel
theorem d3_17 : decode method_2_code 17 = .ok (.iload_n 0, 1) := by decide +kernel
theorem d3_18 : decode method_2_code 18 = .ok (.iconst 2, 1) := by decide +kernel
theorem d3_19 : decode method_2_code 19 = .ok (.if_icmp .ne 7, 3) := by decide +kernel
theorem d3_22 : decode method_2_code 22 = .ok (.getstatic 16, 3) := by decide +kernel
theorem d3_25 : decode method_2_code 25 = .ok (.areturn, 1) := by decide +kernel
theorem d3_26 : decode method_2_code 26 = .ok (.iload_n 0, 1) := by decide +kernel
theorem d3_27 : decode method_2_code 27 = .ok (.iconst 3, 1) := by decide +kernel
theorem d3_28 : decode method_2_code 28 = .ok (.if_icmp .ne 7, 3) := by decide +kernel
theorem d3_31 : decode method_2_code 31 = .ok (.getstatic 19, 3) := by decide +kernel
theorem d3_34 : decode method_2_code 34 = .ok (.areturn, 1) := by decide +kernel
theorem d3_35 : decode method_2_code 35 = .ok (.iload_n 0, 1) := by decide +kernel
theorem d3_36 : decode method_2_code 36 = .ok (.iconst 4, 1) := by decide +kernel
theorem d3_37 : decode method_2_code 37 = .ok (.if_icmp .ne 7, 3) := by decide +kernel
theorem d3_40 : decode method_2_code 40 = .ok (.getstatic 22, 3) := by decide +kernel
theorem d3_43 : decode method_2_code 43 = .ok (.areturn, 1) := by decide +kernel
theorem d3_44 : decode method_2_code 44 = .ok (.iload_n 0, 1) := by decide +kernel
theorem d3_45 : decode method_2_code 45 = .ok (.iconst 5, 1) := by decide +kernel
theorem d3_46 : decode method_2_code 46 = .ok (.if_icmp .ne 7, 3) := by decide +kernel
theorem d3_49 : decode method_2_code 49 = .ok (.getstatic 25, 3) := by decide +kernel
theorem d3_52 : decode method_2_code 52 = .ok (.areturn, 1) := by decide +kernel
theorem d3_53 : decode method_2_code 53 = .ok (.iload_n 0, 1) := by decide +kernel
theorem d3_54 : decode method_2_code 54 = .ok (.bipush 6, 2) := by decide +kernel
theorem d3_56 : decode method_2_code 56 = .ok (.if_icmp .ne 7, 3) := by decide +kernel
theorem d3_59 : decode method_2_code 59 = .ok (.getstatic 28, 3) := by decide +kernel
theorem d3_62 : decode method_2_code 62 = .ok (.areturn, 1) := by decide +kernel
theorem d3_63 : decode method_2_code 63 = .ok (.iload_n 0, 1) := by decide +kernel
theorem d3_64 : decode method_2_code 64 = .ok (.bipush 7, 2) := by decide +kernel
theorem d3_66 : decode method_2_code 66 = .ok (.if_icmp .ne 7, 3) := by decide +kernel
theorem d3_69 : decode method_2_code 69 = .ok (.getstatic 31, 3) := by decide +kernel
theorem d3_72 : decode method_2_code 72 = .ok (.areturn, 1) := by decide +kernel
theorem d3_73 : decode method_2_code 73 = .ok (.iload_n 0, 1) := by decide +kernel
theorem d3_74 : decode method_2_code 74 = .ok (.bipush 8, 2) := by decide +kernel
theorem d3_76 : decode method_2_code 76 = .ok (.if_icmp .ne 7, 3) := by decide +kernel
theorem d3_79 : decode method_2_code 79 = .ok (.getstatic 34, 3) := by decide +kernel
theorem d3_82 : decode method_2_code 82 = .ok (.areturn, 1) := by decide +kernel
theorem d3_83 : decode method_2_code 83 = .ok (.iload_n 0, 1) := by decide +kernel
theorem d3_84 : decode method_2_code 84 = .ok (.bipush 9, 2) := by decide +kernel
theorem d3_86 : decode method_2_code 86 = .ok (.if_icmp .ne 7, 3) := by decide +kernel
theorem d3_89 : decode method_2_code 89 = .ok (.getstatic 37, 3) := by decide +kernel
theorem d3_92 : decode method_2_code 92 = .ok (.areturn, 1) := by decide +kernel
theorem d3_93 : decode method_2_code 93 = .ok (.iload_n 0, 1) := by decide +kernel
theorem d3_94 : decode method_2_code 94 = .ok (.bipush 10, 2) := by decide +kernel
theorem d3_96 : decode method_2_code 96 = .ok (.if_icmp .ne 7, 3) := by decide +kernel
theorem d3_99 : decode method_2_code 99 = .ok (.getstatic 40, 3) := by decide +kernel
theorem d3_102 : decode method_2_code 102 = .ok (.areturn, 1) := by decide +kernel
theorem d3_103 : decode method_2_code 103 = .ok (.iload_n 0, 1) := by decide +kernel
theorem d3_104 : decode method_2_code 104 = .ok (.bipush 11, 2) := by decide +kernel
theorem d3_106 : decode method_2_code 106 = .ok (.if_icmp .ne 7, 3) := by decide +kernel
theorem d3_109 : decode method_2_code 109 = .ok (.getstatic 43, 3) := by decide +kernel
theorem d3_112 : decode method_2_code 112 = .ok (.areturn, 1) := by decide +kernel
theorem d3_113 : decode method_2_code 113 = .ok (.iload_n 0, 1) := by decide +kernel
theorem d3_114 : decode method_2_code 114 = .ok (.bipush 12, 2) := by decide +kernel
theorem d3_116 : decode method_2_code 116 = .ok (.if_icmp .ne 7, 3) := by decide +kernel
theorem d3_119 : decode method_2_code 119 = .ok (.getstatic 46, 3) := by decide +kernel
theorem d3_122 : decode method_2_code 122 = .ok (.areturn, 1) := by decide +kernel
theorem d3_123 : decode method_2_code 123 = .ok (.getstatic 49, 3) := by decide +kernel
theorem d3_126 : decode method_2_code 126 = .ok (.areturn, 1) := by decide +kernel
theorem pn_3 : plainFor (⟨"com/example/idun/idun/http1/HeadFieldPinLaw", "pick", "(I)Lcom/example/idun/idun/http1/FieldName;"⟩ : MethodName) = true := by first | exact plainFor_of_name (by first | (simp [plainName, overriddenIn]; done) | decide +kernel) | decide +kernel
theorem ef_3 (m : MethodId) (p1 : Int32) : entryFrame m #[(.int p1)] 1 = mkF m 0 #[.val (.int p1)] [] := by first | rfl | (simp [entryFrame, mkF, argsToLocals, Value.category]; done)
theorem pd_3 : parseMethodDescriptor "(I)Lcom/example/idun/idun/http1/FieldName;" = some ⟨[.int], some (.object "com/example/idun/idun/http1/FieldName")⟩ := by decide +kernel
def Q3 (Z : State) (p1 : Int32) (en : Nat → Addr) (h0 : Heap) (n0 : Nat) (v : Option Value) (h : Heap) (L : List Loc) : Prop := ∃ i, i < 14 ∧ v = some (.ref (en i)) ∧ (0 ≤ p1.toInt → p1.toInt < 14 → (i : Int) = p1.toInt) ∧ Fr n0 L ∧ h0 = h
theorem rm3 (l : Launch) (Z : State) (a0 : Array Value) (hw : ∀ d ∈ tables_1, d.before a0 Z = true) (ws : List Jvm.Cond) (p1 : Int32) (en : Nat → Addr) (h0 : Heap) (n0 : Nat) (Z0 : n0 ≤ h0.size) (S0 : Sta Z h0 "com/example/idun/idun/http1/FieldName" "CONNECTION" "Lcom/example/idun/idun/http1/FieldName;" (.ref (en 0))) (S1 : Sta Z h0 "com/example/idun/idun/http1/FieldName" "KEEP_ALIVE" "Lcom/example/idun/idun/http1/FieldName;" (.ref (en 1))) (S2 : Sta Z h0 "com/example/idun/idun/http1/FieldName" "PROXY_CONNECTION" "Lcom/example/idun/idun/http1/FieldName;" (.ref (en 2))) (S3 : Sta Z h0 "com/example/idun/idun/http1/FieldName" "TE" "Lcom/example/idun/idun/http1/FieldName;" (.ref (en 3))) (S4 : Sta Z h0 "com/example/idun/idun/http1/FieldName" "TRAILER" "Lcom/example/idun/idun/http1/FieldName;" (.ref (en 4))) (S5 : Sta Z h0 "com/example/idun/idun/http1/FieldName" "UPGRADE" "Lcom/example/idun/idun/http1/FieldName;" (.ref (en 5))) (S6 : Sta Z h0 "com/example/idun/idun/http1/FieldName" "CONTENT_LENGTH" "Lcom/example/idun/idun/http1/FieldName;" (.ref (en 6))) (S7 : Sta Z h0 "com/example/idun/idun/http1/FieldName" "TRANSFER_ENCODING" "Lcom/example/idun/idun/http1/FieldName;" (.ref (en 7))) (S8 : Sta Z h0 "com/example/idun/idun/http1/FieldName" "HOST" "Lcom/example/idun/idun/http1/FieldName;" (.ref (en 8))) (S9 : Sta Z h0 "com/example/idun/idun/http1/FieldName" "X_FORWARDED_FOR" "Lcom/example/idun/idun/http1/FieldName;" (.ref (en 9))) (S10 : Sta Z h0 "com/example/idun/idun/http1/FieldName" "X_FORWARDED_HOST" "Lcom/example/idun/idun/http1/FieldName;" (.ref (en 10))) (S11 : Sta Z h0 "com/example/idun/idun/http1/FieldName" "X_FORWARDED_PROTO" "Lcom/example/idun/idun/http1/FieldName;" (.ref (en 11))) (S12 : Sta Z h0 "com/example/idun/idun/http1/FieldName" "VIA" "Lcom/example/idun/idun/http1/FieldName;" (.ref (en 12))) (S13 : Sta Z h0 "com/example/idun/idun/http1/FieldName" "OTHER" "Lcom/example/idun/idun/http1/FieldName;" (.ref (en 13))) :
    MetFree l (⟨"com/example/idun/idun/http1/HeadFieldPinLaw", "pick", "(I)Lcom/example/idun/idun/http1/FieldName;"⟩ : MethodName) (head1 (Jvm.Cond.code (⟨"com/example/idun/idun/http1/HeadFieldPinLaw", "pick", "(I)Lcom/example/idun/idun/http1/FieldName;"⟩ : MethodName) method_2_code 1 (some (.object "com/example/idun/idun/http1/FieldName")) :: ws) ({ frames := 0, cells := 0, slots := 0, locals := 0 } : Room)) (fun a U => a = #[(.int p1)] ∧ Z.Warmed39 U.vm ∧ U.heap = h0) (fun _ _ _ _ _ => True) (fun _ U o U' => ∃ v L, o = .returned v ∧ (Q3 Z p1 en h0 n0) v U'.heap L ∧ FrameEnd U o U' L ({ frames := 0, cells := 0, slots := 0, locals := 0 } : Room).cells ({ frames := 0, cells := 0, slots := 0, locals := 0 } : Room).slots) := by
  refine MetFree.of_bodySF pn_3 hisR ?_
  intro p e s m args below meth c s₁ Bd hml0 hP hK
  obtain ⟨rfl, hZ, hh⟩ := hP
  have hx := Bd.exec
  have hby := Bd.bytes
  have hml : c.maxLocals = 1 := hml0
  have hown : s.vm.findClass "com/example/idun/idun/http1/HeadFieldPinLaw" = some m.cls := findClass_of_methodNamed Bd.named
  have hnm := (name_of_methodNamed Bd.named Bd.method).1
  have X0 : Stand p l e ({ frames := 0, cells := 0, slots := 0, locals := 0 } : Room) s m #[(.int p1)] below meth c s₁ [] 0 0 := Stand.of_body Bd
  have e0 : s₁.heap = h0 := by rw [← hh, Bd.state]; rfl
  have N0 := Fr.nil n0
  have lk : meth.locks = false := BodyLoose.notSynchronized Bd
  have hret := Bd.returns
  show Ends p e below s ({ frames := 0, cells := 0, slots := 0, locals := 0 } : Room).cells ({ frames := 0, cells := 0, slots := 0, locals := 0 } : Room).slots (Q3 Z p1 en h0 n0) (s₁.setTop (entryFrame m #[(.int p1)] 1))
  refine Ends.cast (ef_3 m p1) ?_
  refine own_iloadN (n := 1) X0 hx (hb hby d3_0) rfl rfl ?_
  by_cases c1 : p1 = 0
  · refine own_ifNo (n := 4) X0 hx (hb hby d3_1) (Jvm.Free.XT.i0_ne_f c1) rfl ?_
    refine own_getS (n := 7) X0 hx hZ hown (hw _ (List.mem_of_getElem? (i := 23) rfl)) e0 S0 (hb hby d3_4) rfl ?_
    intro T1 X1 e1
    refine own_retA X1 hx lk hret rfl rfl (hb hby d3_7) (by decide) (by decide) ?_
    rw [e1]
    exact ⟨0, by decide, rfl, fun _ _ => by rw [c1]; rfl, N0, rfl⟩
  · refine own_ifYes (n := 8) X0 hx (hb hby d3_1) (Jvm.Free.XT.i0_ne_t c1) (by decide) (by decide) ?_
    refine own_iloadN (n := 9) X0 hx (hb hby d3_8) rfl rfl ?_
    refine own_iconst (n := 10) X0 hx (1 : Int32) (hb hby d3_9) rfl rfl ?_
    by_cases c10 : p1 = (1 : Int32)
    · refine own_icmpNo (n := 13) X0 hx (hb hby d3_10) (Jvm.Free.XT.ii_ne_f c10) rfl ?_
      refine own_getS (n := 16) X0 hx hZ hown (hw _ (List.mem_of_getElem? (i := 43) rfl)) e0 S1 (hb hby d3_13) rfl ?_
      intro T2 X2 e2
      refine own_retA X2 hx lk hret rfl rfl (hb hby d3_16) (by decide) (by decide) ?_
      rw [e2]
      exact ⟨1, by decide, rfl, fun _ _ => by rw [c10]; rfl, N0, rfl⟩
    · refine own_icmpYes (n := 17) X0 hx (hb hby d3_10) (Jvm.Free.XT.ii_ne_t c10) (by decide) (by decide) ?_
      refine own_iloadN (n := 18) X0 hx (hb hby d3_17) rfl rfl ?_
      refine own_iconst (n := 19) X0 hx (2 : Int32) (hb hby d3_18) rfl rfl ?_
      by_cases c19 : p1 = (2 : Int32)
      · refine own_icmpNo (n := 22) X0 hx (hb hby d3_19) (Jvm.Free.XT.ii_ne_f c19) rfl ?_
        refine own_getS (n := 25) X0 hx hZ hown (hw _ (List.mem_of_getElem? (i := 61) rfl)) e0 S2 (hb hby d3_22) rfl ?_
        intro T3 X3 e3
        refine own_retA X3 hx lk hret rfl rfl (hb hby d3_25) (by decide) (by decide) ?_
        rw [e3]
        exact ⟨2, by decide, rfl, fun _ _ => by rw [c19]; rfl, N0, rfl⟩
      · refine own_icmpYes (n := 26) X0 hx (hb hby d3_19) (Jvm.Free.XT.ii_ne_t c19) (by decide) (by decide) ?_
        refine own_iloadN (n := 27) X0 hx (hb hby d3_26) rfl rfl ?_
        refine own_iconst (n := 28) X0 hx (3 : Int32) (hb hby d3_27) rfl rfl ?_
        by_cases c28 : p1 = (3 : Int32)
        · refine own_icmpNo (n := 31) X0 hx (hb hby d3_28) (Jvm.Free.XT.ii_ne_f c28) rfl ?_
          refine own_getS (n := 34) X0 hx hZ hown (hw _ (List.mem_of_getElem? (i := 34) rfl)) e0 S3 (hb hby d3_31) rfl ?_
          intro T4 X4 e4
          refine own_retA X4 hx lk hret rfl rfl (hb hby d3_34) (by decide) (by decide) ?_
          rw [e4]
          exact ⟨3, by decide, rfl, fun _ _ => by rw [c28]; rfl, N0, rfl⟩
        · refine own_icmpYes (n := 35) X0 hx (hb hby d3_28) (Jvm.Free.XT.ii_ne_t c28) (by decide) (by decide) ?_
          refine own_iloadN (n := 36) X0 hx (hb hby d3_35) rfl rfl ?_
          refine own_iconst (n := 37) X0 hx (4 : Int32) (hb hby d3_36) rfl rfl ?_
          by_cases c37 : p1 = (4 : Int32)
          · refine own_icmpNo (n := 40) X0 hx (hb hby d3_37) (Jvm.Free.XT.ii_ne_f c37) rfl ?_
            refine own_getS (n := 43) X0 hx hZ hown (hw _ (List.mem_of_getElem? (i := 45) rfl)) e0 S4 (hb hby d3_40) rfl ?_
            intro T5 X5 e5
            refine own_retA X5 hx lk hret rfl rfl (hb hby d3_43) (by decide) (by decide) ?_
            rw [e5]
            exact ⟨4, by decide, rfl, fun _ _ => by rw [c37]; rfl, N0, rfl⟩
          · refine own_icmpYes (n := 44) X0 hx (hb hby d3_37) (Jvm.Free.XT.ii_ne_t c37) (by decide) (by decide) ?_
            refine own_iloadN (n := 45) X0 hx (hb hby d3_44) rfl rfl ?_
            refine own_iconst (n := 46) X0 hx (5 : Int32) (hb hby d3_45) rfl rfl ?_
            by_cases c46 : p1 = (5 : Int32)
            · refine own_icmpNo (n := 49) X0 hx (hb hby d3_46) (Jvm.Free.XT.ii_ne_f c46) rfl ?_
              refine own_getS (n := 52) X0 hx hZ hown (hw _ (List.mem_of_getElem? (i := 57) rfl)) e0 S5 (hb hby d3_49) rfl ?_
              intro T6 X6 e6
              refine own_retA X6 hx lk hret rfl rfl (hb hby d3_52) (by decide) (by decide) ?_
              rw [e6]
              exact ⟨5, by decide, rfl, fun _ _ => by rw [c46]; rfl, N0, rfl⟩
            · refine own_icmpYes (n := 53) X0 hx (hb hby d3_46) (Jvm.Free.XT.ii_ne_t c46) (by decide) (by decide) ?_
              refine own_iloadN (n := 54) X0 hx (hb hby d3_53) rfl rfl ?_
              refine own_bipush (n := 56) X0 hx (6 : Int32) (hb hby d3_54) rfl rfl ?_
              by_cases c56 : p1 = (6 : Int32)
              · refine own_icmpNo (n := 59) X0 hx (hb hby d3_56) (Jvm.Free.XT.ii_ne_f c56) rfl ?_
                refine own_getS (n := 62) X0 hx hZ hown (hw _ (List.mem_of_getElem? (i := 53) rfl)) e0 S6 (hb hby d3_59) rfl ?_
                intro T7 X7 e7
                refine own_retA X7 hx lk hret rfl rfl (hb hby d3_62) (by decide) (by decide) ?_
                rw [e7]
                exact ⟨6, by decide, rfl, fun _ _ => by rw [c56]; rfl, N0, rfl⟩
              · refine own_icmpYes (n := 63) X0 hx (hb hby d3_56) (Jvm.Free.XT.ii_ne_t c56) (by decide) (by decide) ?_
                refine own_iloadN (n := 64) X0 hx (hb hby d3_63) rfl rfl ?_
                refine own_bipush (n := 66) X0 hx (7 : Int32) (hb hby d3_64) rfl rfl ?_
                by_cases c66 : p1 = (7 : Int32)
                · refine own_icmpNo (n := 69) X0 hx (hb hby d3_66) (Jvm.Free.XT.ii_ne_f c66) rfl ?_
                  refine own_getS (n := 72) X0 hx hZ hown (hw _ (List.mem_of_getElem? (i := 47) rfl)) e0 S7 (hb hby d3_69) rfl ?_
                  intro T8 X8 e8
                  refine own_retA X8 hx lk hret rfl rfl (hb hby d3_72) (by decide) (by decide) ?_
                  rw [e8]
                  exact ⟨7, by decide, rfl, fun _ _ => by rw [c66]; rfl, N0, rfl⟩
                · refine own_icmpYes (n := 73) X0 hx (hb hby d3_66) (Jvm.Free.XT.ii_ne_t c66) (by decide) (by decide) ?_
                  refine own_iloadN (n := 74) X0 hx (hb hby d3_73) rfl rfl ?_
                  refine own_bipush (n := 76) X0 hx (8 : Int32) (hb hby d3_74) rfl rfl ?_
                  by_cases c76 : p1 = (8 : Int32)
                  · refine own_icmpNo (n := 79) X0 hx (hb hby d3_76) (Jvm.Free.XT.ii_ne_f c76) rfl ?_
                    refine own_getS (n := 82) X0 hx hZ hown (hw _ (List.mem_of_getElem? (i := 55) rfl)) e0 S8 (hb hby d3_79) rfl ?_
                    intro T9 X9 e9
                    refine own_retA X9 hx lk hret rfl rfl (hb hby d3_82) (by decide) (by decide) ?_
                    rw [e9]
                    exact ⟨8, by decide, rfl, fun _ _ => by rw [c76]; rfl, N0, rfl⟩
                  · refine own_icmpYes (n := 83) X0 hx (hb hby d3_76) (Jvm.Free.XT.ii_ne_t c76) (by decide) (by decide) ?_
                    refine own_iloadN (n := 84) X0 hx (hb hby d3_83) rfl rfl ?_
                    refine own_bipush (n := 86) X0 hx (9 : Int32) (hb hby d3_84) rfl rfl ?_
                    by_cases c86 : p1 = (9 : Int32)
                    · refine own_icmpNo (n := 89) X0 hx (hb hby d3_86) (Jvm.Free.XT.ii_ne_f c86) rfl ?_
                      refine own_getS (n := 92) X0 hx hZ hown (hw _ (List.mem_of_getElem? (i := 63) rfl)) e0 S9 (hb hby d3_89) rfl ?_
                      intro T10 X10 e10
                      refine own_retA X10 hx lk hret rfl rfl (hb hby d3_92) (by decide) (by decide) ?_
                      rw [e10]
                      exact ⟨9, by decide, rfl, fun _ _ => by rw [c86]; rfl, N0, rfl⟩
                    · refine own_icmpYes (n := 93) X0 hx (hb hby d3_86) (Jvm.Free.XT.ii_ne_t c86) (by decide) (by decide) ?_
                      refine own_iloadN (n := 94) X0 hx (hb hby d3_93) rfl rfl ?_
                      refine own_bipush (n := 96) X0 hx (10 : Int32) (hb hby d3_94) rfl rfl ?_
                      by_cases c96 : p1 = (10 : Int32)
                      · refine own_icmpNo (n := 99) X0 hx (hb hby d3_96) (Jvm.Free.XT.ii_ne_f c96) rfl ?_
                        refine own_getS (n := 102) X0 hx hZ hown (hw _ (List.mem_of_getElem? (i := 49) rfl)) e0 S10 (hb hby d3_99) rfl ?_
                        intro T11 X11 e11
                        refine own_retA X11 hx lk hret rfl rfl (hb hby d3_102) (by decide) (by decide) ?_
                        rw [e11]
                        exact ⟨10, by decide, rfl, fun _ _ => by rw [c96]; rfl, N0, rfl⟩
                      · refine own_icmpYes (n := 103) X0 hx (hb hby d3_96) (Jvm.Free.XT.ii_ne_t c96) (by decide) (by decide) ?_
                        refine own_iloadN (n := 104) X0 hx (hb hby d3_103) rfl rfl ?_
                        refine own_bipush (n := 106) X0 hx (11 : Int32) (hb hby d3_104) rfl rfl ?_
                        by_cases c106 : p1 = (11 : Int32)
                        · refine own_icmpNo (n := 109) X0 hx (hb hby d3_106) (Jvm.Free.XT.ii_ne_f c106) rfl ?_
                          refine own_getS (n := 112) X0 hx hZ hown (hw _ (List.mem_of_getElem? (i := 51) rfl)) e0 S11 (hb hby d3_109) rfl ?_
                          intro T12 X12 e12
                          refine own_retA X12 hx lk hret rfl rfl (hb hby d3_112) (by decide) (by decide) ?_
                          rw [e12]
                          exact ⟨11, by decide, rfl, fun _ _ => by rw [c106]; rfl, N0, rfl⟩
                        · refine own_icmpYes (n := 113) X0 hx (hb hby d3_106) (Jvm.Free.XT.ii_ne_t c106) (by decide) (by decide) ?_
                          refine own_iloadN (n := 114) X0 hx (hb hby d3_113) rfl rfl ?_
                          refine own_bipush (n := 116) X0 hx (12 : Int32) (hb hby d3_114) rfl rfl ?_
                          by_cases c116 : p1 = (12 : Int32)
                          · refine own_icmpNo (n := 119) X0 hx (hb hby d3_116) (Jvm.Free.XT.ii_ne_f c116) rfl ?_
                            refine own_getS (n := 122) X0 hx hZ hown (hw _ (List.mem_of_getElem? (i := 41) rfl)) e0 S12 (hb hby d3_119) rfl ?_
                            intro T13 X13 e13
                            refine own_retA X13 hx lk hret rfl rfl (hb hby d3_122) (by decide) (by decide) ?_
                            rw [e13]
                            exact ⟨12, by decide, rfl, fun _ _ => by rw [c116]; rfl, N0, rfl⟩
                          · refine own_icmpYes (n := 123) X0 hx (hb hby d3_116) (Jvm.Free.XT.ii_ne_t c116) (by decide) (by decide) ?_
                            refine own_getS (n := 126) X0 hx hZ hown (hw _ (List.mem_of_getElem? (i := 59) rfl)) e0 S13 (hb hby d3_123) rfl ?_
                            intro T14 X14 e14
                            refine own_retA X14 hx lk hret rfl rfl (hb hby d3_126) (by decide) (by decide) ?_
                            rw [e14]
                            refine ⟨13, by decide, rfl, fun h1 h2 => ?_, N0, rfl⟩
                            have y0 : p1.toInt ≠ 0 := fun z => c1 (Int32.toInt_inj.mp z)
                            have y1 : p1.toInt ≠ 1 := fun z => c10 (Int32.toInt_inj.mp z)
                            have y2 : p1.toInt ≠ 2 := fun z => c19 (Int32.toInt_inj.mp z)
                            have y3 : p1.toInt ≠ 3 := fun z => c28 (Int32.toInt_inj.mp z)
                            have y4 : p1.toInt ≠ 4 := fun z => c37 (Int32.toInt_inj.mp z)
                            have y5 : p1.toInt ≠ 5 := fun z => c46 (Int32.toInt_inj.mp z)
                            have y6 : p1.toInt ≠ 6 := fun z => c56 (Int32.toInt_inj.mp z)
                            have y7 : p1.toInt ≠ 7 := fun z => c66 (Int32.toInt_inj.mp z)
                            have y8 : p1.toInt ≠ 8 := fun z => c76 (Int32.toInt_inj.mp z)
                            have y9 : p1.toInt ≠ 9 := fun z => c86 (Int32.toInt_inj.mp z)
                            have y10 : p1.toInt ≠ 10 := fun z => c96 (Int32.toInt_inj.mp z)
                            have y11 : p1.toInt ≠ 11 := fun z => c106 (Int32.toInt_inj.mp z)
                            have y12 : p1.toInt ≠ 12 := fun z => c116 (Int32.toInt_inj.mp z)
                            omega
theorem d4_0 : decode prog_25_method_8_code 0 = .ok (.aload_n 0, 1) := by decide +kernel
theorem d4_1 : decode prog_25_method_8_code 1 = .ok (.getfield 78, 3) := by decide +kernel
theorem d4_4 : decode prog_25_method_8_code 4 = .ok (.aload_n 0, 1) := by decide +kernel
theorem d4_5 : decode prog_25_method_8_code 5 = .ok (.getfield 15, 3) := by decide +kernel
theorem d4_8 : decode prog_25_method_8_code 8 = .ok (.arraylength, 1) := by decide +kernel
theorem d4_9 : decode prog_25_method_8_code 9 = .ok (.if_icmp .ne 42, 3) := by decide +kernel
theorem d4_12 : decode prog_25_method_8_code 12 = .ok (.aload_n 0, 1) := by decide +kernel
theorem d4_13 : decode prog_25_method_8_code 13 = .ok (.aload_n 0, 1) := by decide +kernel
theorem d4_14 : decode prog_25_method_8_code 14 = .ok (.getfield 15, 3) := by decide +kernel
theorem d4_17 : decode prog_25_method_8_code 17 = .ok (.aload_n 0, 1) := by decide +kernel
theorem d4_18 : decode prog_25_method_8_code 18 = .ok (.getfield 78, 3) := by decide +kernel
theorem d4_21 : decode prog_25_method_8_code 21 = .ok (.iconst 2, 1) := by decide +kernel
theorem d4_22 : decode prog_25_method_8_code 22 = .ok (.imul, 1) := by decide +kernel
theorem d4_23 : decode prog_25_method_8_code 23 = .ok (.invokestatic 97, 3) := by decide +kernel
theorem d4_26 : decode prog_25_method_8_code 26 = .ok (.checkcast 103, 3) := by decide +kernel
theorem d4_29 : decode prog_25_method_8_code 29 = .ok (.putfield 15, 3) := by decide +kernel
theorem d4_32 : decode prog_25_method_8_code 32 = .ok (.aload_n 0, 1) := by decide +kernel
theorem d4_33 : decode prog_25_method_8_code 33 = .ok (.aload_n 0, 1) := by decide +kernel
theorem d4_34 : decode prog_25_method_8_code 34 = .ok (.getfield 9, 3) := by decide +kernel
theorem d4_37 : decode prog_25_method_8_code 37 = .ok (.aload_n 0, 1) := by decide +kernel
theorem d4_38 : decode prog_25_method_8_code 38 = .ok (.getfield 78, 3) := by decide +kernel
theorem d4_41 : decode prog_25_method_8_code 41 = .ok (.iconst 2, 1) := by decide +kernel
theorem d4_42 : decode prog_25_method_8_code 42 = .ok (.imul, 1) := by decide +kernel
theorem d4_43 : decode prog_25_method_8_code 43 = .ok (.iconst 4, 1) := by decide +kernel
theorem d4_44 : decode prog_25_method_8_code 44 = .ok (.imul, 1) := by decide +kernel
theorem d4_45 : decode prog_25_method_8_code 45 = .ok (.invokestatic 104, 3) := by decide +kernel
theorem d4_48 : decode prog_25_method_8_code 48 = .ok (.putfield 9, 3) := by decide +kernel
theorem d4_51 : decode prog_25_method_8_code 51 = .ok (.aload_n 0, 1) := by decide +kernel
theorem d4_52 : decode prog_25_method_8_code 52 = .ok (.getfield 78, 3) := by decide +kernel
theorem d4_55 : decode prog_25_method_8_code 55 = .ok (.iconst 4, 1) := by decide +kernel
theorem d4_56 : decode prog_25_method_8_code 56 = .ok (.imul, 1) := by decide +kernel
theorem d4_57 : decode prog_25_method_8_code 57 = .ok (.istore 6, 2) := by decide +kernel
theorem d4_59 : decode prog_25_method_8_code 59 = .ok (.aload_n 0, 1) := by decide +kernel
theorem d4_60 : decode prog_25_method_8_code 60 = .ok (.getfield 9, 3) := by decide +kernel
theorem d4_63 : decode prog_25_method_8_code 63 = .ok (.iload 6, 2) := by decide +kernel
theorem d4_65 : decode prog_25_method_8_code 65 = .ok (.iload_n 2, 1) := by decide +kernel
theorem d4_66 : decode prog_25_method_8_code 66 = .ok (.iastore, 1) := by decide +kernel
theorem d4_67 : decode prog_25_method_8_code 67 = .ok (.aload_n 0, 1) := by decide +kernel
theorem d4_68 : decode prog_25_method_8_code 68 = .ok (.getfield 9, 3) := by decide +kernel
theorem d4_71 : decode prog_25_method_8_code 71 = .ok (.iload 6, 2) := by decide +kernel
theorem d4_73 : decode prog_25_method_8_code 73 = .ok (.iconst 1, 1) := by decide +kernel
theorem d4_74 : decode prog_25_method_8_code 74 = .ok (.iadd, 1) := by decide +kernel
theorem d4_75 : decode prog_25_method_8_code 75 = .ok (.iload_n 3, 1) := by decide +kernel
theorem d4_76 : decode prog_25_method_8_code 76 = .ok (.iastore, 1) := by decide +kernel
theorem d4_77 : decode prog_25_method_8_code 77 = .ok (.aload_n 0, 1) := by decide +kernel
theorem d4_78 : decode prog_25_method_8_code 78 = .ok (.getfield 9, 3) := by decide +kernel
theorem d4_81 : decode prog_25_method_8_code 81 = .ok (.iload 6, 2) := by decide +kernel
theorem d4_83 : decode prog_25_method_8_code 83 = .ok (.iconst 2, 1) := by decide +kernel
theorem d4_84 : decode prog_25_method_8_code 84 = .ok (.iadd, 1) := by decide +kernel
theorem d4_85 : decode prog_25_method_8_code 85 = .ok (.iload 4, 2) := by decide +kernel
theorem d4_87 : decode prog_25_method_8_code 87 = .ok (.iastore, 1) := by decide +kernel
theorem d4_88 : decode prog_25_method_8_code 88 = .ok (.aload_n 0, 1) := by decide +kernel
theorem d4_89 : decode prog_25_method_8_code 89 = .ok (.getfield 9, 3) := by decide +kernel
theorem d4_92 : decode prog_25_method_8_code 92 = .ok (.iload 6, 2) := by decide +kernel
theorem d4_94 : decode prog_25_method_8_code 94 = .ok (.iconst 3, 1) := by decide +kernel
theorem d4_95 : decode prog_25_method_8_code 95 = .ok (.iadd, 1) := by decide +kernel
theorem d4_96 : decode prog_25_method_8_code 96 = .ok (.iload 5, 2) := by decide +kernel
theorem d4_98 : decode prog_25_method_8_code 98 = .ok (.iastore, 1) := by decide +kernel
theorem d4_99 : decode prog_25_method_8_code 99 = .ok (.aload_n 0, 1) := by decide +kernel
theorem d4_100 : decode prog_25_method_8_code 100 = .ok (.getfield 15, 3) := by decide +kernel
theorem d4_103 : decode prog_25_method_8_code 103 = .ok (.aload_n 0, 1) := by decide +kernel
theorem d4_104 : decode prog_25_method_8_code 104 = .ok (.getfield 78, 3) := by decide +kernel
theorem d4_107 : decode prog_25_method_8_code 107 = .ok (.aload_n 1, 1) := by decide +kernel
theorem d4_108 : decode prog_25_method_8_code 108 = .ok (.aastore, 1) := by decide +kernel
theorem d4_109 : decode prog_25_method_8_code 109 = .ok (.aload_n 0, 1) := by decide +kernel
theorem d4_110 : decode prog_25_method_8_code 110 = .ok (.dup, 1) := by decide +kernel
theorem d4_111 : decode prog_25_method_8_code 111 = .ok (.getfield 78, 3) := by decide +kernel
theorem d4_114 : decode prog_25_method_8_code 114 = .ok (.iconst 1, 1) := by decide +kernel
theorem d4_115 : decode prog_25_method_8_code 115 = .ok (.iadd, 1) := by decide +kernel
theorem d4_116 : decode prog_25_method_8_code 116 = .ok (.putfield 78, 3) := by decide +kernel
theorem d4_119 : decode prog_25_method_8_code 119 = .ok (.return_, 1) := by decide +kernel
theorem pn_4 : plainFor (⟨"com/example/idun/idun/http1/Head", "addField", "(Lcom/example/idun/idun/http1/FieldName;IIII)V"⟩ : MethodName) = true := by first | exact plainFor_of_name (by first | (simp [plainName, overriddenIn]; done) | decide +kernel) | decide +kernel
theorem ef_4 (m : MethodId) (a1 : Addr) (x1 : Addr) (p3 : Int32) (p4 : Int32) (p5 : Int32) (p6 : Int32) : entryFrame m #[(.ref a1), (.ref x1), (.int p3), (.int p4), (.int p5), (.int p6)] 7 = mkF m 0 #[.val (.ref a1), .val (.ref x1), .val (.int p3), .val (.int p4), .val (.int p5), .val (.int p6), .unset] [] := by first | rfl | (simp [entryFrame, mkF, argsToLocals, Value.category]; done)
theorem pd_4 : parseMethodDescriptor "(Lcom/example/idun/idun/http1/FieldName;IIII)V" = some ⟨[(.object "com/example/idun/idun/http1/FieldName"), .int, .int, .int, .int], none⟩ := by decide +kernel
def Q4 (Z : State) (a1 : Addr) (x1 : Addr) (p3 : Int32) (p4 : Int32) (p5 : Int32) (p6 : Int32) (pl : Addr) (na : Addr) (tv : Value) (fl : Int32) (gp : Nat → Int32) (g : Nat → Value) (k : Nat) (nm : Nat → Addr) (h0 : Heap) (n0 : Nat) (v : Option Value) (h : Heap) (L : List Loc) : Prop := ∃ gp' g', v = none ∧ Fr n0 L ∧ Keep h0 h [a1, pl, na] ∧ HA Z h a1 pl na tv (fl + 1) gp' g' ∧ ∀ j, j < k + 1 → g' j = .ref (if j = k then x1 else nm j)
theorem rm4 (l : Launch) (Z : State) (a0 : Array Value) (hw : ∀ d ∈ tables_1, d.before a0 Z = true) (ws : List Jvm.Cond) (a1 : Addr) (x1 : Addr) (p3 : Int32) (p4 : Int32) (p5 : Int32) (p6 : Int32) (pl : Addr) (na : Addr) (tv : Value) (fl : Int32) (gp : Nat → Int32) (g : Nat → Value) (k : Nat) (nm : Nat → Addr) (h0 : Heap) (n0 : Nat) (Z0 : n0 ≤ h0.size) (F0 : HA Z h0 a1 pl na tv fl gp g) (hne : NE3 n0 a1 pl na) (hfl : fl.toInt = (k : Int)) (hk : k < 7) (hnam : ∀ j, j < k → g j = .ref (nm j)) (EX : Exa Z h0 x1 "com/example/idun/idun/http1/FieldName") (hxne : x1 ≠ a1 ∧ x1 ≠ pl ∧ x1 ≠ na) :
    MetFree l (⟨"com/example/idun/idun/http1/Head", "addField", "(Lcom/example/idun/idun/http1/FieldName;IIII)V"⟩ : MethodName) (head1 (Jvm.Cond.code (⟨"com/example/idun/idun/http1/Head", "addField", "(Lcom/example/idun/idun/http1/FieldName;IIII)V"⟩ : MethodName) prog_25_method_8_code 7 (none) :: ws) ({ frames := 0, cells := 0, slots := 0, locals := 0 } : Room)) (fun a U => a = #[(.ref a1), (.ref x1), (.int p3), (.int p4), (.int p5), (.int p6)] ∧ Z.Warmed39 U.vm ∧ U.heap = h0) (fun _ _ _ _ _ => True) (fun _ U o U' => ∃ v L, o = .returned v ∧ (Q4 Z a1 x1 p3 p4 p5 p6 pl na tv fl gp g k nm h0 n0) v U'.heap L ∧ FrameEnd U o U' L ({ frames := 0, cells := 0, slots := 0, locals := 0 } : Room).cells ({ frames := 0, cells := 0, slots := 0, locals := 0 } : Room).slots) := by
  refine MetFree.of_bodySF pn_4 hisR ?_
  intro p e s m args below meth c s₁ Bd hml0 hP hK
  obtain ⟨rfl, hZ, hh⟩ := hP
  have hx := Bd.exec
  have hby := Bd.bytes
  have hml : c.maxLocals = 7 := hml0
  have hown : s.vm.findClass "com/example/idun/idun/http1/Head" = some m.cls := findClass_of_methodNamed Bd.named
  have hnm := (name_of_methodNamed Bd.named Bd.method).1
  have X0 : Stand p l e ({ frames := 0, cells := 0, slots := 0, locals := 0 } : Room) s m #[(.ref a1), (.ref x1), (.int p3), (.int p4), (.int p5), (.int p6)] below meth c s₁ [] 0 0 := Stand.of_body Bd
  have e0 : s₁.heap = h0 := by rw [← hh, Bd.state]; rfl
  have N0 := Fr.nil n0
  have lk : meth.locks = false := BodyLoose.notSynchronized Bd
  have hret := Bd.returns
  show Ends p e below s ({ frames := 0, cells := 0, slots := 0, locals := 0 } : Room).cells ({ frames := 0, cells := 0, slots := 0, locals := 0 } : Room).slots (Q4 Z a1 x1 p3 p4 p5 p6 pl na tv fl gp g k nm h0 n0) (s₁.setTop (entryFrame m #[(.ref a1), (.ref x1), (.int p3), (.int p4), (.int p5), (.int p6)] 7))
  refine Ends.cast (ef_4 m a1 x1 p3 p4 p5 p6) ?_
  have o0 : (0 : Int32).toInt = 0 := rfl
  have o1 : (1 : Int32).toInt = 1 := rfl
  have o2 : (2 : Int32).toInt = 2 := rfl
  have o3 : (3 : Int32).toInt = 3 := rfl
  have o4 : (4 : Int32).toInt = 4 := rfl
  refine own_aloadN (n := 1) X0 hx (hb hby d4_0) rfl rfl rfl ?_
  refine own_getF (n := 4) X0 hx hZ hown (hw _ (List.mem_of_getElem? (i := 31) rfl)) e0 F0.1.2.2.2.2 (hb hby d4_1) rfl ?_
  intro T1 X1 e1
  refine own_aloadN (n := 5) X1 hx (hb hby d4_4) rfl rfl rfl ?_
  refine own_getF (n := 8) X1 hx hZ hown (hw _ (List.mem_of_getElem? (i := 15) rfl)) e1 F0.1.2.2.1 (hb hby d4_5) rfl ?_
  intro T2 X2 e2
  refine own_arraylength (n := 9) X2 hx hZ e2 F0.2.2.va (v := (8 : Int32)) rfl (hb hby d4_8) rfl ?_
  refine own_icmpYes (n := 51) X2 hx (hb hby d4_9) (Jvm.Free.XT.ii_ne_t (fun z => by have := congrArg Int32.toInt z; have o8 : (8 : Int32).toInt = 8 := rfl; omega)) (by decide) (by decide) ?_
  refine own_aloadN (n := 52) X2 hx (hb hby d4_51) rfl rfl rfl ?_
  refine own_getF (n := 55) X2 hx hZ hown (hw _ (List.mem_of_getElem? (i := 31) rfl)) e2 F0.1.2.2.2.2 (hb hby d4_52) rfl ?_
  intro T3 X3 e3
  refine own_iconst (n := 56) X3 hx (4 : Int32) (hb hby d4_55) rfl rfl ?_
  refine own_imul (n := 57) X3 hx (hb hby d4_56) rfl ?_
  refine own_istore (n := 59) X3 hx (hb hby d4_57) (l' := #[.val (.ref a1), .val (.ref x1), .val (.int p3), .val (.int p4), .val (.int p5), .val (.int p6), .val (.int (fl * (4 : Int32)))]) rfl rfl ?_
  refine own_aloadN (n := 60) X3 hx (hb hby d4_59) rfl rfl rfl ?_
  refine own_getF (n := 63) X3 hx hZ hown (hw _ (List.mem_of_getElem? (i := 11) rfl)) e3 F0.1.2.1 (hb hby d4_60) rfl ?_
  intro T4 X4 e4
  refine own_iload (n := 65) X4 hx (hb hby d4_63) rfl rfl ?_
  refine own_iloadN (n := 66) X4 hx (hb hby d4_65) rfl rfl ?_
  refine own_iastore (n := 67) X4 hx hZ e4 F0.2.1 (i := (4 * k)) (own_off0 hfl (by omega)) (by omega) (hb hby d4_66) rfl ?_
  intro T5 h5 X5 e5 W5 A5
  have N5 := Fr.snoc X5 N0 hne.2.1
  have Z5 : n0 ≤ h5.size := Nat.le_trans Z0 (Keep.of_wr W5).1
  have F5_a1 := F0.1.wrO W5 hne.2.2.2.1
  have F5_na := F0.2.2.wrO W5 (Ne.symm hne.2.2.2.2.2)
  have G5_x1 := EX.wr W5
  have K5 : Keep h0 h5 [a1, pl, na] := (Keep.refl h0 [a1, pl, na]).wr W5 (Or.inl (List.mem_of_getElem? (i := 1) rfl))
  refine own_aloadN (n := 68) X5 hx (hb hby d4_67) rfl rfl rfl ?_
  refine own_getF (n := 71) X5 hx hZ hown (hw _ (List.mem_of_getElem? (i := 11) rfl)) e5 F5_a1.2.1 (hb hby d4_68) rfl ?_
  intro T6 X6 e6
  refine own_iload (n := 73) X6 hx (hb hby d4_71) rfl rfl ?_
  refine own_iconst (n := 74) X6 hx (1 : Int32) (hb hby d4_73) rfl rfl ?_
  refine own_iadd (n := 75) X6 hx (hb hby d4_74) rfl ?_
  refine own_iloadN (n := 76) X6 hx (hb hby d4_75) rfl rfl ?_
  refine own_iastore (n := 77) X6 hx hZ e6 A5 (i := (4 * k + 1)) (own_off 1 hfl (by omega) (by decide) o1) (by omega) (hb hby d4_76) rfl ?_
  intro T7 h7 X7 e7 W7 A7
  have N7 := Fr.snoc X7 N5 hne.2.1
  have Z7 : n0 ≤ h7.size := Nat.le_trans Z5 (Keep.of_wr W7).1
  have F7_a1 := F5_a1.wrO W7 hne.2.2.2.1
  have F7_na := F5_na.wrO W7 (Ne.symm hne.2.2.2.2.2)
  have G7_x1 := G5_x1.wr W7
  have K7 : Keep h0 h7 [a1, pl, na] := K5.wr W7 (Or.inl (List.mem_of_getElem? (i := 1) rfl))
  refine own_aloadN (n := 78) X7 hx (hb hby d4_77) rfl rfl rfl ?_
  refine own_getF (n := 81) X7 hx hZ hown (hw _ (List.mem_of_getElem? (i := 11) rfl)) e7 F7_a1.2.1 (hb hby d4_78) rfl ?_
  intro T8 X8 e8
  refine own_iload (n := 83) X8 hx (hb hby d4_81) rfl rfl ?_
  refine own_iconst (n := 84) X8 hx (2 : Int32) (hb hby d4_83) rfl rfl ?_
  refine own_iadd (n := 85) X8 hx (hb hby d4_84) rfl ?_
  refine own_iload (n := 87) X8 hx (hb hby d4_85) rfl rfl ?_
  refine own_iastore (n := 88) X8 hx hZ e8 A7 (i := (4 * k + 2)) (own_off 2 hfl (by omega) (by decide) o2) (by omega) (hb hby d4_87) rfl ?_
  intro T9 h9 X9 e9 W9 A9
  have N9 := Fr.snoc X9 N7 hne.2.1
  have Z9 : n0 ≤ h9.size := Nat.le_trans Z7 (Keep.of_wr W9).1
  have F9_a1 := F7_a1.wrO W9 hne.2.2.2.1
  have F9_na := F7_na.wrO W9 (Ne.symm hne.2.2.2.2.2)
  have G9_x1 := G7_x1.wr W9
  have K9 : Keep h0 h9 [a1, pl, na] := K7.wr W9 (Or.inl (List.mem_of_getElem? (i := 1) rfl))
  refine own_aloadN (n := 89) X9 hx (hb hby d4_88) rfl rfl rfl ?_
  refine own_getF (n := 92) X9 hx hZ hown (hw _ (List.mem_of_getElem? (i := 11) rfl)) e9 F9_a1.2.1 (hb hby d4_89) rfl ?_
  intro T10 X10 e10
  refine own_iload (n := 94) X10 hx (hb hby d4_92) rfl rfl ?_
  refine own_iconst (n := 95) X10 hx (3 : Int32) (hb hby d4_94) rfl rfl ?_
  refine own_iadd (n := 96) X10 hx (hb hby d4_95) rfl ?_
  refine own_iload (n := 98) X10 hx (hb hby d4_96) rfl rfl ?_
  refine own_iastore (n := 99) X10 hx hZ e10 A9 (i := (4 * k + 3)) (own_off 3 hfl (by omega) (by decide) o3) (by omega) (hb hby d4_98) rfl ?_
  intro T11 h11 X11 e11 W11 A11
  have N11 := Fr.snoc X11 N9 hne.2.1
  have Z11 : n0 ≤ h11.size := Nat.le_trans Z9 (Keep.of_wr W11).1
  have F11_a1 := F9_a1.wrO W11 hne.2.2.2.1
  have F11_na := F9_na.wrO W11 (Ne.symm hne.2.2.2.2.2)
  have G11_x1 := G9_x1.wr W11
  have K11 : Keep h0 h11 [a1, pl, na] := K9.wr W11 (Or.inl (List.mem_of_getElem? (i := 1) rfl))
  refine own_aloadN (n := 100) X11 hx (hb hby d4_99) rfl rfl rfl ?_
  refine own_getF (n := 103) X11 hx hZ hown (hw _ (List.mem_of_getElem? (i := 15) rfl)) e11 F11_a1.2.2.1 (hb hby d4_100) rfl ?_
  intro T12 X12 e12
  refine own_aloadN (n := 104) X12 hx (hb hby d4_103) rfl rfl rfl ?_
  refine own_getF (n := 107) X12 hx hZ hown (hw _ (List.mem_of_getElem? (i := 31) rfl)) e12 F11_a1.2.2.2.2 (hb hby d4_104) rfl ?_
  intro T13 X13 e13
  refine own_aloadN (n := 108) X13 hx (hb hby d4_107) rfl rfl rfl ?_
  refine own_aastore (n := 109) X13 hx hZ e13 F11_na (Ins.self G11_x1) (i := k) hfl (by omega) (hb hby d4_108) rfl ?_
  intro T14 h14 X14 e14 W14 A14
  have N14 := Fr.snoc X14 N11 hne.2.2.1
  have Z14 : n0 ≤ h14.size := Nat.le_trans Z11 (Keep.of_wr W14).1
  have F14_a1 := F11_a1.wrO W14 hne.2.2.2.2.1
  have F14_pl := A11.wrO W14 hne.2.2.2.2.2
  have G14_x1 := G11_x1.wr W14
  have K14 : Keep h0 h14 [a1, pl, na] := K11.wr W14 (Or.inl (List.mem_of_getElem? (i := 2) rfl))
  refine own_aloadN (n := 110) X14 hx (hb hby d4_109) rfl rfl rfl ?_
  refine own_dup (n := 111) X14 hx (hb hby d4_110) rfl rfl ?_
  refine own_getF (n := 114) X14 hx hZ hown (hw _ (List.mem_of_getElem? (i := 31) rfl)) e14 F14_a1.2.2.2.2 (hb hby d4_111) rfl ?_
  intro T15 X15 e15
  refine own_iconst (n := 115) X15 hx (1 : Int32) (hb hby d4_114) rfl rfl ?_
  refine own_iadd (n := 116) X15 hx (hb hby d4_115) rfl ?_
  refine own_putF (n := 119) X15 hx hZ hown (hw _ (List.mem_of_getElem? (i := 31) rfl)) e15 F14_a1.2.2.2.2 F14_a1.1 (Or.inl (hw _ (List.mem_of_getElem? (i := 32) rfl))) (hw _ (List.mem_of_getElem? (i := 2) rfl)) (ty := .int) (by decide) rfl rfl (hb hby d4_116) rfl ?_
  intro T16 h16 X16 e16 W16
  have N16 := Fr.snoc X16 N14 hne.1
  have Z16 : n0 ≤ h16.size := Nat.le_trans Z14 (Keep.of_wr W16).1
  have F16_a1 := F14_a1.set_fields hw W16
  have F16_pl := F14_pl.wrO W16 (Ne.symm hne.2.2.2.1)
  have F16_na := A14.wrO W16 (Ne.symm hne.2.2.2.2.1)
  have G16_x1 := G14_x1.wr W16
  have K16 : Keep h0 h16 [a1, pl, na] := K14.wr W16 (Or.inl (List.mem_of_getElem? (i := 0) rfl))
  refine own_retV X16 hx lk hret (hb hby d4_119) (by decide) (by decide) ?_
  rw [e16]
  refine ⟨_, _, rfl, N16, K16, ⟨F16_a1, F16_pl, F16_na⟩, fun j hj => ?_⟩
  by_cases e : j = k
  · simp [e]
  · simp [e, hnam j (by omega)]
theorem d5_0 : decode prog_25_method_36_code 0 = .ok (.iconst 0, 1) := by decide +kernel
theorem d5_1 : decode prog_25_method_36_code 1 = .ok (.istore_n 2, 1) := by decide +kernel
theorem d5_2 : decode prog_25_method_36_code 2 = .ok (.iload_n 2, 1) := by decide +kernel
theorem d5_3 : decode prog_25_method_36_code 3 = .ok (.aload_n 0, 1) := by decide +kernel
theorem d5_4 : decode prog_25_method_36_code 4 = .ok (.getfield 78, 3) := by decide +kernel
theorem d5_7 : decode prog_25_method_36_code 7 = .ok (.if_icmp .ge 21, 3) := by decide +kernel
theorem d5_10 : decode prog_25_method_36_code 10 = .ok (.aload_n 0, 1) := by decide +kernel
theorem d5_11 : decode prog_25_method_36_code 11 = .ok (.getfield 15, 3) := by decide +kernel
theorem d5_14 : decode prog_25_method_36_code 14 = .ok (.iload_n 2, 1) := by decide +kernel
theorem d5_15 : decode prog_25_method_36_code 15 = .ok (.aaload, 1) := by decide +kernel
theorem d5_16 : decode prog_25_method_36_code 16 = .ok (.aload_n 1, 1) := by decide +kernel
theorem d5_17 : decode prog_25_method_36_code 17 = .ok (.if_acmp .ne 5, 3) := by decide +kernel
theorem d5_20 : decode prog_25_method_36_code 20 = .ok (.iload_n 2, 1) := by decide +kernel
theorem d5_21 : decode prog_25_method_36_code 21 = .ok (.ireturn, 1) := by decide +kernel
theorem d5_22 : decode prog_25_method_36_code 22 = .ok (.iinc 2 1, 3) := by decide +kernel
theorem d5_25 : decode prog_25_method_36_code 25 = .ok (.goto (-23), 3) := by decide +kernel
theorem d5_28 : decode prog_25_method_36_code 28 = .ok (.iconst (-1), 1) := by decide +kernel
theorem d5_29 : decode prog_25_method_36_code 29 = .ok (.ireturn, 1) := by decide +kernel
theorem pn_5 : plainFor (⟨"com/example/idun/idun/http1/Head", "field", "(Lcom/example/idun/idun/http1/FieldName;)I"⟩ : MethodName) = true := by first | exact plainFor_of_name (by first | (simp [plainName, overriddenIn]; done) | decide +kernel) | decide +kernel
theorem ef_5 (m : MethodId) (a1 : Addr) (x1 : Addr) : entryFrame m #[(.ref a1), (.ref x1)] 3 = mkF m 0 #[.val (.ref a1), .val (.ref x1), .unset] [] := by first | rfl | (simp [entryFrame, mkF, argsToLocals, Value.category]; done)
theorem pd_5 : parseMethodDescriptor "(Lcom/example/idun/idun/http1/FieldName;)I" = some ⟨[(.object "com/example/idun/idun/http1/FieldName")], some .int⟩ := by decide +kernel
def Q5 (Z : State) (a1 : Addr) (x1 : Addr) (pl : Addr) (na : Addr) (tv : Value) (fl : Int32) (gp : Nat → Int32) (g : Nat → Value) (k : Nat) (nm : Nat → Addr) (h0 : Heap) (n0 : Nat) (v : Option Value) (h : Heap) (L : List Loc) : Prop := ∃ r, v = some (.int r) ∧ FST (fun i => nm i = x1) 0 k r ∧ Fr n0 L ∧ h0 = h
theorem rm5 (l : Launch) (Z : State) (a0 : Array Value) (hw : ∀ d ∈ tables_1, d.before a0 Z = true) (ws : List Jvm.Cond) (a1 : Addr) (x1 : Addr) (pl : Addr) (na : Addr) (tv : Value) (fl : Int32) (gp : Nat → Int32) (g : Nat → Value) (k : Nat) (nm : Nat → Addr) (h0 : Heap) (n0 : Nat) (Z0 : n0 ≤ h0.size) (F0 : HA Z h0 a1 pl na tv fl gp g) (hne : NE3 n0 a1 pl na) (hfl : fl.toInt = (k : Int)) (hk : k < 8) (hnam : ∀ j, j < k → g j = .ref (nm j)) :
    MetFree l (⟨"com/example/idun/idun/http1/Head", "field", "(Lcom/example/idun/idun/http1/FieldName;)I"⟩ : MethodName) (head1 (Jvm.Cond.code (⟨"com/example/idun/idun/http1/Head", "field", "(Lcom/example/idun/idun/http1/FieldName;)I"⟩ : MethodName) prog_25_method_36_code 3 (some .int) :: ws) ({ frames := 0, cells := 0, slots := 0, locals := 0 } : Room)) (fun a U => a = #[(.ref a1), (.ref x1)] ∧ Z.Warmed39 U.vm ∧ U.heap = h0) (fun _ _ _ _ _ => True) (fun _ U o U' => ∃ v L, o = .returned v ∧ (Q5 Z a1 x1 pl na tv fl gp g k nm h0 n0) v U'.heap L ∧ FrameEnd U o U' L ({ frames := 0, cells := 0, slots := 0, locals := 0 } : Room).cells ({ frames := 0, cells := 0, slots := 0, locals := 0 } : Room).slots) := by
  refine MetFree.of_bodySF pn_5 hisR ?_
  intro p e s m args below meth c s₁ Bd hml0 hP hK
  obtain ⟨rfl, hZ, hh⟩ := hP
  have hx := Bd.exec
  have hby := Bd.bytes
  have hml : c.maxLocals = 3 := hml0
  have hown : s.vm.findClass "com/example/idun/idun/http1/Head" = some m.cls := findClass_of_methodNamed Bd.named
  have hnm := (name_of_methodNamed Bd.named Bd.method).1
  have X0 : Stand p l e ({ frames := 0, cells := 0, slots := 0, locals := 0 } : Room) s m #[(.ref a1), (.ref x1)] below meth c s₁ [] 0 0 := Stand.of_body Bd
  have e0 : s₁.heap = h0 := by rw [← hh, Bd.state]; rfl
  have N0 := Fr.nil n0
  have lk : meth.locks = false := BodyLoose.notSynchronized Bd
  have hret := Bd.returns
  show Ends p e below s ({ frames := 0, cells := 0, slots := 0, locals := 0 } : Room).cells ({ frames := 0, cells := 0, slots := 0, locals := 0 } : Room).slots (Q5 Z a1 x1 pl na tv fl gp g k nm h0 n0) (s₁.setTop (entryFrame m #[(.ref a1), (.ref x1)] 3))
  refine Ends.cast (ef_5 m a1 x1) ?_
  have o0 : (0 : Int32).toInt = 0 := rfl
  have o1 : (1 : Int32).toInt = 1 := rfl
  have o2 : (2 : Int32).toInt = 2 := rfl
  have o3 : (3 : Int32).toInt = 3 := rfl
  have o4 : (4 : Int32).toInt = 4 := rfl
  have loop : ∀ (n : Nat) (TB : State) (hB : Heap) (lB : List Loc) (ii : Int32) (i : Nat) (XB : Stand p l e ({ frames := 0, cells := 0, slots := 0, locals := 0 } : Room) s m #[(.ref a1), (.ref x1)] below meth c TB lB (0) (0)) (eB : TB.heap = hB) (NB : Fr n0 lB) (ZB : n0 ≤ hB.size) (hii : ii.toInt = (i : Int)) (hin : i + n = k) (hall : ∀ j, j < i → ¬ nm j = x1) (eh : hB = h0), Ends p e below s ({ frames := 0, cells := 0, slots := 0, locals := 0 } : Room).cells ({ frames := 0, cells := 0, slots := 0, locals := 0 } : Room).slots (Q5 Z a1 x1 pl na tv fl gp g k nm h0 n0) (TB.setTop (mkF m 2 #[.val (.ref a1), .val (.ref x1), .val (.int ii)] [])) := by
    intro n
    induction n with
    | zero =>
      intro TB hB lB ii i XB eB NB ZB hii hin hall eh
      rw [eh] at eB
      refine own_iloadN (n := 3) XB hx (hb hby d5_2) rfl rfl ?_
      refine own_aloadN (n := 4) XB hx (hb hby d5_3) rfl rfl rfl ?_
      refine own_getF (n := 7) XB hx hZ hown (hw _ (List.mem_of_getElem? (i := 31) rfl)) eB F0.1.2.2.2.2 (hb hby d5_4) rfl ?_
      intro T1 X1 e1
      refine own_icmpYes (n := 28) X1 hx (hb hby d5_7) (Jvm.Free.XT.ii_ge_t (by rw [Int32.lt_iff_toInt_lt]; omega)) (by decide) (by decide) ?_
      refine own_iconst (n := 29) X1 hx (-1 : Int32) (hb hby d5_28) (by decide) rfl ?_
      refine own_retI X1 hx lk hret (hb hby d5_29) (by decide) (by decide) ?_
      rw [e1]
      exact ⟨_, rfl, Or.inr ⟨rfl, fun j _ hj => hall j (by omega)⟩, NB, rfl⟩
    | succ n ih =>
      intro TB hB lB ii i XB eB NB ZB hii hin hall eh
      rw [eh] at eB
      refine own_iloadN (n := 3) XB hx (hb hby d5_2) rfl rfl ?_
      refine own_aloadN (n := 4) XB hx (hb hby d5_3) rfl rfl rfl ?_
      refine own_getF (n := 7) XB hx hZ hown (hw _ (List.mem_of_getElem? (i := 31) rfl)) eB F0.1.2.2.2.2 (hb hby d5_4) rfl ?_
      intro T2 X2 e2
      refine own_icmpNo (n := 10) X2 hx (hb hby d5_7) (Jvm.Free.XT.ii_ge_f (by rw [Int32.lt_iff_toInt_lt]; omega)) rfl ?_
      refine own_aloadN (n := 11) X2 hx (hb hby d5_10) rfl rfl rfl ?_
      refine own_getF (n := 14) X2 hx hZ hown (hw _ (List.mem_of_getElem? (i := 15) rfl)) e2 F0.1.2.2.1 (hb hby d5_11) rfl ?_
      intro T3 X3 e3
      refine own_iloadN (n := 15) X3 hx (hb hby d5_14) rfl rfl ?_
      refine own_aaload (n := 16) X3 hx hZ e3 F0.2.2 (i := i) hii (by omega) (v := (.ref (nm i))) (hnam i (by omega)) (hb hby d5_15) rfl ?_
      refine own_aloadN (n := 17) X3 hx (hb hby d5_16) rfl rfl rfl ?_
      by_cases c17 : ((.ref (nm i)) : Value) = (.ref x1)
      · refine own_acmpNo (n := 20) X3 hx (hb hby d5_17) rfl rfl (Jvm.Free.XT.aa_ne_f c17) rfl ?_
        refine own_iloadN (n := 21) X3 hx (hb hby d5_20) rfl rfl ?_
        refine own_retI X3 hx lk hret (hb hby d5_21) (by decide) (by decide) ?_
        rw [e3]
        exact ⟨_, rfl, Or.inl ⟨i, hii, Nat.zero_le _, by omega, Value.ref.inj c17, fun j _ hj => hall j hj⟩, NB, rfl⟩
      · refine own_acmpYes (n := 22) X3 hx (hb hby d5_17) rfl rfl (Jvm.Free.XT.aa_ne_t c17) (by decide) (by decide) ?_
        refine own_iinc (n := 25) X3 hx (hb hby d5_22) rfl (v := (1 : Int32)) rfl (l' := #[.val (.ref a1), .val (.ref x1), .val (.int (ii + (1 : Int32)))]) rfl rfl ?_
        refine own_goto (n := 2) X3 hx (hb hby d5_25) (by decide) (by decide) ?_
        show Ends p e below s ({ frames := 0, cells := 0, slots := 0, locals := 0 } : Room).cells ({ frames := 0, cells := 0, slots := 0, locals := 0 } : Room).slots (Q5 Z a1 x1 pl na tv fl gp g k nm h0 n0) (T3.setTop (mkF m 2 #[.val (.ref a1), .val (.ref x1), .val (.int (ii + (1 : Int32)))] []))
        exact ih _ _ _ _ (i + 1) X3 e3 NB Z0 (own_add1 hii (by omega)) (by omega) (fun j hj => by
          by_cases e : j = i
          · subst e; exact fun z => c17 (congrArg Value.ref z)
          · exact hall j (by omega)) rfl
  refine own_iconst (n := 1) X0 hx (0 : Int32) (hb hby d5_0) rfl rfl ?_
  refine own_istoreN (n := 2) X0 hx (hb hby d5_1) (l' := #[.val (.ref a1), .val (.ref x1), .val (.int (0 : Int32))]) rfl rfl ?_
  show Ends p e below s ({ frames := 0, cells := 0, slots := 0, locals := 0 } : Room).cells ({ frames := 0, cells := 0, slots := 0, locals := 0 } : Room).slots (Q5 Z a1 x1 pl na tv fl gp g k nm h0 n0) (s₁.setTop (mkF m 2 #[.val (.ref a1), .val (.ref x1), .val (.int (0 : Int32))] []))
  exact loop k _ _ _ _ 0 X0 e0 N0 Z0 o0 (by omega) (fun j hj => absurd hj (by omega)) rfl
theorem pn_0 : plainFor x = true := by first | exact plainFor_of_name (by first | (simp [plainName, overriddenIn]; done) | decide +kernel) | decide +kernel
theorem ef_0 (m : MethodId) (p1 : Int32) (p2 : Int32) (p3 : Int32) (p4 : Int32) : entryFrame m #[(.int p1), (.int p2), (.int p3), (.int p4)] maxLocals = mkF m 0 #[.val (.int p1), .val (.int p2), .val (.int p3), .val (.int p4), .unset, .unset, .unset, .unset, .unset, .unset, .unset, .unset] [] := by first | rfl | (simp [entryFrame, mkF, argsToLocals, Value.category, maxLocals]; done)
def Q0 (Z : State) (p1 : Int32) (p2 : Int32) (p3 : Int32) (p4 : Int32) (en : Nat → Addr) (h0 : Heap) (n0 : Nat) (v : Option Value) (h : Heap) (L : List Loc) : Prop := v = some (.int 1) ∧ Fr n0 L
theorem rm0 (l : Launch) (Z : State) (a0 : Array Value) (hw : ∀ d ∈ tables_1, d.before a0 Z = true) (ws : List Jvm.Cond) (p1 : Int32) (p2 : Int32) (p3 : Int32) (p4 : Int32) (en : Nat → Addr) (h0 : Heap) (n0 : Nat) (Z0 : n0 ≤ h0.size) (S0 : Sta Z Z.heap "com/example/idun/idun/http1/FieldName" "CONNECTION" "Lcom/example/idun/idun/http1/FieldName;" (.ref (en 0))) (S1 : Sta Z Z.heap "com/example/idun/idun/http1/FieldName" "KEEP_ALIVE" "Lcom/example/idun/idun/http1/FieldName;" (.ref (en 1))) (S2 : Sta Z Z.heap "com/example/idun/idun/http1/FieldName" "PROXY_CONNECTION" "Lcom/example/idun/idun/http1/FieldName;" (.ref (en 2))) (S3 : Sta Z Z.heap "com/example/idun/idun/http1/FieldName" "TE" "Lcom/example/idun/idun/http1/FieldName;" (.ref (en 3))) (S4 : Sta Z Z.heap "com/example/idun/idun/http1/FieldName" "TRAILER" "Lcom/example/idun/idun/http1/FieldName;" (.ref (en 4))) (S5 : Sta Z Z.heap "com/example/idun/idun/http1/FieldName" "UPGRADE" "Lcom/example/idun/idun/http1/FieldName;" (.ref (en 5))) (S6 : Sta Z Z.heap "com/example/idun/idun/http1/FieldName" "CONTENT_LENGTH" "Lcom/example/idun/idun/http1/FieldName;" (.ref (en 6))) (S7 : Sta Z Z.heap "com/example/idun/idun/http1/FieldName" "TRANSFER_ENCODING" "Lcom/example/idun/idun/http1/FieldName;" (.ref (en 7))) (S8 : Sta Z Z.heap "com/example/idun/idun/http1/FieldName" "HOST" "Lcom/example/idun/idun/http1/FieldName;" (.ref (en 8))) (S9 : Sta Z Z.heap "com/example/idun/idun/http1/FieldName" "X_FORWARDED_FOR" "Lcom/example/idun/idun/http1/FieldName;" (.ref (en 9))) (S10 : Sta Z Z.heap "com/example/idun/idun/http1/FieldName" "X_FORWARDED_HOST" "Lcom/example/idun/idun/http1/FieldName;" (.ref (en 10))) (S11 : Sta Z Z.heap "com/example/idun/idun/http1/FieldName" "X_FORWARDED_PROTO" "Lcom/example/idun/idun/http1/FieldName;" (.ref (en 11))) (S12 : Sta Z Z.heap "com/example/idun/idun/http1/FieldName" "VIA" "Lcom/example/idun/idun/http1/FieldName;" (.ref (en 12))) (S13 : Sta Z Z.heap "com/example/idun/idun/http1/FieldName" "OTHER" "Lcom/example/idun/idun/http1/FieldName;" (.ref (en 13))) (EX : ∀ i, i < 14 → Exa Z Z.heap (en i) "com/example/idun/idun/http1/FieldName") (INJ : ∀ i j, i < 14 → j < 14 → en i = en j → i = j) (OL : Old Z n0 h0) :
    MetFree l x (head1 (Jvm.Cond.code x code maxLocals ret :: ws) room_1) (fun a U => a = #[(.int p1), (.int p2), (.int p3), (.int p4)] ∧ Z.Warmed39 U.vm ∧ U.heap = h0) (fun _ _ _ _ _ => True) (fun _ U o U' => ∃ v L, o = .returned v ∧ (Q0 Z p1 p2 p3 p4 en h0 n0) v U'.heap L ∧ FrameEnd U o U' L 16 256) := by
  refine MetFree.of_bodySF pn_0 hisR ?_
  intro p e s m args below meth c s₁ Bd hml0 hP hK
  obtain ⟨rfl, hZ, hh⟩ := hP
  have hx := Bd.exec
  have hby := Bd.bytes
  have hml : c.maxLocals = 12 := hml0
  have hown : s.vm.findClass "com/example/idun/idun/http1/HeadFieldPinLaw" = some m.cls := findClass_of_methodNamed Bd.named
  have hnm := (name_of_methodNamed Bd.named Bd.method).1
  have X0 : Stand p l e room_1 s m #[(.int p1), (.int p2), (.int p3), (.int p4)] below meth c s₁ [] 0 0 := Stand.of_body Bd
  have e0 : s₁.heap = h0 := by rw [← hh, Bd.state]; rfl
  have N0 := Fr.nil n0
  have lk : meth.locks = false := BodyLoose.notSynchronized Bd
  have hret := Bd.returns
  show Ends p e below s 16 256 (Q0 Z p1 p2 p3 p4 en h0 n0) (s₁.setTop (entryFrame m #[(.int p1), (.int p2), (.int p3), (.int p4)] maxLocals))
  refine Ends.cast (ef_0 m p1 p2 p3 p4) ?_
  have o0 : (0 : Int32).toInt = 0 := rfl
  have o1 : (1 : Int32).toInt = 1 := rfl
  have o2 : (2 : Int32).toInt = 2 := rfl
  have o3 : (3 : Int32).toInt = 3 := rfl
  have o4 : (4 : Int32).toInt = 4 := rfl
  have blk215 : ∀ (TB : State) (hB : Heap) (lB : List Loc) (cnt : Int32) (c0 : Int32) (c1 : Int32) (c2 : Int32) (c3 : Int32) (cq : Int32) (j0 : Nat) (j1 : Nat) (j2 : Nat) (j3 : Nat) (jq : Nat) (o : Addr) (dA : Addr) (cA : Addr) (tA : Value) (fl : Int32) (gp : Nat → Int32) (g : Nat → Value) (k : Nat) (nm : Nat → Addr) (ex : Int32) (XB : Stand p l e room_1 s m #[(.int p1), (.int p2), (.int p3), (.int p4)] below meth c TB lB (0 + 1 + 3) (0 + 25 + 48)) (eB : TB.heap = hB) (NB : Fr n0 lB) (ZB : n0 ≤ hB.size) (NE : NE3 n0 o dA cA) (FB : HA Z hB o dA cA tA fl gp g) (OB : Old Z n0 hB) (hfl : fl.toInt = (k : Int)) (hnam : ∀ j, j < k → g j = .ref (nm j)) (hc : 0 ≤ cnt.toInt ∧ cnt.toInt ≤ 4) (hq0 : c0.toInt = (j0 : Int) ∧ j0 < 14) (hq1 : c1.toInt = (j1 : Int) ∧ j1 < 14) (hq2 : c2.toInt = (j2 : Int) ∧ j2 < 14) (hq3 : c3.toInt = (j3 : Int) ∧ j3 < 14) (hqq : cq.toInt = (jq : Int) ∧ jq < 14) (hk : (k : Int) = cnt.toInt) (hE : FST (fun i => nm i = en jq) 0 k ex), Ends p e below s 16 256 (Q0 Z p1 p2 p3 p4 en h0 n0) (TB.setTop (mkF m 215 #[.val (.int p1), .val (.int p2), .val (.int p3), .val (.int p4), .val (.int cnt), .val (.int c0), .val (.int c1), .val (.int c2), .val (.int c3), .val (.int cq), .val (.ref o), .val (.int ex)] [])) := by
    intro TB hB lB cnt c0 c1 c2 c3 cq j0 j1 j2 j3 jq o dA cA tA fl gp g k nm ex XB eB NB ZB NE FB OB hfl hnam hc hq0 hq1 hq2 hq3 hqq hk hE
    refine own_aload (n := 217) XB hx (hb hby at_215) rfl rfl rfl ?_
    refine own_iload (n := 219) XB hx (hb hby at_217) rfl rfl ?_
    refine own_callS (n := 222) XB hx hZ hown (hw _ (List.mem_of_getElem? (i := 19) rfl)) (hw _ (List.mem_of_getElem? (i := 20) rfl)) (hw _ (List.mem_of_getElem? (i := 21) rfl)) (hw _ (List.mem_of_getElem? (i := 22) rfl)) (by decide) eB (rm3 l Z a0 hw [] cq en hB n0 ZB (S0.ext OB.2) (S1.ext OB.2) (S2.ext OB.2) (S3.ext OB.2) (S4.ext OB.2) (S5.ext OB.2) (S6.ext OB.2) (S7.ext OB.2) (S8.ext OB.2) (S9.ext OB.2) (S10.ext OB.2) (S11.ext OB.2) (S12.ext OB.2) (S13.ext OB.2)) (W := 1) (by decide) (by decide) (by decide) (by decide) (by rw [hml]; rfl) (argsL := [(.int cq)]) (rest := [(.ref o)]) pd_3 rfl (by rfl) (Nat.le_of_eq rfl) (hb hby at_219) rfl rfl ?_
    intro v1 T1 h1 L1 X1 e1 q1
    obtain ⟨i1, hi1, rfl, hj1, M1, rfl⟩ := q1
    have N1 := Fr.app NB M1
    obtain rfl : i1 = jq := by have := hj1 (by omega) (by omega); omega
    refine own_callV (n := 225) X1 hx hZ hown (hw _ (List.mem_of_getElem? (i := 36) rfl)) (hw _ (List.mem_of_getElem? (i := 37) rfl)) (hw _ (List.mem_of_getElem? (i := 39) rfl)) (hw _ (List.mem_of_getElem? (i := 38) rfl)) (hw _ (List.mem_of_getElem? (i := 3) rfl)) (hw _ (List.mem_of_getElem? (i := 40) rfl)) (by decide) e1 FB.1.1 (rm5 l Z a0 hw [] o (en i1) dA cA tA fl gp g k nm hB n0 ZB FB NE hfl (by omega) hnam) (W := 0) (by decide) (by decide) (by decide) (by decide) (by rw [hml]; rfl) (argsL := [(.ref (en i1))]) (rest := []) pd_5 rfl (by rfl) (Nat.le_of_eq rfl) (hb hby at_222) rfl rfl ?_
    intro v2 T2 h2 L2 X2 e2 q2
    obtain ⟨r2, rfl, hr2, M2, rfl⟩ := q2
    have N2 := Fr.app N1 M2
    obtain rfl := FST.uniq hr2 hE
    refine own_iload (n := 227) X2 hx (hb hby at_225) rfl rfl ?_
    refine own_icmpNo (n := 230) X2 hx (hb hby at_227) (Jvm.Free.XT.ii_ne_f rfl) rfl ?_
    refine own_iconst (n := 231) X2 hx (1 : Int32) (hb hby at_230) rfl rfl ?_
    refine own_goto (n := 235) X2 hx (hb hby at_231) (by decide) (by decide) ?_
    refine own_retN X2 hx lk hret (by simp) (hb hby at_235) (by decide) (by decide) ?_
    rw [e2]
    exact ⟨rfl, N2⟩
  have blk200 : ∀ (TB : State) (hB : Heap) (lB : List Loc) (cnt : Int32) (c0 : Int32) (c1 : Int32) (c2 : Int32) (c3 : Int32) (cq : Int32) (j0 : Nat) (j1 : Nat) (j2 : Nat) (j3 : Nat) (jq : Nat) (o : Addr) (dA : Addr) (cA : Addr) (tA : Value) (fl : Int32) (gp : Nat → Int32) (g : Nat → Value) (k : Nat) (nm : Nat → Addr) (ex : Int32) (XB : Stand p l e room_1 s m #[(.int p1), (.int p2), (.int p3), (.int p4)] below meth c TB lB (0 + 1 + 3) (0 + 25 + 48)) (eB : TB.heap = hB) (NB : Fr n0 lB) (ZB : n0 ≤ hB.size) (NE : NE3 n0 o dA cA) (FB : HA Z hB o dA cA tA fl gp g) (OB : Old Z n0 hB) (hfl : fl.toInt = (k : Int)) (hnam : ∀ j, j < k → g j = .ref (nm j)) (hc : 0 ≤ cnt.toInt ∧ cnt.toInt ≤ 4) (hq0 : c0.toInt = (j0 : Int) ∧ j0 < 14) (hq1 : c1.toInt = (j1 : Int) ∧ j1 < 14) (hq2 : c2.toInt = (j2 : Int) ∧ j2 < 14) (hq3 : c3.toInt = (j3 : Int) ∧ j3 < 14) (hqq : cq.toInt = (jq : Int) ∧ jq < 14) (hn0 : 0 < k → nm 0 = en j0) (hn1 : 1 < k → nm 1 = en j1) (hn2 : 2 < k → nm 2 = en j2) (hn3 : 3 < k → nm 3 = en j3) (hk : (k : Int) = cnt.toInt) (hE : FST (fun i => nm i = en jq) 1 k ex), Ends p e below s 16 256 (Q0 Z p1 p2 p3 p4 en h0 n0) (TB.setTop (mkF m 200 #[.val (.int p1), .val (.int p2), .val (.int p3), .val (.int p4), .val (.int cnt), .val (.int c0), .val (.int c1), .val (.int c2), .val (.int c3), .val (.int cq), .val (.ref o), .val (.int ex)] [])) := by
    intro TB hB lB cnt c0 c1 c2 c3 cq j0 j1 j2 j3 jq o dA cA tA fl gp g k nm ex XB eB NB ZB NE FB OB hfl hnam hc hq0 hq1 hq2 hq3 hqq hn0 hn1 hn2 hn3 hk hE
    refine own_iload (n := 202) XB hx (hb hby at_200) rfl rfl ?_
    by_cases c202 : 0 < cnt
    · refine own_ifNo (n := 205) XB hx (hb hby at_202) (Jvm.Free.XT.i0_le_f c202) rfl ?_
      refine own_iload (n := 207) XB hx (hb hby at_205) rfl rfl ?_
      refine own_iload (n := 209) XB hx (hb hby at_207) rfl rfl ?_
      by_cases c209 : c0 = cq
      · refine own_icmpNo (n := 212) XB hx (hb hby at_209) (Jvm.Free.XT.ii_ne_f c209) rfl ?_
        refine own_iconst (n := 213) XB hx (0 : Int32) (hb hby at_212) rfl rfl ?_
        refine own_istore (n := 215) XB hx (hb hby at_213) (l' := #[.val (.int p1), .val (.int p2), .val (.int p3), .val (.int p4), .val (.int cnt), .val (.int c0), .val (.int c1), .val (.int c2), .val (.int c3), .val (.int cq), .val (.ref o), .val (.int (0 : Int32))]) rfl rfl ?_
        show Ends p e below s 16 256 (Q0 Z p1 p2 p3 p4 en h0 n0) (TB.setTop (mkF m 215 #[.val (.int p1), .val (.int p2), .val (.int p3), .val (.int p4), .val (.int cnt), .val (.int c0), .val (.int c1), .val (.int c2), .val (.int c3), .val (.int cq), .val (.ref o), .val (.int (0 : Int32))] []))
        rw [Int32.lt_iff_toInt_lt] at c202
        have z1 := congrArg Int32.toInt c209
        have z2 := hn0 (by omega)
        obtain rfl : j0 = jq := by omega
        exact blk215 _ _ _ cnt c0 c1 c2 c3 cq j0 j1 j2 j3 j0 o dA cA tA fl gp g k nm (0 : Int32) XB eB NB ZB NE FB OB hfl hnam hc hq0 hq1 hq2 hq3 hqq hk (FST.hit o0 (by omega) z2)
      · refine own_icmpYes (n := 215) XB hx (hb hby at_209) (Jvm.Free.XT.ii_ne_t c209) (by decide) (by decide) ?_
        show Ends p e below s 16 256 (Q0 Z p1 p2 p3 p4 en h0 n0) (TB.setTop (mkF m 215 #[.val (.int p1), .val (.int p2), .val (.int p3), .val (.int p4), .val (.int cnt), .val (.int c0), .val (.int c1), .val (.int c2), .val (.int c3), .val (.int cq), .val (.ref o), .val (.int ex)] []))
        rw [Int32.lt_iff_toInt_lt] at c202
        have z2 := hn0 (by omega)
        exact blk215 _ _ _ cnt c0 c1 c2 c3 cq j0 j1 j2 j3 jq o dA cA tA fl gp g k nm ex XB eB NB ZB NE FB OB hfl hnam hc hq0 hq1 hq2 hq3 hqq hk (FST.skip hE (Or.inr (fun z => c209 (own_eq (by have := INJ _ _ (by omega) (by omega) (z2.symm.trans z); omega)))))
    · refine own_ifYes (n := 215) XB hx (hb hby at_202) (Jvm.Free.XT.i0_le_t c202) (by decide) (by decide) ?_
      show Ends p e below s 16 256 (Q0 Z p1 p2 p3 p4 en h0 n0) (TB.setTop (mkF m 215 #[.val (.int p1), .val (.int p2), .val (.int p3), .val (.int p4), .val (.int cnt), .val (.int c0), .val (.int c1), .val (.int c2), .val (.int c3), .val (.int cq), .val (.ref o), .val (.int ex)] []))
      rw [Int32.lt_iff_toInt_lt] at c202
      exact blk215 _ _ _ cnt c0 c1 c2 c3 cq j0 j1 j2 j3 jq o dA cA tA fl gp g k nm ex XB eB NB ZB NE FB OB hfl hnam hc hq0 hq1 hq2 hq3 hqq hk (FST.skip hE (Or.inl (by omega)))
  have blk184 : ∀ (TB : State) (hB : Heap) (lB : List Loc) (cnt : Int32) (c0 : Int32) (c1 : Int32) (c2 : Int32) (c3 : Int32) (cq : Int32) (j0 : Nat) (j1 : Nat) (j2 : Nat) (j3 : Nat) (jq : Nat) (o : Addr) (dA : Addr) (cA : Addr) (tA : Value) (fl : Int32) (gp : Nat → Int32) (g : Nat → Value) (k : Nat) (nm : Nat → Addr) (ex : Int32) (XB : Stand p l e room_1 s m #[(.int p1), (.int p2), (.int p3), (.int p4)] below meth c TB lB (0 + 1 + 3) (0 + 25 + 48)) (eB : TB.heap = hB) (NB : Fr n0 lB) (ZB : n0 ≤ hB.size) (NE : NE3 n0 o dA cA) (FB : HA Z hB o dA cA tA fl gp g) (OB : Old Z n0 hB) (hfl : fl.toInt = (k : Int)) (hnam : ∀ j, j < k → g j = .ref (nm j)) (hc : 0 ≤ cnt.toInt ∧ cnt.toInt ≤ 4) (hq0 : c0.toInt = (j0 : Int) ∧ j0 < 14) (hq1 : c1.toInt = (j1 : Int) ∧ j1 < 14) (hq2 : c2.toInt = (j2 : Int) ∧ j2 < 14) (hq3 : c3.toInt = (j3 : Int) ∧ j3 < 14) (hqq : cq.toInt = (jq : Int) ∧ jq < 14) (hn0 : 0 < k → nm 0 = en j0) (hn1 : 1 < k → nm 1 = en j1) (hn2 : 2 < k → nm 2 = en j2) (hn3 : 3 < k → nm 3 = en j3) (hk : (k : Int) = cnt.toInt) (hE : FST (fun i => nm i = en jq) 2 k ex), Ends p e below s 16 256 (Q0 Z p1 p2 p3 p4 en h0 n0) (TB.setTop (mkF m 184 #[.val (.int p1), .val (.int p2), .val (.int p3), .val (.int p4), .val (.int cnt), .val (.int c0), .val (.int c1), .val (.int c2), .val (.int c3), .val (.int cq), .val (.ref o), .val (.int ex)] [])) := by
    intro TB hB lB cnt c0 c1 c2 c3 cq j0 j1 j2 j3 jq o dA cA tA fl gp g k nm ex XB eB NB ZB NE FB OB hfl hnam hc hq0 hq1 hq2 hq3 hqq hn0 hn1 hn2 hn3 hk hE
    refine own_iload (n := 186) XB hx (hb hby at_184) rfl rfl ?_
    refine own_iconst (n := 187) XB hx (1 : Int32) (hb hby at_186) rfl rfl ?_
    by_cases c187 : (1 : Int32) < cnt
    · refine own_icmpNo (n := 190) XB hx (hb hby at_187) (Jvm.Free.XT.ii_le_f c187) rfl ?_
      refine own_iload (n := 192) XB hx (hb hby at_190) rfl rfl ?_
      refine own_iload (n := 194) XB hx (hb hby at_192) rfl rfl ?_
      by_cases c194 : c1 = cq
      · refine own_icmpNo (n := 197) XB hx (hb hby at_194) (Jvm.Free.XT.ii_ne_f c194) rfl ?_
        refine own_iconst (n := 198) XB hx (1 : Int32) (hb hby at_197) rfl rfl ?_
        refine own_istore (n := 200) XB hx (hb hby at_198) (l' := #[.val (.int p1), .val (.int p2), .val (.int p3), .val (.int p4), .val (.int cnt), .val (.int c0), .val (.int c1), .val (.int c2), .val (.int c3), .val (.int cq), .val (.ref o), .val (.int (1 : Int32))]) rfl rfl ?_
        show Ends p e below s 16 256 (Q0 Z p1 p2 p3 p4 en h0 n0) (TB.setTop (mkF m 200 #[.val (.int p1), .val (.int p2), .val (.int p3), .val (.int p4), .val (.int cnt), .val (.int c0), .val (.int c1), .val (.int c2), .val (.int c3), .val (.int cq), .val (.ref o), .val (.int (1 : Int32))] []))
        rw [Int32.lt_iff_toInt_lt] at c187
        have z1 := congrArg Int32.toInt c194
        have z2 := hn1 (by omega)
        obtain rfl : j1 = jq := by omega
        exact blk200 _ _ _ cnt c0 c1 c2 c3 cq j0 j1 j2 j3 j1 o dA cA tA fl gp g k nm (1 : Int32) XB eB NB ZB NE FB OB hfl hnam hc hq0 hq1 hq2 hq3 hqq hn0 hn1 hn2 hn3 hk (FST.hit o1 (by omega) z2)
      · refine own_icmpYes (n := 200) XB hx (hb hby at_194) (Jvm.Free.XT.ii_ne_t c194) (by decide) (by decide) ?_
        show Ends p e below s 16 256 (Q0 Z p1 p2 p3 p4 en h0 n0) (TB.setTop (mkF m 200 #[.val (.int p1), .val (.int p2), .val (.int p3), .val (.int p4), .val (.int cnt), .val (.int c0), .val (.int c1), .val (.int c2), .val (.int c3), .val (.int cq), .val (.ref o), .val (.int ex)] []))
        rw [Int32.lt_iff_toInt_lt] at c187
        have z2 := hn1 (by omega)
        exact blk200 _ _ _ cnt c0 c1 c2 c3 cq j0 j1 j2 j3 jq o dA cA tA fl gp g k nm ex XB eB NB ZB NE FB OB hfl hnam hc hq0 hq1 hq2 hq3 hqq hn0 hn1 hn2 hn3 hk (FST.skip hE (Or.inr (fun z => c194 (own_eq (by have := INJ _ _ (by omega) (by omega) (z2.symm.trans z); omega)))))
    · refine own_icmpYes (n := 200) XB hx (hb hby at_187) (Jvm.Free.XT.ii_le_t c187) (by decide) (by decide) ?_
      show Ends p e below s 16 256 (Q0 Z p1 p2 p3 p4 en h0 n0) (TB.setTop (mkF m 200 #[.val (.int p1), .val (.int p2), .val (.int p3), .val (.int p4), .val (.int cnt), .val (.int c0), .val (.int c1), .val (.int c2), .val (.int c3), .val (.int cq), .val (.ref o), .val (.int ex)] []))
      rw [Int32.lt_iff_toInt_lt] at c187
      exact blk200 _ _ _ cnt c0 c1 c2 c3 cq j0 j1 j2 j3 jq o dA cA tA fl gp g k nm ex XB eB NB ZB NE FB OB hfl hnam hc hq0 hq1 hq2 hq3 hqq hn0 hn1 hn2 hn3 hk (FST.skip hE (Or.inl (by omega)))
  have blk168 : ∀ (TB : State) (hB : Heap) (lB : List Loc) (cnt : Int32) (c0 : Int32) (c1 : Int32) (c2 : Int32) (c3 : Int32) (cq : Int32) (j0 : Nat) (j1 : Nat) (j2 : Nat) (j3 : Nat) (jq : Nat) (o : Addr) (dA : Addr) (cA : Addr) (tA : Value) (fl : Int32) (gp : Nat → Int32) (g : Nat → Value) (k : Nat) (nm : Nat → Addr) (ex : Int32) (XB : Stand p l e room_1 s m #[(.int p1), (.int p2), (.int p3), (.int p4)] below meth c TB lB (0 + 1 + 3) (0 + 25 + 48)) (eB : TB.heap = hB) (NB : Fr n0 lB) (ZB : n0 ≤ hB.size) (NE : NE3 n0 o dA cA) (FB : HA Z hB o dA cA tA fl gp g) (OB : Old Z n0 hB) (hfl : fl.toInt = (k : Int)) (hnam : ∀ j, j < k → g j = .ref (nm j)) (hc : 0 ≤ cnt.toInt ∧ cnt.toInt ≤ 4) (hq0 : c0.toInt = (j0 : Int) ∧ j0 < 14) (hq1 : c1.toInt = (j1 : Int) ∧ j1 < 14) (hq2 : c2.toInt = (j2 : Int) ∧ j2 < 14) (hq3 : c3.toInt = (j3 : Int) ∧ j3 < 14) (hqq : cq.toInt = (jq : Int) ∧ jq < 14) (hn0 : 0 < k → nm 0 = en j0) (hn1 : 1 < k → nm 1 = en j1) (hn2 : 2 < k → nm 2 = en j2) (hn3 : 3 < k → nm 3 = en j3) (hk : (k : Int) = cnt.toInt) (hE : FST (fun i => nm i = en jq) 3 k ex), Ends p e below s 16 256 (Q0 Z p1 p2 p3 p4 en h0 n0) (TB.setTop (mkF m 168 #[.val (.int p1), .val (.int p2), .val (.int p3), .val (.int p4), .val (.int cnt), .val (.int c0), .val (.int c1), .val (.int c2), .val (.int c3), .val (.int cq), .val (.ref o), .val (.int ex)] [])) := by
    intro TB hB lB cnt c0 c1 c2 c3 cq j0 j1 j2 j3 jq o dA cA tA fl gp g k nm ex XB eB NB ZB NE FB OB hfl hnam hc hq0 hq1 hq2 hq3 hqq hn0 hn1 hn2 hn3 hk hE
    refine own_iload (n := 170) XB hx (hb hby at_168) rfl rfl ?_
    refine own_iconst (n := 171) XB hx (2 : Int32) (hb hby at_170) rfl rfl ?_
    by_cases c171 : (2 : Int32) < cnt
    · refine own_icmpNo (n := 174) XB hx (hb hby at_171) (Jvm.Free.XT.ii_le_f c171) rfl ?_
      refine own_iload (n := 176) XB hx (hb hby at_174) rfl rfl ?_
      refine own_iload (n := 178) XB hx (hb hby at_176) rfl rfl ?_
      by_cases c178 : c2 = cq
      · refine own_icmpNo (n := 181) XB hx (hb hby at_178) (Jvm.Free.XT.ii_ne_f c178) rfl ?_
        refine own_iconst (n := 182) XB hx (2 : Int32) (hb hby at_181) rfl rfl ?_
        refine own_istore (n := 184) XB hx (hb hby at_182) (l' := #[.val (.int p1), .val (.int p2), .val (.int p3), .val (.int p4), .val (.int cnt), .val (.int c0), .val (.int c1), .val (.int c2), .val (.int c3), .val (.int cq), .val (.ref o), .val (.int (2 : Int32))]) rfl rfl ?_
        show Ends p e below s 16 256 (Q0 Z p1 p2 p3 p4 en h0 n0) (TB.setTop (mkF m 184 #[.val (.int p1), .val (.int p2), .val (.int p3), .val (.int p4), .val (.int cnt), .val (.int c0), .val (.int c1), .val (.int c2), .val (.int c3), .val (.int cq), .val (.ref o), .val (.int (2 : Int32))] []))
        rw [Int32.lt_iff_toInt_lt] at c171
        have z1 := congrArg Int32.toInt c178
        have z2 := hn2 (by omega)
        obtain rfl : j2 = jq := by omega
        exact blk184 _ _ _ cnt c0 c1 c2 c3 cq j0 j1 j2 j3 j2 o dA cA tA fl gp g k nm (2 : Int32) XB eB NB ZB NE FB OB hfl hnam hc hq0 hq1 hq2 hq3 hqq hn0 hn1 hn2 hn3 hk (FST.hit o2 (by omega) z2)
      · refine own_icmpYes (n := 184) XB hx (hb hby at_178) (Jvm.Free.XT.ii_ne_t c178) (by decide) (by decide) ?_
        show Ends p e below s 16 256 (Q0 Z p1 p2 p3 p4 en h0 n0) (TB.setTop (mkF m 184 #[.val (.int p1), .val (.int p2), .val (.int p3), .val (.int p4), .val (.int cnt), .val (.int c0), .val (.int c1), .val (.int c2), .val (.int c3), .val (.int cq), .val (.ref o), .val (.int ex)] []))
        rw [Int32.lt_iff_toInt_lt] at c171
        have z2 := hn2 (by omega)
        exact blk184 _ _ _ cnt c0 c1 c2 c3 cq j0 j1 j2 j3 jq o dA cA tA fl gp g k nm ex XB eB NB ZB NE FB OB hfl hnam hc hq0 hq1 hq2 hq3 hqq hn0 hn1 hn2 hn3 hk (FST.skip hE (Or.inr (fun z => c178 (own_eq (by have := INJ _ _ (by omega) (by omega) (z2.symm.trans z); omega)))))
    · refine own_icmpYes (n := 184) XB hx (hb hby at_171) (Jvm.Free.XT.ii_le_t c171) (by decide) (by decide) ?_
      show Ends p e below s 16 256 (Q0 Z p1 p2 p3 p4 en h0 n0) (TB.setTop (mkF m 184 #[.val (.int p1), .val (.int p2), .val (.int p3), .val (.int p4), .val (.int cnt), .val (.int c0), .val (.int c1), .val (.int c2), .val (.int c3), .val (.int cq), .val (.ref o), .val (.int ex)] []))
      rw [Int32.lt_iff_toInt_lt] at c171
      exact blk184 _ _ _ cnt c0 c1 c2 c3 cq j0 j1 j2 j3 jq o dA cA tA fl gp g k nm ex XB eB NB ZB NE FB OB hfl hnam hc hq0 hq1 hq2 hq3 hqq hn0 hn1 hn2 hn3 hk (FST.skip hE (Or.inl (by omega)))
  have blk152 : ∀ (TB : State) (hB : Heap) (lB : List Loc) (cnt : Int32) (c0 : Int32) (c1 : Int32) (c2 : Int32) (c3 : Int32) (cq : Int32) (j0 : Nat) (j1 : Nat) (j2 : Nat) (j3 : Nat) (jq : Nat) (o : Addr) (dA : Addr) (cA : Addr) (tA : Value) (fl : Int32) (gp : Nat → Int32) (g : Nat → Value) (k : Nat) (nm : Nat → Addr) (ex : Int32) (XB : Stand p l e room_1 s m #[(.int p1), (.int p2), (.int p3), (.int p4)] below meth c TB lB (0 + 1 + 3) (0 + 25 + 48)) (eB : TB.heap = hB) (NB : Fr n0 lB) (ZB : n0 ≤ hB.size) (NE : NE3 n0 o dA cA) (FB : HA Z hB o dA cA tA fl gp g) (OB : Old Z n0 hB) (hfl : fl.toInt = (k : Int)) (hnam : ∀ j, j < k → g j = .ref (nm j)) (hc : 0 ≤ cnt.toInt ∧ cnt.toInt ≤ 4) (hq0 : c0.toInt = (j0 : Int) ∧ j0 < 14) (hq1 : c1.toInt = (j1 : Int) ∧ j1 < 14) (hq2 : c2.toInt = (j2 : Int) ∧ j2 < 14) (hq3 : c3.toInt = (j3 : Int) ∧ j3 < 14) (hqq : cq.toInt = (jq : Int) ∧ jq < 14) (hn0 : 0 < k → nm 0 = en j0) (hn1 : 1 < k → nm 1 = en j1) (hn2 : 2 < k → nm 2 = en j2) (hn3 : 3 < k → nm 3 = en j3) (hk : (k : Int) = cnt.toInt) (hE : FST (fun i => nm i = en jq) 4 k ex), Ends p e below s 16 256 (Q0 Z p1 p2 p3 p4 en h0 n0) (TB.setTop (mkF m 152 #[.val (.int p1), .val (.int p2), .val (.int p3), .val (.int p4), .val (.int cnt), .val (.int c0), .val (.int c1), .val (.int c2), .val (.int c3), .val (.int cq), .val (.ref o), .val (.int ex)] [])) := by
    intro TB hB lB cnt c0 c1 c2 c3 cq j0 j1 j2 j3 jq o dA cA tA fl gp g k nm ex XB eB NB ZB NE FB OB hfl hnam hc hq0 hq1 hq2 hq3 hqq hn0 hn1 hn2 hn3 hk hE
    refine own_iload (n := 154) XB hx (hb hby at_152) rfl rfl ?_
    refine own_iconst (n := 155) XB hx (3 : Int32) (hb hby at_154) rfl rfl ?_
    by_cases c155 : (3 : Int32) < cnt
    · refine own_icmpNo (n := 158) XB hx (hb hby at_155) (Jvm.Free.XT.ii_le_f c155) rfl ?_
      refine own_iload (n := 160) XB hx (hb hby at_158) rfl rfl ?_
      refine own_iload (n := 162) XB hx (hb hby at_160) rfl rfl ?_
      by_cases c162 : c3 = cq
      · refine own_icmpNo (n := 165) XB hx (hb hby at_162) (Jvm.Free.XT.ii_ne_f c162) rfl ?_
        refine own_iconst (n := 166) XB hx (3 : Int32) (hb hby at_165) rfl rfl ?_
        refine own_istore (n := 168) XB hx (hb hby at_166) (l' := #[.val (.int p1), .val (.int p2), .val (.int p3), .val (.int p4), .val (.int cnt), .val (.int c0), .val (.int c1), .val (.int c2), .val (.int c3), .val (.int cq), .val (.ref o), .val (.int (3 : Int32))]) rfl rfl ?_
        show Ends p e below s 16 256 (Q0 Z p1 p2 p3 p4 en h0 n0) (TB.setTop (mkF m 168 #[.val (.int p1), .val (.int p2), .val (.int p3), .val (.int p4), .val (.int cnt), .val (.int c0), .val (.int c1), .val (.int c2), .val (.int c3), .val (.int cq), .val (.ref o), .val (.int (3 : Int32))] []))
        rw [Int32.lt_iff_toInt_lt] at c155
        have z1 := congrArg Int32.toInt c162
        have z2 := hn3 (by omega)
        obtain rfl : j3 = jq := by omega
        exact blk168 _ _ _ cnt c0 c1 c2 c3 cq j0 j1 j2 j3 j3 o dA cA tA fl gp g k nm (3 : Int32) XB eB NB ZB NE FB OB hfl hnam hc hq0 hq1 hq2 hq3 hqq hn0 hn1 hn2 hn3 hk (FST.hit o3 (by omega) z2)
      · refine own_icmpYes (n := 168) XB hx (hb hby at_162) (Jvm.Free.XT.ii_ne_t c162) (by decide) (by decide) ?_
        show Ends p e below s 16 256 (Q0 Z p1 p2 p3 p4 en h0 n0) (TB.setTop (mkF m 168 #[.val (.int p1), .val (.int p2), .val (.int p3), .val (.int p4), .val (.int cnt), .val (.int c0), .val (.int c1), .val (.int c2), .val (.int c3), .val (.int cq), .val (.ref o), .val (.int ex)] []))
        rw [Int32.lt_iff_toInt_lt] at c155
        have z2 := hn3 (by omega)
        exact blk168 _ _ _ cnt c0 c1 c2 c3 cq j0 j1 j2 j3 jq o dA cA tA fl gp g k nm ex XB eB NB ZB NE FB OB hfl hnam hc hq0 hq1 hq2 hq3 hqq hn0 hn1 hn2 hn3 hk (FST.skip hE (Or.inr (fun z => c162 (own_eq (by have := INJ _ _ (by omega) (by omega) (z2.symm.trans z); omega)))))
    · refine own_icmpYes (n := 168) XB hx (hb hby at_155) (Jvm.Free.XT.ii_le_t c155) (by decide) (by decide) ?_
      show Ends p e below s 16 256 (Q0 Z p1 p2 p3 p4 en h0 n0) (TB.setTop (mkF m 168 #[.val (.int p1), .val (.int p2), .val (.int p3), .val (.int p4), .val (.int cnt), .val (.int c0), .val (.int c1), .val (.int c2), .val (.int c3), .val (.int cq), .val (.ref o), .val (.int ex)] []))
      rw [Int32.lt_iff_toInt_lt] at c155
      exact blk168 _ _ _ cnt c0 c1 c2 c3 cq j0 j1 j2 j3 jq o dA cA tA fl gp g k nm ex XB eB NB ZB NE FB OB hfl hnam hc hq0 hq1 hq2 hq3 hqq hn0 hn1 hn2 hn3 hk (FST.skip hE (Or.inl (by omega)))
  have blk149 : ∀ (TB : State) (hB : Heap) (lB : List Loc) (cnt : Int32) (c0 : Int32) (c1 : Int32) (c2 : Int32) (c3 : Int32) (cq : Int32) (j0 : Nat) (j1 : Nat) (j2 : Nat) (j3 : Nat) (jq : Nat) (o : Addr) (dA : Addr) (cA : Addr) (tA : Value) (fl : Int32) (gp : Nat → Int32) (g : Nat → Value) (k : Nat) (nm : Nat → Addr) (XB : Stand p l e room_1 s m #[(.int p1), (.int p2), (.int p3), (.int p4)] below meth c TB lB (0 + 1 + 3) (0 + 25 + 48)) (eB : TB.heap = hB) (NB : Fr n0 lB) (ZB : n0 ≤ hB.size) (NE : NE3 n0 o dA cA) (FB : HA Z hB o dA cA tA fl gp g) (OB : Old Z n0 hB) (hfl : fl.toInt = (k : Int)) (hnam : ∀ j, j < k → g j = .ref (nm j)) (hc : 0 ≤ cnt.toInt ∧ cnt.toInt ≤ 4) (hq0 : c0.toInt = (j0 : Int) ∧ j0 < 14) (hq1 : c1.toInt = (j1 : Int) ∧ j1 < 14) (hq2 : c2.toInt = (j2 : Int) ∧ j2 < 14) (hq3 : c3.toInt = (j3 : Int) ∧ j3 < 14) (hqq : cq.toInt = (jq : Int) ∧ jq < 14) (hn0 : 0 < k → nm 0 = en j0) (hn1 : 1 < k → nm 1 = en j1) (hn2 : 2 < k → nm 2 = en j2) (hn3 : 3 < k → nm 3 = en j3) (hk : (k : Int) = cnt.toInt), Ends p e below s 16 256 (Q0 Z p1 p2 p3 p4 en h0 n0) (TB.setTop (mkF m 149 #[.val (.int p1), .val (.int p2), .val (.int p3), .val (.int p4), .val (.int cnt), .val (.int c0), .val (.int c1), .val (.int c2), .val (.int c3), .val (.int cq), .val (.ref o), .unset] [])) := by
    intro TB hB lB cnt c0 c1 c2 c3 cq j0 j1 j2 j3 jq o dA cA tA fl gp g k nm XB eB NB ZB NE FB OB hfl hnam hc hq0 hq1 hq2 hq3 hqq hn0 hn1 hn2 hn3 hk
    refine own_iconst (n := 150) XB hx (-1 : Int32) (hb hby at_149) (by decide) rfl ?_
    refine own_istore (n := 152) XB hx (hb hby at_150) (l' := #[.val (.int p1), .val (.int p2), .val (.int p3), .val (.int p4), .val (.int cnt), .val (.int c0), .val (.int c1), .val (.int c2), .val (.int c3), .val (.int cq), .val (.ref o), .val (.int (-1 : Int32))]) rfl rfl ?_
    show Ends p e below s 16 256 (Q0 Z p1 p2 p3 p4 en h0 n0) (TB.setTop (mkF m 152 #[.val (.int p1), .val (.int p2), .val (.int p3), .val (.int p4), .val (.int cnt), .val (.int c0), .val (.int c1), .val (.int c2), .val (.int c3), .val (.int cq), .val (.ref o), .val (.int (-1 : Int32))] []))
    exact blk152 _ _ _ cnt c0 c1 c2 c3 cq j0 j1 j2 j3 jq o dA cA tA fl gp g k nm (-1 : Int32) XB eB NB ZB NE FB OB hfl hnam hc hq0 hq1 hq2 hq3 hqq hn0 hn1 hn2 hn3 hk (Or.inr ⟨rfl, fun j h1 h2 => by omega⟩)
  have blk129 : ∀ (TB : State) (hB : Heap) (lB : List Loc) (cnt : Int32) (c0 : Int32) (c1 : Int32) (c2 : Int32) (c3 : Int32) (cq : Int32) (j0 : Nat) (j1 : Nat) (j2 : Nat) (j3 : Nat) (jq : Nat) (o : Addr) (dA : Addr) (cA : Addr) (tA : Value) (fl : Int32) (gp : Nat → Int32) (g : Nat → Value) (k : Nat) (nm : Nat → Addr) (XB : Stand p l e room_1 s m #[(.int p1), (.int p2), (.int p3), (.int p4)] below meth c TB lB (0 + 1 + 3) (0 + 25 + 48)) (eB : TB.heap = hB) (NB : Fr n0 lB) (ZB : n0 ≤ hB.size) (NE : NE3 n0 o dA cA) (FB : HA Z hB o dA cA tA fl gp g) (OB : Old Z n0 hB) (hfl : fl.toInt = (k : Int)) (hnam : ∀ j, j < k → g j = .ref (nm j)) (hc : 0 ≤ cnt.toInt ∧ cnt.toInt ≤ 4) (hq0 : c0.toInt = (j0 : Int) ∧ j0 < 14) (hq1 : c1.toInt = (j1 : Int) ∧ j1 < 14) (hq2 : c2.toInt = (j2 : Int) ∧ j2 < 14) (hq3 : c3.toInt = (j3 : Int) ∧ j3 < 14) (hqq : cq.toInt = (jq : Int) ∧ jq < 14) (hn0 : 0 < k → nm 0 = en j0) (hn1 : 1 < k → nm 1 = en j1) (hn2 : 2 < k → nm 2 = en j2) (hk : (cnt.toInt < 3 → (k : Int) = cnt.toInt) ∧ (3 ≤ cnt.toInt → k = 3)), Ends p e below s 16 256 (Q0 Z p1 p2 p3 p4 en h0 n0) (TB.setTop (mkF m 129 #[.val (.int p1), .val (.int p2), .val (.int p3), .val (.int p4), .val (.int cnt), .val (.int c0), .val (.int c1), .val (.int c2), .val (.int c3), .val (.int cq), .val (.ref o), .unset] [])) := by
    intro TB hB lB cnt c0 c1 c2 c3 cq j0 j1 j2 j3 jq o dA cA tA fl gp g k nm XB eB NB ZB NE FB OB hfl hnam hc hq0 hq1 hq2 hq3 hqq hn0 hn1 hn2 hk
    refine own_iload (n := 131) XB hx (hb hby at_129) rfl rfl ?_
    refine own_iconst (n := 132) XB hx (3 : Int32) (hb hby at_131) rfl rfl ?_
    by_cases c132 : (3 : Int32) < cnt
    · refine own_icmpNo (n := 135) XB hx (hb hby at_132) (Jvm.Free.XT.ii_le_f c132) rfl ?_
      rw [Int32.lt_iff_toInt_lt] at c132
      refine own_aload (n := 137) XB hx (hb hby at_135) rfl rfl rfl ?_
      refine own_iload (n := 139) XB hx (hb hby at_137) rfl rfl ?_
      refine own_callS (n := 142) XB hx hZ hown (hw _ (List.mem_of_getElem? (i := 19) rfl)) (hw _ (List.mem_of_getElem? (i := 20) rfl)) (hw _ (List.mem_of_getElem? (i := 21) rfl)) (hw _ (List.mem_of_getElem? (i := 22) rfl)) (by decide) eB (rm3 l Z a0 hw [] c3 en hB n0 ZB (S0.ext OB.2) (S1.ext OB.2) (S2.ext OB.2) (S3.ext OB.2) (S4.ext OB.2) (S5.ext OB.2) (S6.ext OB.2) (S7.ext OB.2) (S8.ext OB.2) (S9.ext OB.2) (S10.ext OB.2) (S11.ext OB.2) (S12.ext OB.2) (S13.ext OB.2)) (W := 1) (by decide) (by decide) (by decide) (by decide) (by rw [hml]; rfl) (argsL := [(.int c3)]) (rest := [(.ref o)]) pd_3 rfl (by rfl) (Nat.le_of_eq rfl) (hb hby at_139) rfl rfl ?_
      intro v3 T3 h3 L3 X3 e3 q3
      obtain ⟨i3, hi3, rfl, hj3, M3, rfl⟩ := q3
      have N3 := Fr.app NB M3
      obtain rfl : i3 = j3 := by have := hj3 (by omega) (by omega); omega
      refine own_iloadN (n := 143) X3 hx (hb hby at_142) rfl rfl ?_
      refine own_iloadN (n := 144) X3 hx (hb hby at_143) rfl rfl ?_
      refine own_iloadN (n := 145) X3 hx (hb hby at_144) rfl rfl ?_
      refine own_iloadN (n := 146) X3 hx (hb hby at_145) rfl rfl ?_
      refine own_callV (n := 149) X3 hx hZ hown (hw _ (List.mem_of_getElem? (i := 26) rfl)) (hw _ (List.mem_of_getElem? (i := 27) rfl)) (hw _ (List.mem_of_getElem? (i := 29) rfl)) (hw _ (List.mem_of_getElem? (i := 28) rfl)) (hw _ (List.mem_of_getElem? (i := 3) rfl)) (hw _ (List.mem_of_getElem? (i := 30) rfl)) (by decide) e3 FB.1.1 (rm4 l Z a0 hw [] o (en i3) p4 p4 p4 p4 dA cA tA fl gp g k nm hB n0 ZB FB NE hfl (by omega) hnam ((EX _ (by omega)).ext OB.2) ⟨(Old.ne OB (EX _ (by omega)).lt NE.1), (Old.ne OB (EX _ (by omega)).lt NE.2.1), (Old.ne OB (EX _ (by omega)).lt NE.2.2.1)⟩) (W := 0) (by decide) (by decide) (by decide) (by decide) (by rw [hml]; rfl) (argsL := [(.ref (en i3)), (.int p4), (.int p4), (.int p4), (.int p4)]) (rest := []) pd_4 rfl (by rfl) (Nat.le_of_eq rfl) (hb hby at_146) rfl rfl ?_
      intro v4 T4 h4 L4 X4 e4 q4
      obtain ⟨gp4, g4, rfl, M4, K4, F4, hg4⟩ := q4
      have N4 := Fr.app N3 M4
      have Z4 : n0 ≤ h4.size := Nat.le_trans ZB K4.1
      have OL4 := OB.keep K4 (allS NE.1 (allS NE.2.1 (allS NE.2.2.1 all0)))
      show Ends p e below s 16 256 (Q0 Z p1 p2 p3 p4 en h0 n0) (T4.setTop (mkF m 149 #[.val (.int p1), .val (.int p2), .val (.int p3), .val (.int p4), .val (.int cnt), .val (.int c0), .val (.int c1), .val (.int c2), .val (.int c3), .val (.int cq), .val (.ref o), .unset] []))
      exact blk149 _ _ _ cnt c0 c1 c2 c3 cq j0 j1 j2 i3 jq o dA cA tA (fl + 1) gp4 g4 (k + 1) (fun j => if j = k then en i3 else nm j) X4 e4 N4 Z4 NE F4 OL4 (own_add1 hfl (by omega)) hg4 hc hq0 hq1 hq2 hq3 hqq (fun z => by rw [if_neg (by omega)]; exact hn0 (by omega)) (fun z => by rw [if_neg (by omega)]; exact hn1 (by omega)) (fun z => by rw [if_neg (by omega)]; exact hn2 (by omega)) (fun z => by rw [if_pos (by omega)]) (by omega)
    · refine own_icmpYes (n := 149) XB hx (hb hby at_132) (Jvm.Free.XT.ii_le_t c132) (by decide) (by decide) ?_
      show Ends p e below s 16 256 (Q0 Z p1 p2 p3 p4 en h0 n0) (TB.setTop (mkF m 149 #[.val (.int p1), .val (.int p2), .val (.int p3), .val (.int p4), .val (.int cnt), .val (.int c0), .val (.int c1), .val (.int c2), .val (.int c3), .val (.int cq), .val (.ref o), .unset] []))
      rw [Int32.lt_iff_toInt_lt] at c132
      exact blk149 _ _ _ cnt c0 c1 c2 c3 cq j0 j1 j2 j3 jq o dA cA tA fl gp g k nm XB eB NB ZB NE FB OB hfl hnam hc hq0 hq1 hq2 hq3 hqq hn0 hn1 hn2 (fun z => by omega) (by omega)
  have blk109 : ∀ (TB : State) (hB : Heap) (lB : List Loc) (cnt : Int32) (c0 : Int32) (c1 : Int32) (c2 : Int32) (c3 : Int32) (cq : Int32) (j0 : Nat) (j1 : Nat) (j2 : Nat) (j3 : Nat) (jq : Nat) (o : Addr) (dA : Addr) (cA : Addr) (tA : Value) (fl : Int32) (gp : Nat → Int32) (g : Nat → Value) (k : Nat) (nm : Nat → Addr) (XB : Stand p l e room_1 s m #[(.int p1), (.int p2), (.int p3), (.int p4)] below meth c TB lB (0 + 1 + 3) (0 + 25 + 48)) (eB : TB.heap = hB) (NB : Fr n0 lB) (ZB : n0 ≤ hB.size) (NE : NE3 n0 o dA cA) (FB : HA Z hB o dA cA tA fl gp g) (OB : Old Z n0 hB) (hfl : fl.toInt = (k : Int)) (hnam : ∀ j, j < k → g j = .ref (nm j)) (hc : 0 ≤ cnt.toInt ∧ cnt.toInt ≤ 4) (hq0 : c0.toInt = (j0 : Int) ∧ j0 < 14) (hq1 : c1.toInt = (j1 : Int) ∧ j1 < 14) (hq2 : c2.toInt = (j2 : Int) ∧ j2 < 14) (hq3 : c3.toInt = (j3 : Int) ∧ j3 < 14) (hqq : cq.toInt = (jq : Int) ∧ jq < 14) (hn0 : 0 < k → nm 0 = en j0) (hn1 : 1 < k → nm 1 = en j1) (hk : (cnt.toInt < 2 → (k : Int) = cnt.toInt) ∧ (2 ≤ cnt.toInt → k = 2)), Ends p e below s 16 256 (Q0 Z p1 p2 p3 p4 en h0 n0) (TB.setTop (mkF m 109 #[.val (.int p1), .val (.int p2), .val (.int p3), .val (.int p4), .val (.int cnt), .val (.int c0), .val (.int c1), .val (.int c2), .val (.int c3), .val (.int cq), .val (.ref o), .unset] [])) := by
    intro TB hB lB cnt c0 c1 c2 c3 cq j0 j1 j2 j3 jq o dA cA tA fl gp g k nm XB eB NB ZB NE FB OB hfl hnam hc hq0 hq1 hq2 hq3 hqq hn0 hn1 hk
    refine own_iload (n := 111) XB hx (hb hby at_109) rfl rfl ?_
    refine own_iconst (n := 112) XB hx (2 : Int32) (hb hby at_111) rfl rfl ?_
    by_cases c112 : (2 : Int32) < cnt
    · refine own_icmpNo (n := 115) XB hx (hb hby at_112) (Jvm.Free.XT.ii_le_f c112) rfl ?_
      rw [Int32.lt_iff_toInt_lt] at c112
      refine own_aload (n := 117) XB hx (hb hby at_115) rfl rfl rfl ?_
      refine own_iload (n := 119) XB hx (hb hby at_117) rfl rfl ?_
      refine own_callS (n := 122) XB hx hZ hown (hw _ (List.mem_of_getElem? (i := 19) rfl)) (hw _ (List.mem_of_getElem? (i := 20) rfl)) (hw _ (List.mem_of_getElem? (i := 21) rfl)) (hw _ (List.mem_of_getElem? (i := 22) rfl)) (by decide) eB (rm3 l Z a0 hw [] c2 en hB n0 ZB (S0.ext OB.2) (S1.ext OB.2) (S2.ext OB.2) (S3.ext OB.2) (S4.ext OB.2) (S5.ext OB.2) (S6.ext OB.2) (S7.ext OB.2) (S8.ext OB.2) (S9.ext OB.2) (S10.ext OB.2) (S11.ext OB.2) (S12.ext OB.2) (S13.ext OB.2)) (W := 1) (by decide) (by decide) (by decide) (by decide) (by rw [hml]; rfl) (argsL := [(.int c2)]) (rest := [(.ref o)]) pd_3 rfl (by rfl) (Nat.le_of_eq rfl) (hb hby at_119) rfl rfl ?_
      intro v5 T5 h5 L5 X5 e5 q5
      obtain ⟨i5, hi5, rfl, hj5, M5, rfl⟩ := q5
      have N5 := Fr.app NB M5
      obtain rfl : i5 = j2 := by have := hj5 (by omega) (by omega); omega
      refine own_iloadN (n := 123) X5 hx (hb hby at_122) rfl rfl ?_
      refine own_iloadN (n := 124) X5 hx (hb hby at_123) rfl rfl ?_
      refine own_iloadN (n := 125) X5 hx (hb hby at_124) rfl rfl ?_
      refine own_iloadN (n := 126) X5 hx (hb hby at_125) rfl rfl ?_
      refine own_callV (n := 129) X5 hx hZ hown (hw _ (List.mem_of_getElem? (i := 26) rfl)) (hw _ (List.mem_of_getElem? (i := 27) rfl)) (hw _ (List.mem_of_getElem? (i := 29) rfl)) (hw _ (List.mem_of_getElem? (i := 28) rfl)) (hw _ (List.mem_of_getElem? (i := 3) rfl)) (hw _ (List.mem_of_getElem? (i := 30) rfl)) (by decide) e5 FB.1.1 (rm4 l Z a0 hw [] o (en i5) p4 p4 p4 p4 dA cA tA fl gp g k nm hB n0 ZB FB NE hfl (by omega) hnam ((EX _ (by omega)).ext OB.2) ⟨(Old.ne OB (EX _ (by omega)).lt NE.1), (Old.ne OB (EX _ (by omega)).lt NE.2.1), (Old.ne OB (EX _ (by omega)).lt NE.2.2.1)⟩) (W := 0) (by decide) (by decide) (by decide) (by decide) (by rw [hml]; rfl) (argsL := [(.ref (en i5)), (.int p4), (.int p4), (.int p4), (.int p4)]) (rest := []) pd_4 rfl (by rfl) (Nat.le_of_eq rfl) (hb hby at_126) rfl rfl ?_
      intro v6 T6 h6 L6 X6 e6 q6
      obtain ⟨gp6, g6, rfl, M6, K6, F6, hg6⟩ := q6
      have N6 := Fr.app N5 M6
      have Z6 : n0 ≤ h6.size := Nat.le_trans ZB K6.1
      have OL6 := OB.keep K6 (allS NE.1 (allS NE.2.1 (allS NE.2.2.1 all0)))
      show Ends p e below s 16 256 (Q0 Z p1 p2 p3 p4 en h0 n0) (T6.setTop (mkF m 129 #[.val (.int p1), .val (.int p2), .val (.int p3), .val (.int p4), .val (.int cnt), .val (.int c0), .val (.int c1), .val (.int c2), .val (.int c3), .val (.int cq), .val (.ref o), .unset] []))
      exact blk129 _ _ _ cnt c0 c1 c2 c3 cq j0 j1 i5 j3 jq o dA cA tA (fl + 1) gp6 g6 (k + 1) (fun j => if j = k then en i5 else nm j) X6 e6 N6 Z6 NE F6 OL6 (own_add1 hfl (by omega)) hg6 hc hq0 hq1 hq2 hq3 hqq (fun z => by rw [if_neg (by omega)]; exact hn0 (by omega)) (fun z => by rw [if_neg (by omega)]; exact hn1 (by omega)) (fun z => by rw [if_pos (by omega)]) (by omega)
    · refine own_icmpYes (n := 129) XB hx (hb hby at_112) (Jvm.Free.XT.ii_le_t c112) (by decide) (by decide) ?_
      show Ends p e below s 16 256 (Q0 Z p1 p2 p3 p4 en h0 n0) (TB.setTop (mkF m 129 #[.val (.int p1), .val (.int p2), .val (.int p3), .val (.int p4), .val (.int cnt), .val (.int c0), .val (.int c1), .val (.int c2), .val (.int c3), .val (.int cq), .val (.ref o), .unset] []))
      rw [Int32.lt_iff_toInt_lt] at c112
      exact blk129 _ _ _ cnt c0 c1 c2 c3 cq j0 j1 j2 j3 jq o dA cA tA fl gp g k nm XB eB NB ZB NE FB OB hfl hnam hc hq0 hq1 hq2 hq3 hqq hn0 hn1 (fun z => by omega) (by omega)
  have blk89 : ∀ (TB : State) (hB : Heap) (lB : List Loc) (cnt : Int32) (c0 : Int32) (c1 : Int32) (c2 : Int32) (c3 : Int32) (cq : Int32) (j0 : Nat) (j1 : Nat) (j2 : Nat) (j3 : Nat) (jq : Nat) (o : Addr) (dA : Addr) (cA : Addr) (tA : Value) (fl : Int32) (gp : Nat → Int32) (g : Nat → Value) (k : Nat) (nm : Nat → Addr) (XB : Stand p l e room_1 s m #[(.int p1), (.int p2), (.int p3), (.int p4)] below meth c TB lB (0 + 1 + 3) (0 + 25 + 48)) (eB : TB.heap = hB) (NB : Fr n0 lB) (ZB : n0 ≤ hB.size) (NE : NE3 n0 o dA cA) (FB : HA Z hB o dA cA tA fl gp g) (OB : Old Z n0 hB) (hfl : fl.toInt = (k : Int)) (hnam : ∀ j, j < k → g j = .ref (nm j)) (hc : 0 ≤ cnt.toInt ∧ cnt.toInt ≤ 4) (hq0 : c0.toInt = (j0 : Int) ∧ j0 < 14) (hq1 : c1.toInt = (j1 : Int) ∧ j1 < 14) (hq2 : c2.toInt = (j2 : Int) ∧ j2 < 14) (hq3 : c3.toInt = (j3 : Int) ∧ j3 < 14) (hqq : cq.toInt = (jq : Int) ∧ jq < 14) (hn0 : 0 < k → nm 0 = en j0) (hk : (cnt.toInt < 1 → (k : Int) = cnt.toInt) ∧ (1 ≤ cnt.toInt → k = 1)), Ends p e below s 16 256 (Q0 Z p1 p2 p3 p4 en h0 n0) (TB.setTop (mkF m 89 #[.val (.int p1), .val (.int p2), .val (.int p3), .val (.int p4), .val (.int cnt), .val (.int c0), .val (.int c1), .val (.int c2), .val (.int c3), .val (.int cq), .val (.ref o), .unset] [])) := by
    intro TB hB lB cnt c0 c1 c2 c3 cq j0 j1 j2 j3 jq o dA cA tA fl gp g k nm XB eB NB ZB NE FB OB hfl hnam hc hq0 hq1 hq2 hq3 hqq hn0 hk
    refine own_iload (n := 91) XB hx (hb hby at_89) rfl rfl ?_
    refine own_iconst (n := 92) XB hx (1 : Int32) (hb hby at_91) rfl rfl ?_
    by_cases c92 : (1 : Int32) < cnt
    · refine own_icmpNo (n := 95) XB hx (hb hby at_92) (Jvm.Free.XT.ii_le_f c92) rfl ?_
      rw [Int32.lt_iff_toInt_lt] at c92
      refine own_aload (n := 97) XB hx (hb hby at_95) rfl rfl rfl ?_
      refine own_iload (n := 99) XB hx (hb hby at_97) rfl rfl ?_
      refine own_callS (n := 102) XB hx hZ hown (hw _ (List.mem_of_getElem? (i := 19) rfl)) (hw _ (List.mem_of_getElem? (i := 20) rfl)) (hw _ (List.mem_of_getElem? (i := 21) rfl)) (hw _ (List.mem_of_getElem? (i := 22) rfl)) (by decide) eB (rm3 l Z a0 hw [] c1 en hB n0 ZB (S0.ext OB.2) (S1.ext OB.2) (S2.ext OB.2) (S3.ext OB.2) (S4.ext OB.2) (S5.ext OB.2) (S6.ext OB.2) (S7.ext OB.2) (S8.ext OB.2) (S9.ext OB.2) (S10.ext OB.2) (S11.ext OB.2) (S12.ext OB.2) (S13.ext OB.2)) (W := 1) (by decide) (by decide) (by decide) (by decide) (by rw [hml]; rfl) (argsL := [(.int c1)]) (rest := [(.ref o)]) pd_3 rfl (by rfl) (Nat.le_of_eq rfl) (hb hby at_99) rfl rfl ?_
      intro v7 T7 h7 L7 X7 e7 q7
      obtain ⟨i7, hi7, rfl, hj7, M7, rfl⟩ := q7
      have N7 := Fr.app NB M7
      obtain rfl : i7 = j1 := by have := hj7 (by omega) (by omega); omega
      refine own_iloadN (n := 103) X7 hx (hb hby at_102) rfl rfl ?_
      refine own_iloadN (n := 104) X7 hx (hb hby at_103) rfl rfl ?_
      refine own_iloadN (n := 105) X7 hx (hb hby at_104) rfl rfl ?_
      refine own_iloadN (n := 106) X7 hx (hb hby at_105) rfl rfl ?_
      refine own_callV (n := 109) X7 hx hZ hown (hw _ (List.mem_of_getElem? (i := 26) rfl)) (hw _ (List.mem_of_getElem? (i := 27) rfl)) (hw _ (List.mem_of_getElem? (i := 29) rfl)) (hw _ (List.mem_of_getElem? (i := 28) rfl)) (hw _ (List.mem_of_getElem? (i := 3) rfl)) (hw _ (List.mem_of_getElem? (i := 30) rfl)) (by decide) e7 FB.1.1 (rm4 l Z a0 hw [] o (en i7) p4 p4 p4 p4 dA cA tA fl gp g k nm hB n0 ZB FB NE hfl (by omega) hnam ((EX _ (by omega)).ext OB.2) ⟨(Old.ne OB (EX _ (by omega)).lt NE.1), (Old.ne OB (EX _ (by omega)).lt NE.2.1), (Old.ne OB (EX _ (by omega)).lt NE.2.2.1)⟩) (W := 0) (by decide) (by decide) (by decide) (by decide) (by rw [hml]; rfl) (argsL := [(.ref (en i7)), (.int p4), (.int p4), (.int p4), (.int p4)]) (rest := []) pd_4 rfl (by rfl) (Nat.le_of_eq rfl) (hb hby at_106) rfl rfl ?_
      intro v8 T8 h8 L8 X8 e8 q8
      obtain ⟨gp8, g8, rfl, M8, K8, F8, hg8⟩ := q8
      have N8 := Fr.app N7 M8
      have Z8 : n0 ≤ h8.size := Nat.le_trans ZB K8.1
      have OL8 := OB.keep K8 (allS NE.1 (allS NE.2.1 (allS NE.2.2.1 all0)))
      show Ends p e below s 16 256 (Q0 Z p1 p2 p3 p4 en h0 n0) (T8.setTop (mkF m 109 #[.val (.int p1), .val (.int p2), .val (.int p3), .val (.int p4), .val (.int cnt), .val (.int c0), .val (.int c1), .val (.int c2), .val (.int c3), .val (.int cq), .val (.ref o), .unset] []))
      exact blk109 _ _ _ cnt c0 c1 c2 c3 cq j0 i7 j2 j3 jq o dA cA tA (fl + 1) gp8 g8 (k + 1) (fun j => if j = k then en i7 else nm j) X8 e8 N8 Z8 NE F8 OL8 (own_add1 hfl (by omega)) hg8 hc hq0 hq1 hq2 hq3 hqq (fun z => by rw [if_neg (by omega)]; exact hn0 (by omega)) (fun z => by rw [if_pos (by omega)]) (by omega)
    · refine own_icmpYes (n := 109) XB hx (hb hby at_92) (Jvm.Free.XT.ii_le_t c92) (by decide) (by decide) ?_
      show Ends p e below s 16 256 (Q0 Z p1 p2 p3 p4 en h0 n0) (TB.setTop (mkF m 109 #[.val (.int p1), .val (.int p2), .val (.int p3), .val (.int p4), .val (.int cnt), .val (.int c0), .val (.int c1), .val (.int c2), .val (.int c3), .val (.int cq), .val (.ref o), .unset] []))
      rw [Int32.lt_iff_toInt_lt] at c92
      exact blk109 _ _ _ cnt c0 c1 c2 c3 cq j0 j1 j2 j3 jq o dA cA tA fl gp g k nm XB eB NB ZB NE FB OB hfl hnam hc hq0 hq1 hq2 hq3 hqq hn0 (fun z => by omega) (by omega)
  have blk70 : ∀ (TB : State) (hB : Heap) (lB : List Loc) (cnt : Int32) (c0 : Int32) (c1 : Int32) (c2 : Int32) (c3 : Int32) (cq : Int32) (j0 : Nat) (j1 : Nat) (j2 : Nat) (j3 : Nat) (jq : Nat) (o : Addr) (dA : Addr) (cA : Addr) (tA : Value) (fl : Int32) (gp : Nat → Int32) (g : Nat → Value) (k : Nat) (nm : Nat → Addr) (XB : Stand p l e room_1 s m #[(.int p1), (.int p2), (.int p3), (.int p4)] below meth c TB lB (0 + 1 + 3) (0 + 25 + 48)) (eB : TB.heap = hB) (NB : Fr n0 lB) (ZB : n0 ≤ hB.size) (NE : NE3 n0 o dA cA) (FB : HA Z hB o dA cA tA fl gp g) (OB : Old Z n0 hB) (hfl : fl.toInt = (k : Int)) (hnam : ∀ j, j < k → g j = .ref (nm j)) (hc : 0 ≤ cnt.toInt ∧ cnt.toInt ≤ 4) (hq0 : c0.toInt = (j0 : Int) ∧ j0 < 14) (hq1 : c1.toInt = (j1 : Int) ∧ j1 < 14) (hq2 : c2.toInt = (j2 : Int) ∧ j2 < 14) (hq3 : c3.toInt = (j3 : Int) ∧ j3 < 14) (hqq : cq.toInt = (jq : Int) ∧ jq < 14) (hk : k = 0), Ends p e below s 16 256 (Q0 Z p1 p2 p3 p4 en h0 n0) (TB.setTop (mkF m 70 #[.val (.int p1), .val (.int p2), .val (.int p3), .val (.int p4), .val (.int cnt), .val (.int c0), .val (.int c1), .val (.int c2), .val (.int c3), .val (.int cq), .val (.ref o), .unset] [])) := by
    intro TB hB lB cnt c0 c1 c2 c3 cq j0 j1 j2 j3 jq o dA cA tA fl gp g k nm XB eB NB ZB NE FB OB hfl hnam hc hq0 hq1 hq2 hq3 hqq hk
    refine own_iload (n := 72) XB hx (hb hby at_70) rfl rfl ?_
    by_cases c72 : 0 < cnt
    · refine own_ifNo (n := 75) XB hx (hb hby at_72) (Jvm.Free.XT.i0_le_f c72) rfl ?_
      rw [Int32.lt_iff_toInt_lt] at c72
      refine own_aload (n := 77) XB hx (hb hby at_75) rfl rfl rfl ?_
      refine own_iload (n := 79) XB hx (hb hby at_77) rfl rfl ?_
      refine own_callS (n := 82) XB hx hZ hown (hw _ (List.mem_of_getElem? (i := 19) rfl)) (hw _ (List.mem_of_getElem? (i := 20) rfl)) (hw _ (List.mem_of_getElem? (i := 21) rfl)) (hw _ (List.mem_of_getElem? (i := 22) rfl)) (by decide) eB (rm3 l Z a0 hw [] c0 en hB n0 ZB (S0.ext OB.2) (S1.ext OB.2) (S2.ext OB.2) (S3.ext OB.2) (S4.ext OB.2) (S5.ext OB.2) (S6.ext OB.2) (S7.ext OB.2) (S8.ext OB.2) (S9.ext OB.2) (S10.ext OB.2) (S11.ext OB.2) (S12.ext OB.2) (S13.ext OB.2)) (W := 1) (by decide) (by decide) (by decide) (by decide) (by rw [hml]; rfl) (argsL := [(.int c0)]) (rest := [(.ref o)]) pd_3 rfl (by rfl) (Nat.le_of_eq rfl) (hb hby at_79) rfl rfl ?_
      intro v9 T9 h9 L9 X9 e9 q9
      obtain ⟨i9, hi9, rfl, hj9, M9, rfl⟩ := q9
      have N9 := Fr.app NB M9
      obtain rfl : i9 = j0 := by have := hj9 (by omega) (by omega); omega
      refine own_iloadN (n := 83) X9 hx (hb hby at_82) rfl rfl ?_
      refine own_iloadN (n := 84) X9 hx (hb hby at_83) rfl rfl ?_
      refine own_iloadN (n := 85) X9 hx (hb hby at_84) rfl rfl ?_
      refine own_iloadN (n := 86) X9 hx (hb hby at_85) rfl rfl ?_
      refine own_callV (n := 89) X9 hx hZ hown (hw _ (List.mem_of_getElem? (i := 26) rfl)) (hw _ (List.mem_of_getElem? (i := 27) rfl)) (hw _ (List.mem_of_getElem? (i := 29) rfl)) (hw _ (List.mem_of_getElem? (i := 28) rfl)) (hw _ (List.mem_of_getElem? (i := 3) rfl)) (hw _ (List.mem_of_getElem? (i := 30) rfl)) (by decide) e9 FB.1.1 (rm4 l Z a0 hw [] o (en i9) p4 p4 p4 p4 dA cA tA fl gp g k nm hB n0 ZB FB NE hfl (by omega) hnam ((EX _ (by omega)).ext OB.2) ⟨(Old.ne OB (EX _ (by omega)).lt NE.1), (Old.ne OB (EX _ (by omega)).lt NE.2.1), (Old.ne OB (EX _ (by omega)).lt NE.2.2.1)⟩) (W := 0) (by decide) (by decide) (by decide) (by decide) (by rw [hml]; rfl) (argsL := [(.ref (en i9)), (.int p4), (.int p4), (.int p4), (.int p4)]) (rest := []) pd_4 rfl (by rfl) (Nat.le_of_eq rfl) (hb hby at_86) rfl rfl ?_
      intro v10 T10 h10 L10 X10 e10 q10
      obtain ⟨gp10, g10, rfl, M10, K10, F10, hg10⟩ := q10
      have N10 := Fr.app N9 M10
      have Z10 : n0 ≤ h10.size := Nat.le_trans ZB K10.1
      have OL10 := OB.keep K10 (allS NE.1 (allS NE.2.1 (allS NE.2.2.1 all0)))
      show Ends p e below s 16 256 (Q0 Z p1 p2 p3 p4 en h0 n0) (T10.setTop (mkF m 89 #[.val (.int p1), .val (.int p2), .val (.int p3), .val (.int p4), .val (.int cnt), .val (.int c0), .val (.int c1), .val (.int c2), .val (.int c3), .val (.int cq), .val (.ref o), .unset] []))
      exact blk89 _ _ _ cnt c0 c1 c2 c3 cq i9 j1 j2 j3 jq o dA cA tA (fl + 1) gp10 g10 (k + 1) (fun j => if j = k then en i9 else nm j) X10 e10 N10 Z10 NE F10 OL10 (own_add1 hfl (by omega)) hg10 hc hq0 hq1 hq2 hq3 hqq (fun z => by rw [if_pos (by omega)]) (by omega)
    · refine own_ifYes (n := 89) XB hx (hb hby at_72) (Jvm.Free.XT.i0_le_t c72) (by decide) (by decide) ?_
      show Ends p e below s 16 256 (Q0 Z p1 p2 p3 p4 en h0 n0) (TB.setTop (mkF m 89 #[.val (.int p1), .val (.int p2), .val (.int p3), .val (.int p4), .val (.int cnt), .val (.int c0), .val (.int c1), .val (.int c2), .val (.int c3), .val (.int cq), .val (.ref o), .unset] []))
      rw [Int32.lt_iff_toInt_lt] at c72
      exact blk89 _ _ _ cnt c0 c1 c2 c3 cq j0 j1 j2 j3 jq o dA cA tA fl gp g k nm XB eB NB ZB NE FB OB hfl hnam hc hq0 hq1 hq2 hq3 hqq (fun z => by omega) (by omega)
  refine own_iloadN (n := 1) X0 hx (hb hby at_0) rfl rfl ?_
  refine own_ldc (n := 3) X0 hx hZ hown (hw _ (List.mem_of_getElem? (i := 0) rfl)) (hb hby at_1) rfl ?_
  refine own_iand (n := 4) X0 hx (hb hby at_3) rfl ?_
  refine own_iconst (n := 5) X0 hx (5 : Int32) (hb hby at_4) rfl rfl ?_
  refine own_irem (n := 6) X0 hx (hb hby at_5) (by decide) rfl ?_
  refine own_istore (n := 8) X0 hx (hb hby at_6) (l' := #[.val (.int p1), .val (.int p2), .val (.int p3), .val (.int p4), .val (.int ((p3 &&& (2147483647 : Int32)) % (5 : Int32))), .unset, .unset, .unset, .unset, .unset, .unset, .unset]) rfl rfl ?_
  show Ends p e below s 16 256 (Q0 Z p1 p2 p3 p4 en h0 n0) (s₁.setTop (mkF m 8 #[.val (.int p1), .val (.int p2), .val (.int p3), .val (.int p4), .val (.int ((p3 &&& (2147483647 : Int32)) % (5 : Int32))), .unset, .unset, .unset, .unset, .unset, .unset, .unset] []))
  generalize g_cnt : ((p3 &&& (2147483647 : Int32)) % (5 : Int32)) = cnt
  refine own_iloadN (n := 9) X0 hx (hb hby at_8) rfl rfl ?_
  refine own_bipush (n := 11) X0 hx (15 : Int32) (hb hby at_9) rfl rfl ?_
  refine own_iand (n := 12) X0 hx (hb hby at_11) rfl ?_
  refine own_bipush (n := 14) X0 hx (14 : Int32) (hb hby at_12) rfl rfl ?_
  refine own_irem (n := 15) X0 hx (hb hby at_14) (by decide) rfl ?_
  refine own_istore (n := 17) X0 hx (hb hby at_15) (l' := #[.val (.int p1), .val (.int p2), .val (.int p3), .val (.int p4), .val (.int cnt), .val (.int ((p1 &&& (15 : Int32)) % (14 : Int32))), .unset, .unset, .unset, .unset, .unset, .unset]) rfl rfl ?_
  show Ends p e below s 16 256 (Q0 Z p1 p2 p3 p4 en h0 n0) (s₁.setTop (mkF m 17 #[.val (.int p1), .val (.int p2), .val (.int p3), .val (.int p4), .val (.int cnt), .val (.int ((p1 &&& (15 : Int32)) % (14 : Int32))), .unset, .unset, .unset, .unset, .unset, .unset] []))
  generalize g_c0 : ((p1 &&& (15 : Int32)) % (14 : Int32)) = c0
  refine own_iloadN (n := 18) X0 hx (hb hby at_17) rfl rfl ?_
  refine own_iconst (n := 19) X0 hx (4 : Int32) (hb hby at_18) rfl rfl ?_
  refine own_iushr (n := 20) X0 hx (hb hby at_19) rfl ?_
  refine own_bipush (n := 22) X0 hx (15 : Int32) (hb hby at_20) rfl rfl ?_
  refine own_iand (n := 23) X0 hx (hb hby at_22) rfl ?_
  refine own_bipush (n := 25) X0 hx (14 : Int32) (hb hby at_23) rfl rfl ?_
  refine own_irem (n := 26) X0 hx (hb hby at_25) (by decide) rfl ?_
  refine own_istore (n := 28) X0 hx (hb hby at_26) (l' := #[.val (.int p1), .val (.int p2), .val (.int p3), .val (.int p4), .val (.int cnt), .val (.int c0), .val (.int ((((p1.toUInt32 >>> ((4 : Int32) &&& 31).toUInt32).toInt32) &&& (15 : Int32)) % (14 : Int32))), .unset, .unset, .unset, .unset, .unset]) rfl rfl ?_
  show Ends p e below s 16 256 (Q0 Z p1 p2 p3 p4 en h0 n0) (s₁.setTop (mkF m 28 #[.val (.int p1), .val (.int p2), .val (.int p3), .val (.int p4), .val (.int cnt), .val (.int c0), .val (.int ((((p1.toUInt32 >>> ((4 : Int32) &&& 31).toUInt32).toInt32) &&& (15 : Int32)) % (14 : Int32))), .unset, .unset, .unset, .unset, .unset] []))
  generalize g_c1 : ((((p1.toUInt32 >>> ((4 : Int32) &&& 31).toUInt32).toInt32) &&& (15 : Int32)) % (14 : Int32)) = c1
  refine own_iloadN (n := 29) X0 hx (hb hby at_28) rfl rfl ?_
  refine own_bipush (n := 31) X0 hx (8 : Int32) (hb hby at_29) rfl rfl ?_
  refine own_iushr (n := 32) X0 hx (hb hby at_31) rfl ?_
  refine own_bipush (n := 34) X0 hx (15 : Int32) (hb hby at_32) rfl rfl ?_
  refine own_iand (n := 35) X0 hx (hb hby at_34) rfl ?_
  refine own_bipush (n := 37) X0 hx (14 : Int32) (hb hby at_35) rfl rfl ?_
  refine own_irem (n := 38) X0 hx (hb hby at_37) (by decide) rfl ?_
  refine own_istore (n := 40) X0 hx (hb hby at_38) (l' := #[.val (.int p1), .val (.int p2), .val (.int p3), .val (.int p4), .val (.int cnt), .val (.int c0), .val (.int c1), .val (.int ((((p1.toUInt32 >>> ((8 : Int32) &&& 31).toUInt32).toInt32) &&& (15 : Int32)) % (14 : Int32))), .unset, .unset, .unset, .unset]) rfl rfl ?_
  show Ends p e below s 16 256 (Q0 Z p1 p2 p3 p4 en h0 n0) (s₁.setTop (mkF m 40 #[.val (.int p1), .val (.int p2), .val (.int p3), .val (.int p4), .val (.int cnt), .val (.int c0), .val (.int c1), .val (.int ((((p1.toUInt32 >>> ((8 : Int32) &&& 31).toUInt32).toInt32) &&& (15 : Int32)) % (14 : Int32))), .unset, .unset, .unset, .unset] []))
  generalize g_c2 : ((((p1.toUInt32 >>> ((8 : Int32) &&& 31).toUInt32).toInt32) &&& (15 : Int32)) % (14 : Int32)) = c2
  refine own_iloadN (n := 41) X0 hx (hb hby at_40) rfl rfl ?_
  refine own_bipush (n := 43) X0 hx (12 : Int32) (hb hby at_41) rfl rfl ?_
  refine own_iushr (n := 44) X0 hx (hb hby at_43) rfl ?_
  refine own_bipush (n := 46) X0 hx (15 : Int32) (hb hby at_44) rfl rfl ?_
  refine own_iand (n := 47) X0 hx (hb hby at_46) rfl ?_
  refine own_bipush (n := 49) X0 hx (14 : Int32) (hb hby at_47) rfl rfl ?_
  refine own_irem (n := 50) X0 hx (hb hby at_49) (by decide) rfl ?_
  refine own_istore (n := 52) X0 hx (hb hby at_50) (l' := #[.val (.int p1), .val (.int p2), .val (.int p3), .val (.int p4), .val (.int cnt), .val (.int c0), .val (.int c1), .val (.int c2), .val (.int ((((p1.toUInt32 >>> ((12 : Int32) &&& 31).toUInt32).toInt32) &&& (15 : Int32)) % (14 : Int32))), .unset, .unset, .unset]) rfl rfl ?_
  show Ends p e below s 16 256 (Q0 Z p1 p2 p3 p4 en h0 n0) (s₁.setTop (mkF m 52 #[.val (.int p1), .val (.int p2), .val (.int p3), .val (.int p4), .val (.int cnt), .val (.int c0), .val (.int c1), .val (.int c2), .val (.int ((((p1.toUInt32 >>> ((12 : Int32) &&& 31).toUInt32).toInt32) &&& (15 : Int32)) % (14 : Int32))), .unset, .unset, .unset] []))
  generalize g_c3 : ((((p1.toUInt32 >>> ((12 : Int32) &&& 31).toUInt32).toInt32) &&& (15 : Int32)) % (14 : Int32)) = c3
  refine own_iloadN (n := 53) X0 hx (hb hby at_52) rfl rfl ?_
  refine own_bipush (n := 55) X0 hx (15 : Int32) (hb hby at_53) rfl rfl ?_
  refine own_iand (n := 56) X0 hx (hb hby at_55) rfl ?_
  refine own_bipush (n := 58) X0 hx (14 : Int32) (hb hby at_56) rfl rfl ?_
  refine own_irem (n := 59) X0 hx (hb hby at_58) (by decide) rfl ?_
  refine own_istore (n := 61) X0 hx (hb hby at_59) (l' := #[.val (.int p1), .val (.int p2), .val (.int p3), .val (.int p4), .val (.int cnt), .val (.int c0), .val (.int c1), .val (.int c2), .val (.int c3), .val (.int ((p2 &&& (15 : Int32)) % (14 : Int32))), .unset, .unset]) rfl rfl ?_
  show Ends p e below s 16 256 (Q0 Z p1 p2 p3 p4 en h0 n0) (s₁.setTop (mkF m 61 #[.val (.int p1), .val (.int p2), .val (.int p3), .val (.int p4), .val (.int cnt), .val (.int c0), .val (.int c1), .val (.int c2), .val (.int c3), .val (.int ((p2 &&& (15 : Int32)) % (14 : Int32))), .unset, .unset] []))
  generalize g_cq : ((p2 &&& (15 : Int32)) % (14 : Int32)) = cq
  refine own_newO (n := 64) X0 hx hZ hown (hw _ (List.mem_of_getElem? (i := 1) rfl)) (hw _ (List.mem_of_getElem? (i := 2) rfl)) (hw _ (List.mem_of_getElem? (i := 3) rfl)) e0 (by decide) (by decide) (hb hby at_61) rfl ?_
  intro T11 h11 b11 X11 e11 g11 E11 A11 D11
  have Z11 : n0 ≤ h11.size := Nat.le_trans Z0 E11.1
  have nb_b11 : n0 ≤ b11 := Nat.le_trans Z0 (Nat.le_of_eq g11.symm)
  have OL11 := OL.ext E11
  have N11_b11 : HD Z h11 b11 (.null) (.null) (.null) (0) := ⟨A11, D11 (Or.inl (hw _ (List.mem_of_getElem? (i := 12) rfl))) (ty := (.array .int)) (by decide), D11 (Or.inl (hw _ (List.mem_of_getElem? (i := 16) rfl))) (ty := (.array (.object "com/example/idun/idun/http1/FieldName"))) (by decide), D11 (Or.inl (hw _ (List.mem_of_getElem? (i := 18) rfl))) (ty := (.array .int)) (by decide), D11 (Or.inl (hw _ (List.mem_of_getElem? (i := 32) rfl))) (ty := .int) (by decide)⟩
  refine own_dup (n := 65) X11 hx (hb hby at_64) rfl rfl ?_
  refine own_callN (n := 68) X11 hx hZ rfl hown (hw _ (List.mem_of_getElem? (i := 4) rfl)) (hw _ (List.mem_of_getElem? (i := 5) rfl)) (hw _ (List.mem_of_getElem? (i := 3) rfl)) (hw _ (List.mem_of_getElem? (i := 6) rfl)) (by decide) e11 (rm1 l Z a0 hw [] b11 h11 n0 Z11 N11_b11 nb_b11) (W := 1) (by decide) (by decide) (by decide) (by decide) (by rw [hml]; rfl) (argsL := []) (rest := [(.ref b11)]) pd_1 rfl (a := b11) (by rfl) (Nat.le_of_eq rfl) (hb hby at_65) rfl rfl ?_
  intro v12 T12 h12 L12 X12 e12 q12
  obtain ⟨d12, c12, t12, rfl, M12, K12, NE12, F12⟩ := q12
  have N12 := Fr.app N0 M12
  have Z12 : n0 ≤ h12.size := Nat.le_trans Z11 K12.1
  have OL12 := OL11.keep K12 (allS nb_b11 all0)
  refine own_astore (n := 70) X12 hx (hb hby at_68) rfl (l' := #[.val (.int p1), .val (.int p2), .val (.int p3), .val (.int p4), .val (.int cnt), .val (.int c0), .val (.int c1), .val (.int c2), .val (.int c3), .val (.int cq), .val (.ref b11), .unset]) rfl rfl ?_
  show Ends p e below s 16 256 (Q0 Z p1 p2 p3 p4 en h0 n0) (T12.setTop (mkF m 70 #[.val (.int p1), .val (.int p2), .val (.int p3), .val (.int p4), .val (.int cnt), .val (.int c0), .val (.int c1), .val (.int c2), .val (.int c3), .val (.int cq), .val (.ref b11), .unset] []))
  obtain ⟨jc, hjc, hjc'⟩ := own_rem (x := p3 &&& 2147483647) (y := 5) (d := 5) (c_and _ _ (by decide)).1 rfl (by decide)
  rw [g_cnt] at hjc
  obtain ⟨j0, hq0⟩ : ∃ j : Nat, c0.toInt = (j : Int) ∧ j < 14 := by rw [← g_c0]; exact own_rem (d := 14) (c_and _ _ (by decide)).1 rfl (by decide)
  obtain ⟨j1, hq1⟩ : ∃ j : Nat, c1.toInt = (j : Int) ∧ j < 14 := by rw [← g_c1]; exact own_rem (d := 14) (c_and _ _ (by decide)).1 rfl (by decide)
  obtain ⟨j2, hq2⟩ : ∃ j : Nat, c2.toInt = (j : Int) ∧ j < 14 := by rw [← g_c2]; exact own_rem (d := 14) (c_and _ _ (by decide)).1 rfl (by decide)
  obtain ⟨j3, hq3⟩ : ∃ j : Nat, c3.toInt = (j : Int) ∧ j < 14 := by rw [← g_c3]; exact own_rem (d := 14) (c_and _ _ (by decide)).1 rfl (by decide)
  obtain ⟨jq, hqq⟩ : ∃ j : Nat, cq.toInt = (j : Int) ∧ j < 14 := by rw [← g_cq]; exact own_rem (d := 14) (c_and _ _ (by decide)).1 rfl (by decide)
  exact blk70 _ _ _ cnt c0 c1 c2 c3 cq j0 j1 j2 j3 jq b11 d12 c12 t12 (0) (fun _ => 0) (fun _ => .null) (0) (fun _ => 0) X12 e12 N12 Z12 NE12 F12 OL12 o0 (fun j hj => absurd hj (by omega)) (by omega) hq0 hq1 hq2 hq3 hqq rfl
theorem comes_1 {Post : Tables → Env → Array Value → State → Outcome → State → Prop} (hpost : ∀ tb e args s v u, (limb_1_1.after args s (.returned v) u = true ∧ limb_1_2.after args s (.returned v) u = true ∧ True) → FrameEnd s (.returned v) u (Jvm.fieldLocs frame_1_writes args s ++ Jvm.arrayLocs frame_1_arrays args s ++ Jvm.staticLocs frame_1_statics s) 16 256 → Post tb e args s (.returned v) u) :
    ArmFor flags0 classFile x code maxLocals ret World_1 tables_1 room_1 Calls_1 rest_1 Pre_1 Post := by
  intro l hfl _ _ p e ha hc hk s m args below hf hA hF happ hP
  obtain ⟨hcalls, hrest, hpre⟩ := hP
  obtain ⟨-, -, -, hnamed, -, -, -, hat⟩ := (Spec.applies_iff hf).mp happ
  obtain ⟨hg, hn⟩ := and_e (Cond.before_iff.mp (show (Jvm.Cond.and given_1 narrow_1).before args s = true from hpre))
  obtain ⟨hcount, hg0⟩ := and_e hg
  obtain ⟨hi0, hg1⟩ := and_e hg0
  obtain ⟨hi1, hg2⟩ := and_e hg1
  obtain ⟨hi2, hg3⟩ := and_e hg2
  obtain ⟨w0, w1, w2, w3, rfl⟩ : ∃ w0 w1 w2 w3 : Value, args = #[w0, w1, w2, w3] := by
    have hs : args.size = 4 := by simpa [Cond.value, given_1] using hcount
    obtain ⟨L⟩ := args
    match L, hs with
    | [w0, w1, w2, w3], _ => exact ⟨w0, w1, w2, w3, rfl⟩
  have hw := fun d (hd : d ∈ tables_1) => atoms_spec (ws := Jvm.Cond.code x code maxLocals ret :: tables_1) hat d (List.mem_cons_of_mem _ hd)
  have hfit : Fit s := fun {y c} hc i hi => by
    obtain ⟨ha, rfl⟩ := Array.getElem?_eq_some_iff.mp hc
    have q := List.all_eq_true.mp ((Array.all_eq_true_iff_forall_mem.mp hF) _ (Array.getElem_mem ha)) i (List.mem_range.mpr hi)
    simpa [Array.getElem?_eq_getElem hi] using q
  obtain ⟨i0, j0⟩ := is_v hi0
  obtain rfl : w0 = (.int i0) := Option.some.inj j0
  obtain ⟨i1, j1⟩ := is_v hi1
  obtain rfl : w1 = (.int i1) := Option.some.inj j1
  obtain ⟨i2, j2⟩ := is_v hi2
  obtain rfl : w2 = (.int i2) := Option.some.inj j2
  obtain ⟨i3, j3⟩ := is_v hg3
  obtain rfl : w3 = (.int i3) := Option.some.inj j3
  obtain ⟨m0, t0⟩ := and_e hn
  obtain ⟨m1, t1⟩ := and_e t0
  obtain ⟨m2, t2⟩ := and_e t1
  obtain ⟨m3, t3⟩ := and_e t2
  obtain ⟨m4, t4⟩ := and_e t3
  obtain ⟨m5, t5⟩ := and_e t4
  obtain ⟨m6, t6⟩ := and_e t5
  obtain ⟨m7, t7⟩ := and_e t6
  obtain ⟨m8, t8⟩ := and_e t7
  obtain ⟨m9, t9⟩ := and_e t8
  obtain ⟨m10, t10⟩ := and_e t9
  obtain ⟨m11, t11⟩ := and_e t10
  obtain ⟨m12, t12⟩ := and_e t11
  obtain ⟨m13, t13⟩ := and_e t12
  obtain ⟨m14, t14⟩ := and_e t13
  obtain ⟨m15, t15⟩ := and_e t14
  obtain ⟨m16, t16⟩ := and_e t15
  obtain ⟨m17, t17⟩ := and_e t16
  obtain ⟨m18, t18⟩ := and_e t17
  obtain ⟨m19, t19⟩ := and_e t18
  obtain ⟨m20, t20⟩ := and_e t19
  obtain ⟨m21, t21⟩ := and_e t20
  obtain ⟨m22, t22⟩ := and_e t21
  obtain ⟨m23, t23⟩ := and_e t22
  obtain ⟨m24, t24⟩ := and_e t23
  obtain ⟨m25, t25⟩ := and_e t24
  obtain ⟨m26, t26⟩ := and_e t25
  have m27 := t26
  obtain ⟨A_CONNECTION, ev_CONNECTION⟩ := exa_v m0
  have S_CONNECTION : Sta s s.heap "com/example/idun/idun/http1/FieldName" "CONNECTION" "Lcom/example/idun/idun/http1/FieldName;" (.ref A_CONNECTION) := Sta.start ev_CONNECTION (Or.inr ⟨(hw _ (List.mem_of_getElem? (i := 24) rfl)), (hw _ (List.mem_of_getElem? (i := 25) rfl))⟩)
  have E_CONNECTION : Exa s s.heap A_CONNECTION "com/example/idun/idun/http1/FieldName" := Exa.start ev_CONNECTION m0
  obtain ⟨A_TE, ev_TE⟩ := exa_v m1
  have S_TE : Sta s s.heap "com/example/idun/idun/http1/FieldName" "TE" "Lcom/example/idun/idun/http1/FieldName;" (.ref A_TE) := Sta.start ev_TE (Or.inr ⟨(hw _ (List.mem_of_getElem? (i := 24) rfl)), (hw _ (List.mem_of_getElem? (i := 35) rfl))⟩)
  have E_TE : Exa s s.heap A_TE "com/example/idun/idun/http1/FieldName" := Exa.start ev_TE m1
  obtain ⟨A_VIA, ev_VIA⟩ := exa_v m4
  have S_VIA : Sta s s.heap "com/example/idun/idun/http1/FieldName" "VIA" "Lcom/example/idun/idun/http1/FieldName;" (.ref A_VIA) := Sta.start ev_VIA (Or.inr ⟨(hw _ (List.mem_of_getElem? (i := 24) rfl)), (hw _ (List.mem_of_getElem? (i := 42) rfl))⟩)
  have E_VIA : Exa s s.heap A_VIA "com/example/idun/idun/http1/FieldName" := Exa.start ev_VIA m4
  obtain ⟨A_KEEP_ALIVE, ev_KEEP_ALIVE⟩ := exa_v m6
  have S_KEEP_ALIVE : Sta s s.heap "com/example/idun/idun/http1/FieldName" "KEEP_ALIVE" "Lcom/example/idun/idun/http1/FieldName;" (.ref A_KEEP_ALIVE) := Sta.start ev_KEEP_ALIVE (Or.inr ⟨(hw _ (List.mem_of_getElem? (i := 24) rfl)), (hw _ (List.mem_of_getElem? (i := 44) rfl))⟩)
  have E_KEEP_ALIVE : Exa s s.heap A_KEEP_ALIVE "com/example/idun/idun/http1/FieldName" := Exa.start ev_KEEP_ALIVE m6
  obtain ⟨A_TRAILER, ev_TRAILER⟩ := exa_v m7
  have S_TRAILER : Sta s s.heap "com/example/idun/idun/http1/FieldName" "TRAILER" "Lcom/example/idun/idun/http1/FieldName;" (.ref A_TRAILER) := Sta.start ev_TRAILER (Or.inr ⟨(hw _ (List.mem_of_getElem? (i := 24) rfl)), (hw _ (List.mem_of_getElem? (i := 46) rfl))⟩)
  have E_TRAILER : Exa s s.heap A_TRAILER "com/example/idun/idun/http1/FieldName" := Exa.start ev_TRAILER m7
  obtain ⟨A_TRANSFER_ENCODING, ev_TRANSFER_ENCODING⟩ := exa_v m8
  have S_TRANSFER_ENCODING : Sta s s.heap "com/example/idun/idun/http1/FieldName" "TRANSFER_ENCODING" "Lcom/example/idun/idun/http1/FieldName;" (.ref A_TRANSFER_ENCODING) := Sta.start ev_TRANSFER_ENCODING (Or.inr ⟨(hw _ (List.mem_of_getElem? (i := 24) rfl)), (hw _ (List.mem_of_getElem? (i := 48) rfl))⟩)
  have E_TRANSFER_ENCODING : Exa s s.heap A_TRANSFER_ENCODING "com/example/idun/idun/http1/FieldName" := Exa.start ev_TRANSFER_ENCODING m8
  obtain ⟨A_X_FORWARDED_HOST, ev_X_FORWARDED_HOST⟩ := exa_v m12
  have S_X_FORWARDED_HOST : Sta s s.heap "com/example/idun/idun/http1/FieldName" "X_FORWARDED_HOST" "Lcom/example/idun/idun/http1/FieldName;" (.ref A_X_FORWARDED_HOST) := Sta.start ev_X_FORWARDED_HOST (Or.inr ⟨(hw _ (List.mem_of_getElem? (i := 24) rfl)), (hw _ (List.mem_of_getElem? (i := 50) rfl))⟩)
  have E_X_FORWARDED_HOST : Exa s s.heap A_X_FORWARDED_HOST "com/example/idun/idun/http1/FieldName" := Exa.start ev_X_FORWARDED_HOST m12
  obtain ⟨A_X_FORWARDED_PROTO, ev_X_FORWARDED_PROTO⟩ := exa_v m13
  have S_X_FORWARDED_PROTO : Sta s s.heap "com/example/idun/idun/http1/FieldName" "X_FORWARDED_PROTO" "Lcom/example/idun/idun/http1/FieldName;" (.ref A_X_FORWARDED_PROTO) := Sta.start ev_X_FORWARDED_PROTO (Or.inr ⟨(hw _ (List.mem_of_getElem? (i := 24) rfl)), (hw _ (List.mem_of_getElem? (i := 52) rfl))⟩)
  have E_X_FORWARDED_PROTO : Exa s s.heap A_X_FORWARDED_PROTO "com/example/idun/idun/http1/FieldName" := Exa.start ev_X_FORWARDED_PROTO m13
  obtain ⟨A_CONTENT_LENGTH, ev_CONTENT_LENGTH⟩ := exa_v m14
  have S_CONTENT_LENGTH : Sta s s.heap "com/example/idun/idun/http1/FieldName" "CONTENT_LENGTH" "Lcom/example/idun/idun/http1/FieldName;" (.ref A_CONTENT_LENGTH) := Sta.start ev_CONTENT_LENGTH (Or.inr ⟨(hw _ (List.mem_of_getElem? (i := 24) rfl)), (hw _ (List.mem_of_getElem? (i := 54) rfl))⟩)
  have E_CONTENT_LENGTH : Exa s s.heap A_CONTENT_LENGTH "com/example/idun/idun/http1/FieldName" := Exa.start ev_CONTENT_LENGTH m14
  obtain ⟨A_HOST, ev_HOST⟩ := exa_v m18
  have S_HOST : Sta s s.heap "com/example/idun/idun/http1/FieldName" "HOST" "Lcom/example/idun/idun/http1/FieldName;" (.ref A_HOST) := Sta.start ev_HOST (Or.inr ⟨(hw _ (List.mem_of_getElem? (i := 24) rfl)), (hw _ (List.mem_of_getElem? (i := 56) rfl))⟩)
  have E_HOST : Exa s s.heap A_HOST "com/example/idun/idun/http1/FieldName" := Exa.start ev_HOST m18
  obtain ⟨A_UPGRADE, ev_UPGRADE⟩ := exa_v m20
  have S_UPGRADE : Sta s s.heap "com/example/idun/idun/http1/FieldName" "UPGRADE" "Lcom/example/idun/idun/http1/FieldName;" (.ref A_UPGRADE) := Sta.start ev_UPGRADE (Or.inr ⟨(hw _ (List.mem_of_getElem? (i := 24) rfl)), (hw _ (List.mem_of_getElem? (i := 58) rfl))⟩)
  have E_UPGRADE : Exa s s.heap A_UPGRADE "com/example/idun/idun/http1/FieldName" := Exa.start ev_UPGRADE m20
  obtain ⟨A_OTHER, ev_OTHER⟩ := exa_v m22
  have S_OTHER : Sta s s.heap "com/example/idun/idun/http1/FieldName" "OTHER" "Lcom/example/idun/idun/http1/FieldName;" (.ref A_OTHER) := Sta.start ev_OTHER (Or.inr ⟨(hw _ (List.mem_of_getElem? (i := 24) rfl)), (hw _ (List.mem_of_getElem? (i := 60) rfl))⟩)
  have E_OTHER : Exa s s.heap A_OTHER "com/example/idun/idun/http1/FieldName" := Exa.start ev_OTHER m22
  obtain ⟨A_PROXY_CONNECTION, ev_PROXY_CONNECTION⟩ := exa_v m24
  have S_PROXY_CONNECTION : Sta s s.heap "com/example/idun/idun/http1/FieldName" "PROXY_CONNECTION" "Lcom/example/idun/idun/http1/FieldName;" (.ref A_PROXY_CONNECTION) := Sta.start ev_PROXY_CONNECTION (Or.inr ⟨(hw _ (List.mem_of_getElem? (i := 24) rfl)), (hw _ (List.mem_of_getElem? (i := 62) rfl))⟩)
  have E_PROXY_CONNECTION : Exa s s.heap A_PROXY_CONNECTION "com/example/idun/idun/http1/FieldName" := Exa.start ev_PROXY_CONNECTION m24
  obtain ⟨A_X_FORWARDED_FOR, ev_X_FORWARDED_FOR⟩ := exa_v m26
  have S_X_FORWARDED_FOR : Sta s s.heap "com/example/idun/idun/http1/FieldName" "X_FORWARDED_FOR" "Lcom/example/idun/idun/http1/FieldName;" (.ref A_X_FORWARDED_FOR) := Sta.start ev_X_FORWARDED_FOR (Or.inr ⟨(hw _ (List.mem_of_getElem? (i := 24) rfl)), (hw _ (List.mem_of_getElem? (i := 64) rfl))⟩)
  have E_X_FORWARDED_FOR : Exa s s.heap A_X_FORWARDED_FOR "com/example/idun/idun/http1/FieldName" := Exa.start ev_X_FORWARDED_FOR m26
  have O_CONNECTION_ordinal : Fld s s.heap A_CONNECTION "java/lang/Enum" "ordinal" "I" (.int (0 : Int32)) := own_fld ev_CONNECTION m2
  have O_TE_ordinal : Fld s s.heap A_TE "java/lang/Enum" "ordinal" "I" (.int (3 : Int32)) := own_fld ev_TE m3
  have O_VIA_ordinal : Fld s s.heap A_VIA "java/lang/Enum" "ordinal" "I" (.int (12 : Int32)) := own_fld ev_VIA m5
  have O_KEEP_ALIVE_ordinal : Fld s s.heap A_KEEP_ALIVE "java/lang/Enum" "ordinal" "I" (.int (1 : Int32)) := own_fld ev_KEEP_ALIVE m9
  have O_TRANSFER_ENCODING_ordinal : Fld s s.heap A_TRANSFER_ENCODING "java/lang/Enum" "ordinal" "I" (.int (7 : Int32)) := own_fld ev_TRANSFER_ENCODING m10
  have O_TRAILER_ordinal : Fld s s.heap A_TRAILER "java/lang/Enum" "ordinal" "I" (.int (4 : Int32)) := own_fld ev_TRAILER m11
  have O_X_FORWARDED_HOST_ordinal : Fld s s.heap A_X_FORWARDED_HOST "java/lang/Enum" "ordinal" "I" (.int (10 : Int32)) := own_fld ev_X_FORWARDED_HOST m15
  have O_CONTENT_LENGTH_ordinal : Fld s s.heap A_CONTENT_LENGTH "java/lang/Enum" "ordinal" "I" (.int (6 : Int32)) := own_fld ev_CONTENT_LENGTH m16
  have O_X_FORWARDED_PROTO_ordinal : Fld s s.heap A_X_FORWARDED_PROTO "java/lang/Enum" "ordinal" "I" (.int (11 : Int32)) := own_fld ev_X_FORWARDED_PROTO m17
  have O_HOST_ordinal : Fld s s.heap A_HOST "java/lang/Enum" "ordinal" "I" (.int (8 : Int32)) := own_fld ev_HOST m19
  have O_UPGRADE_ordinal : Fld s s.heap A_UPGRADE "java/lang/Enum" "ordinal" "I" (.int (5 : Int32)) := own_fld ev_UPGRADE m21
  have O_OTHER_ordinal : Fld s s.heap A_OTHER "java/lang/Enum" "ordinal" "I" (.int (13 : Int32)) := own_fld ev_OTHER m23
  have O_PROXY_CONNECTION_ordinal : Fld s s.heap A_PROXY_CONNECTION "java/lang/Enum" "ordinal" "I" (.int (2 : Int32)) := own_fld ev_PROXY_CONNECTION m25
  have O_X_FORWARDED_FOR_ordinal : Fld s s.heap A_X_FORWARDED_FOR "java/lang/Enum" "ordinal" "I" (.int (9 : Int32)) := own_fld ev_X_FORWARDED_FOR m27
  obtain ⟨en, hen⟩ : ∃ en : Nat → Addr, en = fun i => [A_CONNECTION, A_KEEP_ALIVE, A_PROXY_CONNECTION, A_TE, A_TRAILER, A_UPGRADE, A_CONTENT_LENGTH, A_TRANSFER_ENCODING, A_HOST, A_X_FORWARDED_FOR, A_X_FORWARDED_HOST, A_X_FORWARDED_PROTO, A_VIA, A_OTHER].getD i A_OTHER := ⟨_, rfl⟩
  have en0 : en 0 = A_CONNECTION := by rw [hen]; rfl
  have en1 : en 1 = A_KEEP_ALIVE := by rw [hen]; rfl
  have en2 : en 2 = A_PROXY_CONNECTION := by rw [hen]; rfl
  have en3 : en 3 = A_TE := by rw [hen]; rfl
  have en4 : en 4 = A_TRAILER := by rw [hen]; rfl
  have en5 : en 5 = A_UPGRADE := by rw [hen]; rfl
  have en6 : en 6 = A_CONTENT_LENGTH := by rw [hen]; rfl
  have en7 : en 7 = A_TRANSFER_ENCODING := by rw [hen]; rfl
  have en8 : en 8 = A_HOST := by rw [hen]; rfl
  have en9 : en 9 = A_X_FORWARDED_FOR := by rw [hen]; rfl
  have en10 : en 10 = A_X_FORWARDED_HOST := by rw [hen]; rfl
  have en11 : en 11 = A_X_FORWARDED_PROTO := by rw [hen]; rfl
  have en12 : en 12 = A_VIA := by rw [hen]; rfl
  have en13 : en 13 = A_OTHER := by rw [hen]; rfl
  have EX : ∀ i, i < 14 → Exa s s.heap (en i) "com/example/idun/idun/http1/FieldName" := fun i hi => match i, hi with
    | 0, _ => en0.symm ▸ E_CONNECTION
    | 1, _ => en1.symm ▸ E_KEEP_ALIVE
    | 2, _ => en2.symm ▸ E_PROXY_CONNECTION
    | 3, _ => en3.symm ▸ E_TE
    | 4, _ => en4.symm ▸ E_TRAILER
    | 5, _ => en5.symm ▸ E_UPGRADE
    | 6, _ => en6.symm ▸ E_CONTENT_LENGTH
    | 7, _ => en7.symm ▸ E_TRANSFER_ENCODING
    | 8, _ => en8.symm ▸ E_HOST
    | 9, _ => en9.symm ▸ E_X_FORWARDED_FOR
    | 10, _ => en10.symm ▸ E_X_FORWARDED_HOST
    | 11, _ => en11.symm ▸ E_X_FORWARDED_PROTO
    | 12, _ => en12.symm ▸ E_VIA
    | 13, _ => en13.symm ▸ E_OTHER
    | n + 14, h => absurd h (by omega)
  have ORD : ∀ i, i < 14 → Fld s s.heap (en i) "java/lang/Enum" "ordinal" "I" (.int i.toInt32) := fun i hi => match i, hi with
    | 0, _ => en0.symm ▸ O_CONNECTION_ordinal
    | 1, _ => en1.symm ▸ O_KEEP_ALIVE_ordinal
    | 2, _ => en2.symm ▸ O_PROXY_CONNECTION_ordinal
    | 3, _ => en3.symm ▸ O_TE_ordinal
    | 4, _ => en4.symm ▸ O_TRAILER_ordinal
    | 5, _ => en5.symm ▸ O_UPGRADE_ordinal
    | 6, _ => en6.symm ▸ O_CONTENT_LENGTH_ordinal
    | 7, _ => en7.symm ▸ O_TRANSFER_ENCODING_ordinal
    | 8, _ => en8.symm ▸ O_HOST_ordinal
    | 9, _ => en9.symm ▸ O_X_FORWARDED_FOR_ordinal
    | 10, _ => en10.symm ▸ O_X_FORWARDED_HOST_ordinal
    | 11, _ => en11.symm ▸ O_X_FORWARDED_PROTO_ordinal
    | 12, _ => en12.symm ▸ O_VIA_ordinal
    | 13, _ => en13.symm ▸ O_OTHER_ordinal
    | n + 14, h => absurd h (by omega)
  have INJ := own_inj 14 (by decide) ORD
  have Se0 : Sta s s.heap "com/example/idun/idun/http1/FieldName" "CONNECTION" "Lcom/example/idun/idun/http1/FieldName;" (.ref (en 0)) := en0.symm ▸ S_CONNECTION
  have Se1 : Sta s s.heap "com/example/idun/idun/http1/FieldName" "KEEP_ALIVE" "Lcom/example/idun/idun/http1/FieldName;" (.ref (en 1)) := en1.symm ▸ S_KEEP_ALIVE
  have Se2 : Sta s s.heap "com/example/idun/idun/http1/FieldName" "PROXY_CONNECTION" "Lcom/example/idun/idun/http1/FieldName;" (.ref (en 2)) := en2.symm ▸ S_PROXY_CONNECTION
  have Se3 : Sta s s.heap "com/example/idun/idun/http1/FieldName" "TE" "Lcom/example/idun/idun/http1/FieldName;" (.ref (en 3)) := en3.symm ▸ S_TE
  have Se4 : Sta s s.heap "com/example/idun/idun/http1/FieldName" "TRAILER" "Lcom/example/idun/idun/http1/FieldName;" (.ref (en 4)) := en4.symm ▸ S_TRAILER
  have Se5 : Sta s s.heap "com/example/idun/idun/http1/FieldName" "UPGRADE" "Lcom/example/idun/idun/http1/FieldName;" (.ref (en 5)) := en5.symm ▸ S_UPGRADE
  have Se6 : Sta s s.heap "com/example/idun/idun/http1/FieldName" "CONTENT_LENGTH" "Lcom/example/idun/idun/http1/FieldName;" (.ref (en 6)) := en6.symm ▸ S_CONTENT_LENGTH
  have Se7 : Sta s s.heap "com/example/idun/idun/http1/FieldName" "TRANSFER_ENCODING" "Lcom/example/idun/idun/http1/FieldName;" (.ref (en 7)) := en7.symm ▸ S_TRANSFER_ENCODING
  have Se8 : Sta s s.heap "com/example/idun/idun/http1/FieldName" "HOST" "Lcom/example/idun/idun/http1/FieldName;" (.ref (en 8)) := en8.symm ▸ S_HOST
  have Se9 : Sta s s.heap "com/example/idun/idun/http1/FieldName" "X_FORWARDED_FOR" "Lcom/example/idun/idun/http1/FieldName;" (.ref (en 9)) := en9.symm ▸ S_X_FORWARDED_FOR
  have Se10 : Sta s s.heap "com/example/idun/idun/http1/FieldName" "X_FORWARDED_HOST" "Lcom/example/idun/idun/http1/FieldName;" (.ref (en 10)) := en10.symm ▸ S_X_FORWARDED_HOST
  have Se11 : Sta s s.heap "com/example/idun/idun/http1/FieldName" "X_FORWARDED_PROTO" "Lcom/example/idun/idun/http1/FieldName;" (.ref (en 11)) := en11.symm ▸ S_X_FORWARDED_PROTO
  have Se12 : Sta s s.heap "com/example/idun/idun/http1/FieldName" "VIA" "Lcom/example/idun/idun/http1/FieldName;" (.ref (en 12)) := en12.symm ▸ S_VIA
  have Se13 : Sta s s.heap "com/example/idun/idun/http1/FieldName" "OTHER" "Lcom/example/idun/idun/http1/FieldName;" (.ref (en 13)) := en13.symm ▸ S_OTHER
  obtain ⟨n, o, h1, h2, h3, _, L, rfl, ⟨rfl, N⟩, hq⟩ := rm0 l s _ hw tables_1 i0 i1 i2 i3 en s.heap s.heap.size (Nat.le_refl _) Se0 Se1 Se2 Se3 Se4 Se5 Se6 Se7 Se8 Se9 Se10 Se11 Se12 Se13 EX INJ (Old.start s) p e ha hc hk s m _ below hf ((Spec.applies_iff_loose hf).mp happ).1 ⟨rfl, State.Warmed39.refl s, rfl⟩ trivial
  refine ⟨n, _, h1, h2, h3, hpost _ _ _ _ _ _ ⟨Cond.after_iff.mpr rfl, Cond.after_iff.mpr (eq_i res_at (Term.int_eval (1)) rfl), trivial⟩ ⟨hq.1, hq.2.1, (hq.2.2.sift fun y hy => Or.inr (N y hy)).mono (by decide) (by decide)⟩⟩
theorem main_1_1 : Claimed_1_1 := comes_1 fun _ _ _ _ _ _ h hF => ⟨h.1, hF⟩
theorem main_1_2 : Claimed_1_2 := comes_1 fun _ _ _ _ _ _ h hF => ⟨h.2.1, hF⟩
end Jvm.Pilot.@@N@@
namespace Jvm.Pilot.@@N@@
open Jvm Jvm.ClassFile Sem Op Lib Jvm.Free Jvm.Stand Jvm.Pilot.@@N@@.Jvm.D
/-! MADE BY PROGRAM (witnessworld.py) out of the Statement's table words and the real class files: 14 classes; the members and pool entries that the words name. The judged class is class 1, her method 2. -/
namespace start1
open Jvm.ClassFile
def u (s : String) : CpInfo := .utf8 (stringToUtf16 s)
/-- a pool by its gaps: so many unusable entries, then the entry; so many at the end -/
def gap : Nat → List CpInfo → List CpInfo
  | 0, r => r
  | n + 1, r => .unusable :: gap n r
def poolList (es : List (Nat × CpInfo)) (last : Nat) : List CpInfo := es.foldr (fun e r => gap e.1 (e.2 :: r)) (gap last [])
def pool (es : List (Nat × CpInfo)) (last : Nat) : Array CpInfo := ⟨poolList es last⟩
def fileOf (pool : Array CpInfo) (this : Nat) (attrs : Array Attribute := #[]) (ms : Array MethodInfo := #[]) (fl : Nat := 33) (sup : Nat := 0) (ifs : Array Nat := #[]) (fds : Array FieldInfo := #[]) : ClassFile where
  minorVersion := 0
  majorVersion := 65
  constantPool := pool
  accessFlags := fl
  thisClass := this
  superClass := sup
  interfaces := ifs
  fields := fds
  methods := ms
  attributes := attrs
def plain (name : String) (sup : Option ClassId) : Class where
  name := name
  kind := .ordinary
  loader := none
  accessFlags := 33
  super := sup
  interfaces := #[]
  cf := none
  fields := #[]
  methods := #[]
  instanceTypes := #[]
  staticTypes := #[]
  resolved := #[]
  callSites := []
  init := .initialized
  statics := none
  mirror := none

def pool0 : Array CpInfo := pool [(5, u "<init>"), (0, u "()V"), (1, .class_ 10), (1, u "java/lang/Object")] 113

def k0c0 : Code := { maxStack := 0, maxLocals := 1, code := object_method_1_code, exceptionTable := #[], attributes := #[] }
def k0m0 : Method := { name := "<init>", desc := "()V", sig := { parameters := [], returnType := none }, accessFlags := 1, code := some k0c0 }
/-- java/lang/Object -/
def k0 : Class := { plain "java/lang/Object" none with
  accessFlags := 33
  interfaces := #[]
  cf := some (fileOf pool0 8 #[] #[{ accessFlags := 1, nameIndex := 5, descriptorIndex := 6, attributes := #[] }] 33 0 #[] #[])
  fields := #[]
  methods := #[k0m0]
  instanceTypes := #[]
  staticTypes := #[]
  resolved := Array.replicate 124 none
  statics := none }

def pool1 : Array CpInfo := pool [(2, .class_ 4), (0, .nameAndType 5 6), (0, u "java/lang/Object"), (0, u "<init>"), (0, u "()V"), (0, .fieldref 8 9), (0, .class_ 10), (0, .nameAndType 11 12), (0, u "com/example/idun/idun/http1/FieldName"), (0, u "CONNECTION"), (0, u "Lcom/example/idun/idun/http1/FieldName;"), (0, .fieldref 8 14), (0, .nameAndType 15 12), (0, u "KEEP_ALIVE"), (0, .fieldref 8 17), (0, .nameAndType 18 12), (0, u "PROXY_CONNECTION"), (0, .fieldref 8 20), (0, .nameAndType 21 12), (0, u "TE"), (0, .fieldref 8 23), (0, .nameAndType 24 12), (0, u "TRAILER"), (0, .fieldref 8 26), (0, .nameAndType 27 12), (0, u "UPGRADE"), (0, .fieldref 8 29), (0, .nameAndType 30 12), (0, u "CONTENT_LENGTH"), (0, .fieldref 8 32), (0, .nameAndType 33 12), (0, u "TRANSFER_ENCODING"), (0, .fieldref 8 35), (0, .nameAndType 36 12), (0, u "HOST"), (0, .fieldref 8 38), (0, .nameAndType 39 12), (0, u "X_FORWARDED_FOR"), (0, .fieldref 8 41), (0, .nameAndType 42 12), (0, u "X_FORWARDED_HOST"), (0, .fieldref 8 44), (0, .nameAndType 45 12), (0, u "X_FORWARDED_PROTO"), (0, .fieldref 8 47), (0, .nameAndType 48 12), (0, u "VIA"), (0, .fieldref 8 50), (0, .nameAndType 51 12), (0, u "OTHER"), (0, .integer 2147483647), (0, .class_ 54), (0, u "com/example/idun/idun/http1/Head"), (0, .methodref 53 3), (0, .methodref 57 58), (0, .class_ 59), (0, .nameAndType 60 61), (0, u "com/example/idun/idun/http1/HeadFieldPinLaw"), (0, u "pick"), (0, u "(I)Lcom/example/idun/idun/http1/FieldName;"), (0, .methodref 53 63), (0, .nameAndType 64 65), (0, u "addField"), (0, u "(Lcom/example/idun/idun/http1/FieldName;IIII)V"), (0, .methodref 53 67), (0, .nameAndType 68 69), (0, u "field"), (0, u "(Lcom/example/idun/idun/http1/FieldName;)I"), (3, u "law"), (0, u "(IIII)Z")] 2

def k1m0 : Method := { name := "<init>", desc := "()V", sig := { parameters := [], returnType := none }, accessFlags := 1, code := none }
def k1c1 : Code := { maxStack := 2, maxLocals := 1, code := method_2_code, exceptionTable := #[], attributes := #[] }
def k1m1 : Method := { name := "pick", desc := "(I)Lcom/example/idun/idun/http1/FieldName;", sig := { parameters := [.int], returnType := some (.object "com/example/idun/idun/http1/FieldName") }, accessFlags := 10, code := some k1c1 }
def k1c2 : Code := { maxStack := 6, maxLocals := 12, code := code, exceptionTable := #[], attributes := #[] }
def k1m2 : Method := { name := "law", desc := "(IIII)Z", sig := { parameters := [.int, .int, .int, .int], returnType := some .boolean }, accessFlags := 9, code := some k1c2 }
/-- com/example/idun/idun/http1/HeadFieldPinLaw -/
def k1 : Class := { plain "com/example/idun/idun/http1/HeadFieldPinLaw" (some 0) with
  accessFlags := 49
  interfaces := #[]
  cf := some (fileOf pool1 57 #[] #[{ accessFlags := 1, nameIndex := 5, descriptorIndex := 6, attributes := #[] }, { accessFlags := 10, nameIndex := 60, descriptorIndex := 61, attributes := #[] }, { accessFlags := 9, nameIndex := 73, descriptorIndex := 74, attributes := #[] }] 49 2 #[] #[])
  fields := #[]
  methods := #[k1m0, k1m1, k1m2]
  instanceTypes := #[]
  staticTypes := #[]
  resolved := Array.replicate 77 none
  statics := none }

def pool2 : Array CpInfo := pool [(1, .methodref 2 3), (0, .class_ 4), (0, .nameAndType 5 6), (0, u "java/lang/Object"), (0, u "<init>"), (0, u "()V"), (0, .class_ 8), (0, u "com/example/idun/idun/http1/Head"), (0, .fieldref 7 10), (0, .nameAndType 11 12), (0, u "places"), (0, u "[I"), (0, .class_ 14), (0, u "com/example/idun/idun/http1/FieldName"), (0, .fieldref 7 16), (0, .nameAndType 17 18), (0, u "names"), (0, u "[Lcom/example/idun/idun/http1/FieldName;"), (0, .fieldref 7 20), (0, .nameAndType 21 12), (0, u "tokens"), (6, u "firstStart"), (0, u "I"), (2, u "firstEnd"), (8, u "method"), (0, u "Lcom/example/idun/idun/http1/Method;"), (2, u "status"), (2, u "authorityStart"), (2, u "authorityEnd"), (2, u "absoluteTarget"), (0, u "Z"), (2, u "bytes"), (0, u "[B"), (2, u "secondStart"), (2, u "secondEnd"), (8, u "thirdStart"), (2, u "thirdEnd"), (0, .fieldref 7 79), (0, .nameAndType 80 29), (0, u "fields"), (2, u "tokenCount"), (2, u "tableMade"), (2, u "transferCoded"), (2, u "minor"), (16, u "framing"), (0, u "Lcom/example/idun/idun/http1/Head$Framing;"), (2, u "length"), (0, u "J"), (2, u "end"), (2, u "keepAlive"), (35, u "tokenTable"), (61, u "PLACES"), (2, u "FEW_TOKENS"), (9, u "addField"), (0, u "(Lcom/example/idun/idun/http1/FieldName;IIII)V"), (18, u "field"), (0, u "(Lcom/example/idun/idun/http1/FieldName;)I"), (10, .class_ 264), (0, u "com/example/idun/idun/http1/Head$Framing")] 2

def k2c0 : Code := { maxStack := 2, maxLocals := 1, code := prog_25_method_1_code, exceptionTable := #[], attributes := #[] }
def k2m0 : Method := { name := "<init>", desc := "()V", sig := { parameters := [], returnType := none }, accessFlags := 1, code := some k2c0 }
def k2c1 : Code := { maxStack := 4, maxLocals := 7, code := prog_25_method_8_code, exceptionTable := #[], attributes := #[] }
def k2m1 : Method := { name := "addField", desc := "(Lcom/example/idun/idun/http1/FieldName;IIII)V", sig := { parameters := [(.object "com/example/idun/idun/http1/FieldName"), .int, .int, .int, .int], returnType := none }, accessFlags := 0, code := some k2c1 }
def k2c2 : Code := { maxStack := 2, maxLocals := 3, code := prog_25_method_36_code, exceptionTable := #[], attributes := #[] }
def k2m2 : Method := { name := "field", desc := "(Lcom/example/idun/idun/http1/FieldName;)I", sig := { parameters := [(.object "com/example/idun/idun/http1/FieldName")], returnType := some .int }, accessFlags := 0, code := some k2c2 }
/-- com/example/idun/idun/http1/Head -/
def k2 : Class := { plain "com/example/idun/idun/http1/Head" (some 0) with
  accessFlags := 49
  interfaces := #[]
  cf := some (fileOf pool2 7 #[.nestMembers #[263]] #[{ accessFlags := 1, nameIndex := 5, descriptorIndex := 6, attributes := #[] }, { accessFlags := 0, nameIndex := 231, descriptorIndex := 232, attributes := #[] }, { accessFlags := 0, nameIndex := 251, descriptorIndex := 252, attributes := #[] }] 49 2 #[] #[{ accessFlags := 26, nameIndex := 218, descriptorIndex := 29, attributes := #[] }, { accessFlags := 26, nameIndex := 221, descriptorIndex := 29, attributes := #[] }, { accessFlags := 2, nameIndex := 58, descriptorIndex := 59, attributes := #[] }, { accessFlags := 2, nameIndex := 28, descriptorIndex := 29, attributes := #[] }, { accessFlags := 2, nameIndex := 32, descriptorIndex := 29, attributes := #[] }, { accessFlags := 2, nameIndex := 62, descriptorIndex := 29, attributes := #[] }, { accessFlags := 2, nameIndex := 65, descriptorIndex := 29, attributes := #[] }, { accessFlags := 2, nameIndex := 74, descriptorIndex := 29, attributes := #[] }, { accessFlags := 2, nameIndex := 77, descriptorIndex := 29, attributes := #[] }, { accessFlags := 2, nameIndex := 92, descriptorIndex := 29, attributes := #[] }, { accessFlags := 2, nameIndex := 41, descriptorIndex := 42, attributes := #[] }, { accessFlags := 2, nameIndex := 45, descriptorIndex := 29, attributes := #[] }, { accessFlags := 2, nameIndex := 48, descriptorIndex := 29, attributes := #[] }, { accessFlags := 2, nameIndex := 51, descriptorIndex := 29, attributes := #[] }, { accessFlags := 2, nameIndex := 54, descriptorIndex := 55, attributes := #[] }, { accessFlags := 2, nameIndex := 80, descriptorIndex := 29, attributes := #[] }, { accessFlags := 2, nameIndex := 11, descriptorIndex := 12, attributes := #[] }, { accessFlags := 2, nameIndex := 17, descriptorIndex := 18, attributes := #[] }, { accessFlags := 2, nameIndex := 21, descriptorIndex := 12, attributes := #[] }, { accessFlags := 2, nameIndex := 83, descriptorIndex := 29, attributes := #[] }, { accessFlags := 2, nameIndex := 156, descriptorIndex := 12, attributes := #[] }, { accessFlags := 2, nameIndex := 86, descriptorIndex := 55, attributes := #[] }, { accessFlags := 2, nameIndex := 117, descriptorIndex := 29, attributes := #[] }, { accessFlags := 2, nameIndex := 120, descriptorIndex := 55, attributes := #[] }, { accessFlags := 2, nameIndex := 109, descriptorIndex := 110, attributes := #[] }, { accessFlags := 2, nameIndex := 113, descriptorIndex := 114, attributes := #[] }, { accessFlags := 2, nameIndex := 89, descriptorIndex := 55, attributes := #[] }])
  fields := #[{ name := "PLACES", type := .int, accessFlags := 26, slot := 0, constantValue := 0 }, { name := "FEW_TOKENS", type := .int, accessFlags := 26, slot := 1, constantValue := 0 }, { name := "bytes", type := (.array .byte), accessFlags := 2, slot := 0, constantValue := 0 }, { name := "firstStart", type := .int, accessFlags := 2, slot := 1, constantValue := 0 }, { name := "firstEnd", type := .int, accessFlags := 2, slot := 2, constantValue := 0 }, { name := "secondStart", type := .int, accessFlags := 2, slot := 3, constantValue := 0 }, { name := "secondEnd", type := .int, accessFlags := 2, slot := 4, constantValue := 0 }, { name := "thirdStart", type := .int, accessFlags := 2, slot := 5, constantValue := 0 }, { name := "thirdEnd", type := .int, accessFlags := 2, slot := 6, constantValue := 0 }, { name := "minor", type := .int, accessFlags := 2, slot := 7, constantValue := 0 }, { name := "method", type := (.object "com/example/idun/idun/http1/Method"), accessFlags := 2, slot := 8, constantValue := 0 }, { name := "status", type := .int, accessFlags := 2, slot := 9, constantValue := 0 }, { name := "authorityStart", type := .int, accessFlags := 2, slot := 10, constantValue := 0 }, { name := "authorityEnd", type := .int, accessFlags := 2, slot := 11, constantValue := 0 }, { name := "absoluteTarget", type := .boolean, accessFlags := 2, slot := 12, constantValue := 0 }, { name := "fields", type := .int, accessFlags := 2, slot := 13, constantValue := 0 }, { name := "places", type := (.array .int), accessFlags := 2, slot := 14, constantValue := 0 }, { name := "names", type := (.array (.object "com/example/idun/idun/http1/FieldName")), accessFlags := 2, slot := 15, constantValue := 0 }, { name := "tokens", type := (.array .int), accessFlags := 2, slot := 16, constantValue := 0 }, { name := "tokenCount", type := .int, accessFlags := 2, slot := 17, constantValue := 0 }, { name := "tokenTable", type := (.array .int), accessFlags := 2, slot := 18, constantValue := 0 }, { name := "tableMade", type := .boolean, accessFlags := 2, slot := 19, constantValue := 0 }, { name := "end", type := .int, accessFlags := 2, slot := 20, constantValue := 0 }, { name := "keepAlive", type := .boolean, accessFlags := 2, slot := 21, constantValue := 0 }, { name := "framing", type := (.object "com/example/idun/idun/http1/Head$Framing"), accessFlags := 2, slot := 22, constantValue := 0 }, { name := "length", type := .long, accessFlags := 2, slot := 23, constantValue := 0 }, { name := "transferCoded", type := .boolean, accessFlags := 2, slot := 24, constantValue := 0 }]
  methods := #[k2m0, k2m1, k2m2]
  instanceTypes := #[(.array .byte), .int, .int, .int, .int, .int, .int, .int, (.object "com/example/idun/idun/http1/Method"), .int, .int, .int, .boolean, .int, (.array .int), (.array (.object "com/example/idun/idun/http1/FieldName")), (.array .int), .int, (.array .int), .boolean, .int, .boolean, (.object "com/example/idun/idun/http1/Head$Framing"), .long, .boolean]
  staticTypes := #[.int, .int]
  resolved := Array.replicate 267 none
  statics := none }

def pool3 : Array CpInfo := pool [(1, .class_ 2), (0, u "java/lang/constant/Constable"), (0, .class_ 4), (0, u "java/lang/Object")] 6

/-- java/lang/constant/Constable -/
def k3 : Class := { plain "java/lang/constant/Constable" (some 0) with
  accessFlags := 1537
  interfaces := #[]
  cf := some (fileOf pool3 1 #[] #[] 1537 3 #[] #[])
  fields := #[]
  methods := #[]
  instanceTypes := #[]
  staticTypes := #[]
  resolved := Array.replicate 11 none
  statics := none }

def pool4 : Array CpInfo := pool [(1, .class_ 2), (0, u "java/lang/Comparable"), (0, .class_ 4), (0, u "java/lang/Object")] 7

/-- java/lang/Comparable -/
def k4 : Class := { plain "java/lang/Comparable" (some 0) with
  accessFlags := 1537
  interfaces := #[]
  cf := some (fileOf pool4 1 #[] #[] 1537 3 #[] #[])
  fields := #[]
  methods := #[]
  instanceTypes := #[]
  staticTypes := #[]
  resolved := Array.replicate 12 none
  statics := none }

def pool5 : Array CpInfo := pool [(1, .class_ 2), (0, u "java/io/Serializable"), (0, .class_ 4), (0, u "java/lang/Object")] 2

/-- java/io/Serializable -/
def k5 : Class := { plain "java/io/Serializable" (some 0) with
  accessFlags := 1537
  interfaces := #[]
  cf := some (fileOf pool5 1 #[] #[] 1537 3 #[] #[])
  fields := #[]
  methods := #[]
  instanceTypes := #[]
  staticTypes := #[]
  resolved := Array.replicate 7 none
  statics := none }

def pool6 : Array CpInfo := pool [(2, .class_ 4), (1, u "java/lang/Enum"), (0, u "name"), (0, u "Ljava/lang/String;"), (2, u "ordinal"), (0, u "I"), (1, .class_ 14), (1, u "java/lang/Object"), (4, u "hash"), (86, .class_ 108), (1, u "java/lang/Enum$EnumDesc"), (2, .class_ 112), (0, u "java/lang/constant/Constable"), (0, .class_ 114), (0, u "java/lang/Comparable"), (0, .class_ 116), (0, u "java/io/Serializable")] 87

/-- java/lang/Enum -/
def k6 : Class := { plain "java/lang/Enum" (some 0) with
  accessFlags := 1057
  interfaces := #[3, 4, 5]
  cf := some (fileOf pool6 2 #[.nestMembers #[106]] #[] 1057 12 #[111, 113, 115] #[{ accessFlags := 18, nameIndex := 5, descriptorIndex := 6, attributes := #[] }, { accessFlags := 18, nameIndex := 9, descriptorIndex := 10, attributes := #[] }, { accessFlags := 2, nameIndex := 19, descriptorIndex := 10, attributes := #[] }])
  fields := #[{ name := "name", type := (.object "java/lang/String"), accessFlags := 18, slot := 0, constantValue := 0 }, { name := "ordinal", type := .int, accessFlags := 18, slot := 1, constantValue := 0 }, { name := "hash", type := .int, accessFlags := 2, slot := 2, constantValue := 0 }]
  methods := #[]
  instanceTypes := #[(.object "java/lang/String"), .int, .int]
  staticTypes := #[]
  resolved := Array.replicate 204 none
  statics := none }

def pool7 : Array CpInfo := pool [(1, .class_ 2), (0, u "com/example/idun/idun/http1/FieldName"), (2, u "CONNECTION"), (0, u "Lcom/example/idun/idun/http1/FieldName;"), (2, u "KEEP_ALIVE"), (2, u "PROXY_CONNECTION"), (2, u "TE"), (2, u "TRAILER"), (2, u "UPGRADE"), (2, u "CONTENT_LENGTH"), (2, u "TRANSFER_ENCODING"), (2, u "HOST"), (2, u "X_FORWARDED_FOR"), (2, u "X_FORWARDED_HOST"), (2, u "X_FORWARDED_PROTO"), (2, u "VIA"), (2, u "OTHER"), (2, u "$VALUES"), (0, u "[Lcom/example/idun/idun/http1/FieldName;"), (6, .class_ 58), (1, u "java/lang/Enum"), (20, u "lower"), (0, u "[B"), (2, u "hopByHop"), (0, u "Z"), (2, u "NAMED")] 80

/-- com/example/idun/idun/http1/FieldName -/
def k7 : Class := { plain "com/example/idun/idun/http1/FieldName" (some 6) with
  accessFlags := 16432
  interfaces := #[]
  cf := some (fileOf pool7 1 #[] #[] 16432 56 #[] #[{ accessFlags := 16409, nameIndex := 5, descriptorIndex := 6, attributes := #[] }, { accessFlags := 16409, nameIndex := 9, descriptorIndex := 6, attributes := #[] }, { accessFlags := 16409, nameIndex := 12, descriptorIndex := 6, attributes := #[] }, { accessFlags := 16409, nameIndex := 15, descriptorIndex := 6, attributes := #[] }, { accessFlags := 16409, nameIndex := 18, descriptorIndex := 6, attributes := #[] }, { accessFlags := 16409, nameIndex := 21, descriptorIndex := 6, attributes := #[] }, { accessFlags := 16409, nameIndex := 24, descriptorIndex := 6, attributes := #[] }, { accessFlags := 16409, nameIndex := 27, descriptorIndex := 6, attributes := #[] }, { accessFlags := 16409, nameIndex := 30, descriptorIndex := 6, attributes := #[] }, { accessFlags := 16409, nameIndex := 33, descriptorIndex := 6, attributes := #[] }, { accessFlags := 16409, nameIndex := 36, descriptorIndex := 6, attributes := #[] }, { accessFlags := 16409, nameIndex := 39, descriptorIndex := 6, attributes := #[] }, { accessFlags := 16409, nameIndex := 42, descriptorIndex := 6, attributes := #[] }, { accessFlags := 16409, nameIndex := 45, descriptorIndex := 6, attributes := #[] }, { accessFlags := 26, nameIndex := 87, descriptorIndex := 49, attributes := #[] }, { accessFlags := 18, nameIndex := 79, descriptorIndex := 80, attributes := #[] }, { accessFlags := 18, nameIndex := 83, descriptorIndex := 84, attributes := #[] }, { accessFlags := 4122, nameIndex := 48, descriptorIndex := 49, attributes := #[] }])
  fields := #[{ name := "CONNECTION", type := (.object "com/example/idun/idun/http1/FieldName"), accessFlags := 16409, slot := 0, constantValue := 0 }, { name := "KEEP_ALIVE", type := (.object "com/example/idun/idun/http1/FieldName"), accessFlags := 16409, slot := 1, constantValue := 0 }, { name := "PROXY_CONNECTION", type := (.object "com/example/idun/idun/http1/FieldName"), accessFlags := 16409, slot := 2, constantValue := 0 }, { name := "TE", type := (.object "com/example/idun/idun/http1/FieldName"), accessFlags := 16409, slot := 3, constantValue := 0 }, { name := "TRAILER", type := (.object "com/example/idun/idun/http1/FieldName"), accessFlags := 16409, slot := 4, constantValue := 0 }, { name := "UPGRADE", type := (.object "com/example/idun/idun/http1/FieldName"), accessFlags := 16409, slot := 5, constantValue := 0 }, { name := "CONTENT_LENGTH", type := (.object "com/example/idun/idun/http1/FieldName"), accessFlags := 16409, slot := 6, constantValue := 0 }, { name := "TRANSFER_ENCODING", type := (.object "com/example/idun/idun/http1/FieldName"), accessFlags := 16409, slot := 7, constantValue := 0 }, { name := "HOST", type := (.object "com/example/idun/idun/http1/FieldName"), accessFlags := 16409, slot := 8, constantValue := 0 }, { name := "X_FORWARDED_FOR", type := (.object "com/example/idun/idun/http1/FieldName"), accessFlags := 16409, slot := 9, constantValue := 0 }, { name := "X_FORWARDED_HOST", type := (.object "com/example/idun/idun/http1/FieldName"), accessFlags := 16409, slot := 10, constantValue := 0 }, { name := "X_FORWARDED_PROTO", type := (.object "com/example/idun/idun/http1/FieldName"), accessFlags := 16409, slot := 11, constantValue := 0 }, { name := "VIA", type := (.object "com/example/idun/idun/http1/FieldName"), accessFlags := 16409, slot := 12, constantValue := 0 }, { name := "OTHER", type := (.object "com/example/idun/idun/http1/FieldName"), accessFlags := 16409, slot := 13, constantValue := 0 }, { name := "NAMED", type := (.array (.object "com/example/idun/idun/http1/FieldName")), accessFlags := 26, slot := 14, constantValue := 0 }, { name := "lower", type := (.array .byte), accessFlags := 18, slot := 3, constantValue := 0 }, { name := "hopByHop", type := .boolean, accessFlags := 18, slot := 4, constantValue := 0 }, { name := "$VALUES", type := (.array (.object "com/example/idun/idun/http1/FieldName")), accessFlags := 4122, slot := 15, constantValue := 0 }]
  methods := #[]
  instanceTypes := #[(.object "java/lang/String"), .int, .int, (.array .byte), .boolean]
  staticTypes := #[(.object "com/example/idun/idun/http1/FieldName"), (.object "com/example/idun/idun/http1/FieldName"), (.object "com/example/idun/idun/http1/FieldName"), (.object "com/example/idun/idun/http1/FieldName"), (.object "com/example/idun/idun/http1/FieldName"), (.object "com/example/idun/idun/http1/FieldName"), (.object "com/example/idun/idun/http1/FieldName"), (.object "com/example/idun/idun/http1/FieldName"), (.object "com/example/idun/idun/http1/FieldName"), (.object "com/example/idun/idun/http1/FieldName"), (.object "com/example/idun/idun/http1/FieldName"), (.object "com/example/idun/idun/http1/FieldName"), (.object "com/example/idun/idun/http1/FieldName"), (.object "com/example/idun/idun/http1/FieldName"), (.array (.object "com/example/idun/idun/http1/FieldName")), (.array (.object "com/example/idun/idun/http1/FieldName"))]
  resolved := Array.replicate 168 none
  statics := some 0 }

def pool8 : Array CpInfo := pool [(1, u "java/lang/Cloneable"), (0, .class_ 1), (0, u "java/lang/Object"), (0, .class_ 3)] 3

/-- java/lang/Cloneable -/
def k8 : Class := { plain "java/lang/Cloneable" (some 0) with
  accessFlags := 1537
  interfaces := #[]
  cf := some (fileOf pool8 2 #[] #[] 1537 4 #[] #[])
  fields := #[]
  methods := #[]
  instanceTypes := #[]
  staticTypes := #[]
  resolved := Array.replicate 8 none
  statics := none }

/-- the primitive byte -/
def k9 : Class := { plain "byte" none with kind := .primitive 'B', accessFlags := 0x411 }
/-- [B -/
def k10 : Class := { plain "[B" (some 0) with kind := .array 9 .byte, interfaces := #[8, 5], accessFlags := 1041 }

/-- the primitive int -/
def k11 : Class := { plain "int" none with kind := .primitive 'I', accessFlags := 0x411 }
/-- [I -/
def k12 : Class := { plain "[I" (some 0) with kind := .array 11 .int, interfaces := #[8, 5], accessFlags := 1041 }

/-- [Lcom/example/idun/idun/http1/FieldName; -/
def k13 : Class := { plain "[Lcom/example/idun/idun/http1/FieldName;" (some 0) with kind := .array 7 (.object "com/example/idun/idun/http1/FieldName"), interfaces := #[8, 5], accessFlags := 1041 }

def heap : Heap := #[{ cls := 7, slots := #[.ref 1, .ref 2, .ref 3, .ref 4, .ref 5, .ref 6, .ref 7, .ref 8, .ref 9, .ref 10, .ref 11, .ref 12, .ref 13, .ref 14, .null, .null], vm := .statics 7 },
  { cls := 7, slots := #[.null, .int 0, .int 0, .null, .int 0], vm := .none },
  { cls := 7, slots := #[.null, .int 1, .int 0, .null, .int 0], vm := .none },
  { cls := 7, slots := #[.null, .int 2, .int 0, .null, .int 0], vm := .none },
  { cls := 7, slots := #[.null, .int 3, .int 0, .null, .int 0], vm := .none },
  { cls := 7, slots := #[.null, .int 4, .int 0, .null, .int 0], vm := .none },
  { cls := 7, slots := #[.null, .int 5, .int 0, .null, .int 0], vm := .none },
  { cls := 7, slots := #[.null, .int 6, .int 0, .null, .int 0], vm := .none },
  { cls := 7, slots := #[.null, .int 7, .int 0, .null, .int 0], vm := .none },
  { cls := 7, slots := #[.null, .int 8, .int 0, .null, .int 0], vm := .none },
  { cls := 7, slots := #[.null, .int 9, .int 0, .null, .int 0], vm := .none },
  { cls := 7, slots := #[.null, .int 10, .int 0, .null, .int 0], vm := .none },
  { cls := 7, slots := #[.null, .int 11, .int 0, .null, .int 0], vm := .none },
  { cls := 7, slots := #[.null, .int 12, .int 0, .null, .int 0], vm := .none },
  { cls := 7, slots := #[.null, .int 13, .int 0, .null, .int 0], vm := .none }]
def classes : Array Class := #[k0, k1, k2, k3, k4, k5, k6, k7, k8, k9, k10, k11, k12, k13]
def interned : List (Array UInt16 × Addr) := []
def slotsUsed : Nat := 86
def theMethod : MethodId := ⟨1, 2⟩
def args0 : Array Value := #[.int 5, .int 5, .int 5, .int 5]
def aboutOver (below : List Frame) : State where
  vm := { classes := classes, interned := interned.toArray }
  heap := heap
  slotsUsed := slotsUsed
  threads := #[{ frames := .invoking theMethod args0 :: below }]
def below0 : List Frame := [.native { method := ⟨0, 0⟩, args := #[] }]
def about1 : State := aboutOver below0
def p0 : Program := .bare "" "" ""
def e0 : Env := launch0.env 0 0 0
theorem w_frames : about1.frames = Frame.invoking theMethod args0 :: below0 := rfl
set_option maxRecDepth 65536 in
theorem w_args : argsFit about1.vm theMethod args0 = true := by decide +kernel
set_option maxRecDepth 65536 in
theorem w_heap : heapFits about1 = true := by decide +kernel
set_option maxRecDepth 65536 in
theorem w_runnable : about1.curStatus? = some .runnable := by decide +kernel
set_option maxRecDepth 65536 in
theorem w_alone : about1.alone = true := by decide +kernel
set_option maxRecDepth 65536 in
theorem w_named : about1.methodNamed? x = some theMethod := by decide +kernel
set_option maxRecDepth 65536 in
theorem w_hears : about1.hears theMethod below0 = true := by decide +kernel
set_option maxRecDepth 65536 in
theorem w_ripe : about1.ripe theMethod args0 below0 = true := by decide +kernel
theorem w_running : about1.status = .running := rfl
set_option maxRecDepth 65536 in
theorem w_room : about1.hasRoom e0.platform room_1 = true :=
  launch0.hasRoom_least _ room_1 (by decide +kernel) (by decide +kernel) (by decide +kernel) (by decide +kernel) (by decide +kernel) (by decide +kernel)
theorem allAtoms_all (ts : List Jvm.Cond) (a : Array Jvm.Value) (st : Jvm.State) : (allAtoms ts).before a st = ts.all (fun c => c.before a st) := by
  induction ts with
  | nil => rfl
  | cons c t ih =>
    show (Jvm.Cond.and c (allAtoms t)).before a st = _
    rw [Jvm.Cond.before_and, ih, List.all_cons]
def words1 : List Jvm.Cond := Jvm.Cond.code x code maxLocals ret :: tables_1
/-- a 'code' word, met by the world's own term for the bytes: nothing is compared byte by byte -/
theorem code_word {y : MethodName} {bytes : ByteArray} {mx : Nat} {rt : Option FieldType} {a : Array Value} {s : State} {m : MethodId} {meth : Method} {c : Code} (h1 : s.methodNamed? y = some m) (h2 : s.vm.method? m = some meth) (h3 : meth.code = some c) (h4 : c.code = bytes)
    (h5 : (c.maxLocals == mx && c.exceptionTable.isEmpty && decide (c.maxStack ≤ mostOperands) && decide (meth.sig.returnType = rt) && !meth.locks && decide (parseMethodDescriptor y.desc = some meth.sig)) = true) : (Jvm.Cond.code y bytes mx rt).before a s = true := by
  simp only [Bool.and_eq_true, beq_iff_eq, Bool.not_eq_true', decide_eq_true_eq] at h5
  obtain ⟨⟨⟨⟨⟨g1, g2⟩, g3⟩, g4⟩, g5⟩, g6⟩ := h5
  simp [Cond.before, Cond.holds, Cond.value, h1, h2, h3, h4, g1, g2, g3, g4, g5, g6]
def isCode : Jvm.Cond → Bool
  | .code _ _ _ _ => true
  | _ => false
theorem all_split {L : List Jvm.Cond} {P : Jvm.Cond → Bool} (h1 : L.all (fun c => isCode c || P c) = true) (h2 : ∀ c ∈ L.filter isCode, P c = true) : L.all P = true := by
  refine List.all_eq_true.mpr fun c hc => ?_
  have h := List.all_eq_true.mp h1 c hc
  rcases Bool.eq_false_or_eq_true (isCode c) with hi | hi
  · exact h2 c (List.mem_filter.mpr ⟨hc, hi⟩)
  · simpa [hi] using h
set_option maxRecDepth 65536 in
theorem w_c0 : (Jvm.Cond.code x code maxLocals ret).before args0 about1 = true := code_word (m := ⟨1, 2⟩) (meth := k1m2) (c := k1c2) (by decide +kernel) rfl rfl rfl (by decide +kernel)
set_option maxRecDepth 65536 in
theorem w_c1 : (Jvm.Cond.code ({ cls := "com/example/idun/idun/http1/Head", name := "<init>", desc := "()V" } : Jvm.MethodName) prog_25_method_1_code (1 : Nat) (Option.none : Option Jvm.ClassFile.FieldType)).before args0 about1 = true := code_word (m := ⟨2, 0⟩) (meth := k2m0) (c := k2c0) (by decide +kernel) rfl rfl rfl (by decide +kernel)
set_option maxRecDepth 65536 in
theorem w_c2 : (Jvm.Cond.code ({ cls := "java/lang/Object", name := "<init>", desc := "()V" } : Jvm.MethodName) object_method_1_code (1 : Nat) (Option.none : Option Jvm.ClassFile.FieldType)).before args0 about1 = true := code_word (m := ⟨0, 0⟩) (meth := k0m0) (c := k0c0) (by decide +kernel) rfl rfl rfl (by decide +kernel)
set_option maxRecDepth 65536 in
theorem w_c3 : (Jvm.Cond.code ({ cls := "com/example/idun/idun/http1/HeadFieldPinLaw", name := "pick", desc := "(I)Lcom/example/idun/idun/http1/FieldName;" } : Jvm.MethodName) method_2_code (1 : Nat) (Option.some (Jvm.ClassFile.FieldType.object "com/example/idun/idun/http1/FieldName"))).before args0 about1 = true := code_word (m := ⟨1, 1⟩) (meth := k1m1) (c := k1c1) (by decide +kernel) rfl rfl rfl (by decide +kernel)
set_option maxRecDepth 65536 in
theorem w_c4 : (Jvm.Cond.code ({ cls := "com/example/idun/idun/http1/Head", name := "addField", desc := "(Lcom/example/idun/idun/http1/FieldName;IIII)V" } : Jvm.MethodName) prog_25_method_8_code (7 : Nat) (Option.none : Option Jvm.ClassFile.FieldType)).before args0 about1 = true := code_word (m := ⟨2, 1⟩) (meth := k2m1) (c := k2c1) (by decide +kernel) rfl rfl rfl (by decide +kernel)
set_option maxRecDepth 65536 in
theorem w_c5 : (Jvm.Cond.code ({ cls := "com/example/idun/idun/http1/Head", name := "field", desc := "(Lcom/example/idun/idun/http1/FieldName;)I" } : Jvm.MethodName) prog_25_method_36_code (3 : Nat) (Option.some Jvm.ClassFile.FieldType.int)).before args0 about1 = true := code_word (m := ⟨2, 2⟩) (meth := k2m2) (c := k2c2) (by decide +kernel) rfl rfl rfl (by decide +kernel)
def codes1 : List Jvm.Cond := [Jvm.Cond.code x code maxLocals ret, Jvm.Cond.code ({ cls := "com/example/idun/idun/http1/Head", name := "<init>", desc := "()V" } : Jvm.MethodName) prog_25_method_1_code (1 : Nat) (Option.none : Option Jvm.ClassFile.FieldType), Jvm.Cond.code ({ cls := "java/lang/Object", name := "<init>", desc := "()V" } : Jvm.MethodName) object_method_1_code (1 : Nat) (Option.none : Option Jvm.ClassFile.FieldType), Jvm.Cond.code ({ cls := "com/example/idun/idun/http1/HeadFieldPinLaw", name := "pick", desc := "(I)Lcom/example/idun/idun/http1/FieldName;" } : Jvm.MethodName) method_2_code (1 : Nat) (Option.some (Jvm.ClassFile.FieldType.object "com/example/idun/idun/http1/FieldName")), Jvm.Cond.code ({ cls := "com/example/idun/idun/http1/Head", name := "addField", desc := "(Lcom/example/idun/idun/http1/FieldName;IIII)V" } : Jvm.MethodName) prog_25_method_8_code (7 : Nat) (Option.none : Option Jvm.ClassFile.FieldType), Jvm.Cond.code ({ cls := "com/example/idun/idun/http1/Head", name := "field", desc := "(Lcom/example/idun/idun/http1/FieldName;)I" } : Jvm.MethodName) prog_25_method_36_code (3 : Nat) (Option.some Jvm.ClassFile.FieldType.int)]
set_option maxRecDepth 65536 in
theorem codes_eq : words1.filter isCode = codes1 := rfl
theorem w_codes : ∀ c ∈ words1.filter isCode, c.before args0 about1 = true := by
  rw [codes_eq]
  intro c hc
  simp only [codes1, List.mem_cons, List.not_mem_nil, or_false] at hc
  rcases hc with rfl | rfl | rfl | rfl | rfl | rfl
  · exact w_c0
  · exact w_c1
  · exact w_c2
  · exact w_c3
  · exact w_c4
  · exact w_c5
set_option maxRecDepth 65536 in
theorem w_t1 : (words1.take 24).all (fun c => isCode c || c.before args0 about1) = true := by decide +kernel
set_option maxRecDepth 65536 in
theorem w_t2 : ((words1.drop 24).take 24).all (fun c => isCode c || c.before args0 about1) = true := by decide +kernel
set_option maxRecDepth 65536 in
theorem w_t3 : ((words1.drop 24).drop 24).all (fun c => isCode c || c.before args0 about1) = true := by decide +kernel
theorem w_tables : (allAtoms (Jvm.Cond.code x code maxLocals ret :: tables_1)).before args0 about1 = true := by
  rw [allAtoms_all]
  show words1.all (fun c => c.before args0 about1) = true
  refine all_split ?_ w_codes
  rw [← List.take_append_drop 24 words1, List.all_append, w_t1, ← List.take_append_drop 24 (words1.drop 24), List.all_append, w_t2, w_t3]
  rfl
set_option maxRecDepth 65536 in
theorem w_case : (Jvm.Cond.and given_1 narrow_1).before args0 about1 = true := by decide +kernel
theorem w_applies : (headSpec (Jvm.Cond.code x code maxLocals ret :: tables_1) room_1).applies x e0.platform about1 = true :=
  (Spec.applies_iff w_frames).mpr ⟨w_running, w_runnable, w_alone, w_named, w_hears, w_ripe, w_room, w_tables⟩
theorem atStart : AtStart classFile x code maxLocals ret World_1 tables_1 room_1 Calls_1 rest_1 Pre_1 launch0 p0 e0 about1 theMethod args0 below0 :=
  ⟨lists_1, trivial, launch0.admits_env _ _ _, launch0.least_env, fairChoices_fair.cas, fairChoices_fair.clock, w_frames, w_args, w_heap, w_applies, trivial, trivial, w_case⟩
end start1
theorem witness_1 : WitnessClaimed_1 := ⟨start1.p0, start1.e0, start1.about1, start1.theMethod, start1.args0, start1.below0, start1.atStart⟩
end Jvm.Pilot.@@N@@
