import JvmDerived
import JvmDerived.Pilot.@@N@@Statement
import JvmDerived.Pilot.@@N@@Code
set_option linter.unusedVariables false
set_option linter.unusedSimpArgs false
set_option maxRecDepth 65536
set_option maxHeartbeats 4000000
namespace Jvm.Pilot.@@N@@
open Jvm Jvm.ClassFile Sem Op Lib Jvm.Free Jvm.Stand Jvm.LawKit Jvm.RoadKit Bundle Jvm.Pilot.@@N@@.Jvm.D
section Own
variable {p : Program} {l : Launch} {e : Env} {R : Room} {s : State} {m : MethodId} {args : Array Value} {below : List Frame} {meth : Method} {c : Code} {T : State} {locs : List Loc} {cells slots : Nat} {K J : Nat} {Q : Option Value → Heap → List Loc → Prop} {Z : State} {a0 : Array Value} {h : Heap}
/-- from U the run comes to its end, and what it leaves is Q's -/
def Ends (p : Program) (e : Env) (below : List Frame) (s : State) (K J : Nat) (Q : Option Value → Heap → List Loc → Prop) (U : State) : Prop :=
  ∃ s₂ o, Steps p.tables e below U s₂ ∧ s₂.status = .running ∧ Ended s₂ below o ∧ ∃ v L, o = .returned v ∧ Q v s₂.heap L ∧ FrameEnd s o s₂ L K J
theorem Ends.via {A B : State} (h : ∀ t, Steps p.tables e below A t → Steps p.tables e below B t) (k : Ends p e below s K J Q A) : Ends p e below s K J Q B := by
  obtain ⟨s2, o, h1, h2⟩ := k
  exact ⟨s2, o, h _ h1, h2⟩
theorem Ends.tr {A B : State} (h : Steps p.tables e below B A) (k : Ends p e below s K J Q A) : Ends p e below s K J Q B := by
  obtain ⟨s2, o, h1, h2⟩ := k
  exact ⟨s2, o, h.trans h1, h2⟩
theorem Ends.cast {g g' : JFrame} (q : g = g') (k : Ends p e below s K J Q (T.setTop g')) : Ends p e below s K J Q (T.setTop g) := q ▸ k
theorem own_iadd (X : Stand p l e R s m args below meth c T locs cells slots) (hx : p.tables.exec = Jvm.exec) {pc n : Nat} {Ls : Array Slot} {st : List Value} {x y : Int32} (hd : decode c.code pc = .ok (.iadd, 1))  (hn : pc + 1 = n) (k : Ends p e below s K J Q (T.setTop (mkF m n Ls (.int (x + y) :: st)))) : Ends p e below s K J Q (T.setTop (mkF m pc Ls (.int y :: .int x :: st))) := by
  subst hn
  exact Ends.via (fun t h => XS.iadd X.here hx rfl hd rfl h) k
theorem own_isub (X : Stand p l e R s m args below meth c T locs cells slots) (hx : p.tables.exec = Jvm.exec) {pc n : Nat} {Ls : Array Slot} {st : List Value} {x y : Int32} (hd : decode c.code pc = .ok (.isub, 1))  (hn : pc + 1 = n) (k : Ends p e below s K J Q (T.setTop (mkF m n Ls (.int (x - y) :: st)))) : Ends p e below s K J Q (T.setTop (mkF m pc Ls (.int y :: .int x :: st))) := by
  subst hn
  exact Ends.via (fun t h => XS.isub X.here hx rfl hd rfl h) k
theorem own_imul (X : Stand p l e R s m args below meth c T locs cells slots) (hx : p.tables.exec = Jvm.exec) {pc n : Nat} {Ls : Array Slot} {st : List Value} {x y : Int32} (hd : decode c.code pc = .ok (.imul, 1))  (hn : pc + 1 = n) (k : Ends p e below s K J Q (T.setTop (mkF m n Ls (.int (x * y) :: st)))) : Ends p e below s K J Q (T.setTop (mkF m pc Ls (.int y :: .int x :: st))) := by
  subst hn
  exact Ends.via (fun t h => XS.imul X.here hx rfl hd rfl h) k
theorem own_iand (X : Stand p l e R s m args below meth c T locs cells slots) (hx : p.tables.exec = Jvm.exec) {pc n : Nat} {Ls : Array Slot} {st : List Value} {x y : Int32} (hd : decode c.code pc = .ok (.iand, 1))  (hn : pc + 1 = n) (k : Ends p e below s K J Q (T.setTop (mkF m n Ls (.int (x &&& y) :: st)))) : Ends p e below s K J Q (T.setTop (mkF m pc Ls (.int y :: .int x :: st))) := by
  subst hn
  exact Ends.via (fun t h => XS.iand X.here hx rfl hd rfl h) k
theorem own_iushr (X : Stand p l e R s m args below meth c T locs cells slots) (hx : p.tables.exec = Jvm.exec) {pc n : Nat} {Ls : Array Slot} {st : List Value} {x y : Int32} (hd : decode c.code pc = .ok (.iushr, 1))  (hn : pc + 1 = n) (k : Ends p e below s K J Q (T.setTop (mkF m n Ls (.int ((x.toUInt32 >>> (y &&& 31).toUInt32).toInt32) :: st)))) : Ends p e below s K J Q (T.setTop (mkF m pc Ls (.int y :: .int x :: st))) := by
  subst hn
  exact Ends.via (fun t h => XS.iushr X.here hx rfl hd rfl h) k
theorem own_pop (X : Stand p l e R s m args below meth c T locs cells slots) (hx : p.tables.exec = Jvm.exec) {pc n : Nat} {Ls : Array Slot} {st : List Value} {x : Value} (hd : decode c.code pc = .ok (.pop, 1)) (hc : x.category = 1) (hn : pc + 1 = n) (k : Ends p e below s K J Q (T.setTop (mkF m n Ls (st)))) : Ends p e below s K J Q (T.setTop (mkF m pc Ls (x :: st))) := by
  subst hn
  exact Ends.via (fun t h => XS.pop X.here hx rfl hd rfl hc h) k
theorem own_dup (X : Stand p l e R s m args below meth c T locs cells slots) (hx : p.tables.exec = Jvm.exec) {pc n : Nat} {Ls : Array Slot} {st : List Value} {x : Value} (hd : decode c.code pc = .ok (.dup, 1)) (hc : x.category = 1) (hn : pc + 1 = n) (k : Ends p e below s K J Q (T.setTop (mkF m n Ls (x :: x :: st)))) : Ends p e below s K J Q (T.setTop (mkF m pc Ls (x :: st))) := by
  subst hn
  exact Ends.via (fun t h => XS.dup X.here hx rfl hd rfl hc h) k
theorem own_iconst (X : Stand p l e R s m args below meth c T locs cells slots) (hx : p.tables.exec = Jvm.exec) {pc n : Nat} {Ls : Array Slot} {st : List Value} {i : Int} (v : Int32) (hd : decode c.code pc = .ok (.iconst i, 1)) (hv : Int32.ofInt i = v) (hn : pc + 1 = n) (k : Ends p e below s K J Q (T.setTop (mkF m n Ls (.int v :: st)))) : Ends p e below s K J Q (T.setTop (mkF m pc Ls st)) := by
  subst hn hv
  exact Ends.via (fun t h => XS.iconst X.here hx rfl hd h) k
theorem own_iload (X : Stand p l e R s m args below meth c T locs cells slots) (hx : p.tables.exec = Jvm.exec) {pc n : Nat} {Ls : Array Slot} {st : List Value} {i : Nat} {v : Int32} (hd : decode c.code pc = .ok (.iload i, 2)) (hl : Ls[i]? = some (.val (.int v))) (hn : pc + 2 = n) (k : Ends p e below s K J Q (T.setTop (mkF m n Ls (.int v :: st)))) : Ends p e below s K J Q (T.setTop (mkF m pc Ls (st))) := by
  subst hn
  exact Ends.via (fun t h => XS.iload X.here hx rfl hd hl h) k
theorem own_iloadN (X : Stand p l e R s m args below meth c T locs cells slots) (hx : p.tables.exec = Jvm.exec) {pc n : Nat} {Ls : Array Slot} {st : List Value} {i : Fin 4} {v : Int32} (hd : decode c.code pc = .ok (.iload_n i, 1)) (hl : Ls[i.val]? = some (.val (.int v))) (hn : pc + 1 = n) (k : Ends p e below s K J Q (T.setTop (mkF m n Ls (.int v :: st)))) : Ends p e below s K J Q (T.setTop (mkF m pc Ls (st))) := by
  subst hn
  exact Ends.via (fun t h => XS.iloadN X.here hx rfl hd hl h) k
theorem own_istore (X : Stand p l e R s m args below meth c T locs cells slots) (hx : p.tables.exec = Jvm.exec) {pc n : Nat} {Ls : Array Slot} {st : List Value} {i : Nat} {v : Int32} {l' : Array Slot} (hd : decode c.code pc = .ok (.istore i, 2)) (hl : storeLocals Ls i (.int v) = some l') (hn : pc + 2 = n) (k : Ends p e below s K J Q (T.setTop (mkF m n l' (st)))) : Ends p e below s K J Q (T.setTop (mkF m pc Ls (.int v :: st))) := by
  subst hn
  exact Ends.via (fun t h => XS.istore X.here hx rfl hd rfl hl h) k
theorem own_istoreN (X : Stand p l e R s m args below meth c T locs cells slots) (hx : p.tables.exec = Jvm.exec) {pc n : Nat} {Ls : Array Slot} {st : List Value} {i : Fin 4} {v : Int32} {l' : Array Slot} (hd : decode c.code pc = .ok (.istore_n i, 1)) (hl : storeLocals Ls i.val (.int v) = some l') (hn : pc + 1 = n) (k : Ends p e below s K J Q (T.setTop (mkF m n l' (st)))) : Ends p e below s K J Q (T.setTop (mkF m pc Ls (.int v :: st))) := by
  subst hn
  exact Ends.via (fun t h => XS.istoreN X.here hx rfl hd rfl hl h) k
theorem own_aload (X : Stand p l e R s m args below meth c T locs cells slots) (hx : p.tables.exec = Jvm.exec) {pc n : Nat} {Ls : Array Slot} {st : List Value} {i : Nat} {v : Value} (hd : decode c.code pc = .ok (.aload i, 2)) (hl : Ls[i]? = some (.val v)) (hv : v.isRef = true) (hn : pc + 2 = n) (k : Ends p e below s K J Q (T.setTop (mkF m n Ls (v :: st)))) : Ends p e below s K J Q (T.setTop (mkF m pc Ls (st))) := by
  subst hn
  exact Ends.via (fun t h => XS.aload X.here hx rfl hd hl hv h) k
theorem own_aloadN (X : Stand p l e R s m args below meth c T locs cells slots) (hx : p.tables.exec = Jvm.exec) {pc n : Nat} {Ls : Array Slot} {st : List Value} {i : Fin 4} {v : Value} (hd : decode c.code pc = .ok (.aload_n i, 1)) (hl : Ls[i.val]? = some (.val v)) (hv : v.isRef = true) (hn : pc + 1 = n) (k : Ends p e below s K J Q (T.setTop (mkF m n Ls (v :: st)))) : Ends p e below s K J Q (T.setTop (mkF m pc Ls (st))) := by
  subst hn
  exact Ends.via (fun t h => XS.aloadN X.here hx rfl hd hl hv h) k
theorem own_astore (X : Stand p l e R s m args below meth c T locs cells slots) (hx : p.tables.exec = Jvm.exec) {pc n : Nat} {Ls : Array Slot} {st : List Value} {i : Nat} {v : Value} {l' : Array Slot} (hd : decode c.code pc = .ok (.astore i, 2)) (hv : v.isRef = true) (hl : storeLocals Ls i v = some l') (hn : pc + 2 = n) (k : Ends p e below s K J Q (T.setTop (mkF m n l' (st)))) : Ends p e below s K J Q (T.setTop (mkF m pc Ls (v :: st))) := by
  subst hn
  exact Ends.via (fun t h => XS.astore X.here hx rfl hd rfl hv hl h) k
theorem own_iinc (X : Stand p l e R s m args below meth c T locs cells slots) (hx : p.tables.exec = Jvm.exec) {pc n : Nat} {Ls : Array Slot} {st : List Value} {i : Nat} {cst : Int} {x v : Int32} {l' : Array Slot} (hd : decode c.code pc = .ok (.iinc i cst, 3)) (hl : Ls[i]? = some (.val (.int x))) (hv : Int32.ofInt cst = v) (hl' : storeLocals Ls i (.int (x + v)) = some l') (hn : pc + 3 = n) (k : Ends p e below s K J Q (T.setTop (mkF m n l' st))) : Ends p e below s K J Q (T.setTop (mkF m pc Ls st)) := by
  subst hn hv
  exact Ends.via (fun t h => XS.iinc X.here hx rfl hd hl hl' h) k
theorem own_goto (X : Stand p l e R s m args below meth c T locs cells slots) (hx : p.tables.exec = Jvm.exec) {pc n : Nat} {Ls : Array Slot} {st : List Value} {o : Int} (hd : decode c.code pc = .ok (.goto o, 3)) (ho : 0 ≤ (pc : Int) + o) (hp : ((pc : Int) + o).toNat = n) (k : Ends p e below s K J Q (T.setTop (mkF m n Ls st))) : Ends p e below s K J Q (T.setTop (mkF m pc Ls st)) :=
  Ends.via (fun t h => XS.goto X.here hx rfl (pc0 := pc) rfl hd ho hp h) k
theorem own_ifYes (X : Stand p l e R s m args below meth c T locs cells slots) (hx : p.tables.exec = Jvm.exec) {pc n : Nat} {Ls : Array Slot} {st : List Value} {o : Int} {cd : ClassFile.Cond} {x : Int32} (hd : decode c.code pc = .ok (.ifCond cd o, 3)) (hc : ifCond.holds cd x = true) (ho : 0 ≤ (pc : Int) + o) (hp : ((pc : Int) + o).toNat = n) (k : Ends p e below s K J Q (T.setTop (mkF m n Ls st))) : Ends p e below s K J Q (T.setTop (mkF m pc Ls (.int x :: st))) :=
  Ends.via (fun t h => XS.ifYes X.here hx rfl (pc0 := pc) rfl hd rfl hc ho hp h) k
theorem own_ifNo (X : Stand p l e R s m args below meth c T locs cells slots) (hx : p.tables.exec = Jvm.exec) {pc n : Nat} {Ls : Array Slot} {st : List Value} {o : Int} {cd : ClassFile.Cond} {x : Int32} (hd : decode c.code pc = .ok (.ifCond cd o, 3)) (hc : ifCond.holds cd x = false) (hn : pc + 3 = n) (k : Ends p e below s K J Q (T.setTop (mkF m n Ls st))) : Ends p e below s K J Q (T.setTop (mkF m pc Ls (.int x :: st))) := by
  subst hn
  exact Ends.via (fun t h => XS.ifNo X.here hx rfl hd rfl hc h) k
theorem own_icmpYes (X : Stand p l e R s m args below meth c T locs cells slots) (hx : p.tables.exec = Jvm.exec) {pc n : Nat} {Ls : Array Slot} {st : List Value} {o : Int} {cd : ClassFile.Cond} {x y : Int32} (hd : decode c.code pc = .ok (.if_icmp cd o, 3)) (hc : if_icmp.holds cd x y = true) (ho : 0 ≤ (pc : Int) + o) (hp : ((pc : Int) + o).toNat = n) (k : Ends p e below s K J Q (T.setTop (mkF m n Ls st))) : Ends p e below s K J Q (T.setTop (mkF m pc Ls (.int y :: .int x :: st))) :=
  Ends.via (fun t h => XS.icmpYes X.here hx rfl (pc0 := pc) rfl hd rfl hc ho hp h) k
theorem own_icmpNo (X : Stand p l e R s m args below meth c T locs cells slots) (hx : p.tables.exec = Jvm.exec) {pc n : Nat} {Ls : Array Slot} {st : List Value} {o : Int} {cd : ClassFile.Cond} {x y : Int32} (hd : decode c.code pc = .ok (.if_icmp cd o, 3)) (hc : if_icmp.holds cd x y = false) (hn : pc + 3 = n) (k : Ends p e below s K J Q (T.setTop (mkF m n Ls st))) : Ends p e below s K J Q (T.setTop (mkF m pc Ls (.int y :: .int x :: st))) := by
  subst hn
  exact Ends.via (fun t h => XS.icmpNo X.here hx rfl hd rfl hc h) k
theorem own_retI (X : Stand p l e R s m args below meth c T locs cells slots) (hx : p.tables.exec = Jvm.exec) (lk : meth.locks = false) {pc : Nat} {Ls : Array Slot} {rest : List Value} {z : Int32} (hret : meth.sig.returnType = some .int)  (hd : decode c.code pc = .ok (.ireturn, 1)) (hK : cells ≤ K) (hJ : slots ≤ J) (hq : Q (some (.int z)) T.heap locs) : Ends p e below s K J Q (T.setTop (mkF m pc Ls (.int z :: rest))) := by
  obtain ⟨fs, hr, hrun, hended, hW, hsame⟩ := X.leave (v := (some (.int z))) (fun h => by rw [hret] at h; cases h) lk
  exact ⟨_, _, retOut X hx (w := .int z) (t := .int) hret rfl (Or.inl ⟨rfl, Or.inl rfl, z, rfl⟩) hd hr, hrun, hended, _, _, rfl, hq, ⟨_, rfl⟩, hW, hsame.mono hK hJ⟩
theorem own_retN (X : Stand p l e R s m args below meth c T locs cells slots) (hx : p.tables.exec = Jvm.exec) (lk : meth.locks = false) {pc : Nat} {Ls : Array Slot} {rest : List Value} {z : Int32} {t : FieldType}  (hret : meth.sig.returnType = some t) (ht : t = .boolean ∨ t = .byte ∨ t = .char ∨ t = .short) (hd : decode c.code pc = .ok (.ireturn, 1)) (hK : cells ≤ K) (hJ : slots ≤ J) (hq : Q (some (.int (nar t z))) T.heap locs) : Ends p e below s K J Q (T.setTop (mkF m pc Ls (.int z :: rest))) := by
  obtain ⟨fs, hr, hrun, hended, hW, hsame⟩ := X.leave (v := (some (.int (nar t z)))) (fun h => by rw [hret] at h; cases h) lk
  exact ⟨_, _, Jvm.RoadKit.retN X hx hret ht hd hr, hrun, hended, _, _, rfl, hq, ⟨_, rfl⟩, hW, hsame.mono hK hJ⟩
theorem own_retV (X : Stand p l e R s m args below meth c T locs cells slots) (hx : p.tables.exec = Jvm.exec) (lk : meth.locks = false) {pc : Nat} {Ls : Array Slot}  (hret : meth.sig.returnType = none)  (hd : decode c.code pc = .ok (.return_, 1)) (hK : cells ≤ K) (hJ : slots ≤ J) (hq : Q none T.heap locs) : Ends p e below s K J Q (T.setTop (mkF m pc Ls ([]))) := by
  obtain ⟨fs, hr, hrun, hended, hW, hsame⟩ := X.leave (v := none) (fun h => by rfl) lk
  exact ⟨_, _, X.returnOut hx hret hd hr, hrun, hended, _, _, rfl, hq, ⟨_, rfl⟩, hW, hsame.mono hK hJ⟩
theorem own_callS (X : Stand p l e R s m args below meth c T locs cells slots) (hx : p.tables.exec = Jvm.exec) (hZ : Z.Warmed39 s.vm) {own : String} {index : Nat} {y : MethodName} {bytes : ByteArray} {maxL : Nat} {ret : Option FieldType} (hown : s.vm.findClass own = some m.cls) (wl : (Cond.methodLink own index y).before a0 Z = true) (ws : (Cond.static y).before a0 Z = true) (wz : (Cond.initialized y.cls).before a0 Z = true) (wc : (Cond.code y bytes maxL ret).before a0 Z = true) (hy : y.cls ≠ "java/lang/invoke/MethodHandle" ∧ y.cls ≠ "java/lang/invoke/VarHandle") (eT : T.heap = h)
    {rm : Room} {Qc : Option Value → Heap → List Loc → Prop} {as' : Array Value} (hM : MetFree l y (head1 [Cond.code y bytes maxL ret] rm) (fun a U => a = as' ∧ Z.Warmed39 U.vm ∧ U.heap = h) (fun _ _ _ _ _ => True) (fun _ U o U' => ∃ v L, o = .returned v ∧ Qc v U'.heap L ∧ FrameEnd U o U' L rm.cells rm.slots)) {W : Nat} (hf : rm.frames + 1 ≤ R.frames) (hl : W + (maxL + 11) + rm.locals ≤ R.locals) (hc : cells + rm.cells ≤ R.cells) (hsl : slots + rm.slots ≤ R.slots) {pc n : Nat} {Ls : Array Slot} (hsize : Ls.size = c.maxLocals) {argsL rest : List Value} {ps : List FieldType} {r : Option FieldType} (hpd : parseMethodDescriptor y.desc = some ⟨ps, r⟩) (hlen : argsL.length = ps.length) (has : argsL.toArray = as') (hW : 0 + (rest.map fun v => v.category).sum ≤ W) (hd : decode c.code pc = .ok (.invokestatic index, 3)) (hn : pc + 3 = n) {st : List Value} (hst : st = argsL.reverse ++ rest)
    (k : ∀ v T' h' L', Stand p l e R s m args below meth c T' (locs ++ L') (cells + rm.cells) (slots + rm.slots) → T'.heap = h' → Qc v h' L' → Ends p e below s K J Q (T'.setTop (mkF m n Ls (v.toList ++ rest)))) : Ends p e below s K J Q (T.setTop (mkF m pc Ls st)) := by
  subst hn
  obtain ⟨v, _, ⟨T18, L18, k18, n18⟩, -, X18, ⟨Lc18, hQ18, l18, y18, z18⟩, st18⟩ := Jvm.LawKit.callS X hx hown (mvT hZ wl) (mvT hZ ws) (mvT hZ wz) (mvT hZ wc) hy (backOf (W := W) hM hZ wc wz hf hl) (g := mkF m pc Ls st) rfl hsize (argsL := argsL) (rest := rest) (lenOf hpd hlen) hst hW hd (fun _ _ => ⟨has, eT, hc, hsl⟩)
  dsimp only [Pt.U, Pt.locs, Pt.cells, Pt.slots] at X18 l18 y18 z18 st18 hQ18
  subst l18 y18 z18
  exact Ends.via (fun t h => st18 t h) (k v T18 _ Lc18 X18 rfl hQ18)
theorem own_callN (X : Stand p l e R s m args below meth c T locs cells slots) (hx : p.tables.exec = Jvm.exec) (hZ : Z.Warmed39 s.vm) {own : String} {index : Nat} {y : MethodName} {bytes : ByteArray} {maxL : Nat} (hy1 : y.name = "<init>") (hown : s.vm.findClass own = some m.cls) (wl : (Cond.methodLink own index y).before a0 Z = true) (wi : (Cond.instanceMethod y).before a0 Z = true) (wz : (Cond.initialized y.cls).before a0 Z = true) (wc : (Cond.code y bytes maxL none).before a0 Z = true) (hy : y.cls ≠ "java/lang/invoke/MethodHandle" ∧ y.cls ≠ "java/lang/invoke/VarHandle") (eT : T.heap = h)
    {rm : Room} {Qc : Option Value → Heap → List Loc → Prop} {as' : Array Value} (hM : MetFree l y (head1 [Cond.code y bytes maxL none] rm) (fun a U => a = as' ∧ Z.Warmed39 U.vm ∧ U.heap = h) (fun _ _ _ _ _ => True) (fun _ U o U' => ∃ v L, o = .returned v ∧ Qc v U'.heap L ∧ FrameEnd U o U' L rm.cells rm.slots)) {W : Nat} (hf : rm.frames + 1 ≤ R.frames) (hl : W + (maxL + 11) + rm.locals ≤ R.locals) (hc : cells + rm.cells ≤ R.cells) (hsl : slots + rm.slots ≤ R.slots) {pc n : Nat} {Ls : Array Slot} (hsize : Ls.size = c.maxLocals) {argsL rest : List Value} {ps : List FieldType} {r : Option FieldType} (hpd : parseMethodDescriptor y.desc = some ⟨ps, r⟩) (hlen : argsL.length = ps.length) {a : Addr} (has : (.ref a :: argsL).toArray = as') (hW : 0 + (rest.map fun v => v.category).sum ≤ W) (hd : decode c.code pc = .ok (.invokespecial index, 3)) (hn : pc + 3 = n) {st : List Value} (hst : st = argsL.reverse ++ .ref a :: rest)
    (k : ∀ v T' h' L', Stand p l e R s m args below meth c T' (locs ++ L') (cells + rm.cells) (slots + rm.slots) → T'.heap = h' → Qc v h' L' → Ends p e below s K J Q (T'.setTop (mkF m n Ls (v.toList ++ rest)))) : Ends p e below s K J Q (T.setTop (mkF m pc Ls st)) := by
  subst hn
  obtain ⟨v, _, ⟨T18, L18, k18, n18⟩, -, X18, ⟨Lc18, hQ18, l18, y18, z18⟩, st18⟩ := X.specialBack hx hy1 hown (mvT hZ wl) (mvT hZ wi) (mvT hZ wc) hy (backOf (W := W) hM hZ wc wz hf hl) (g := mkF m pc Ls st) rfl hsize (Steps.refl _) (a := a) (argsL := argsL) (rest := rest) (lenOf hpd hlen) hst hW hd (fun _ _ => ⟨has, eT, hc, hsl⟩)
  dsimp only [Pt.U, Pt.locs, Pt.cells, Pt.slots] at X18 l18 y18 z18 st18 hQ18
  subst l18 y18 z18
  exact Ends.tr st18 (k v T18 _ Lc18 X18 rfl hQ18)
theorem own_callV (X : Stand p l e R s m args below meth c T locs cells slots) (hx : p.tables.exec = Jvm.exec) (hZ : Z.Warmed39 s.vm) {own C : String} {index : Nat} {y : MethodName} {bytes : ByteArray} {maxL : Nat} {ret : Option FieldType} (hown : s.vm.findClass own = some m.cls) (wl : (Cond.methodLink own index y).before a0 Z = true) (wd : (Cond.declares y).before a0 Z = true) (wsel : (Cond.selects C y y).before a0 Z = true) (wi : (Cond.instanceMethod y).before a0 Z = true) (wz : (Cond.initialized y.cls).before a0 Z = true) (wc : (Cond.code y bytes maxL ret).before a0 Z = true) (hy : y.cls ≠ "java/lang/invoke/MethodHandle" ∧ y.cls ≠ "java/lang/invoke/VarHandle") (eT : T.heap = h) {a : Addr} (EX : Exa Z h a C)
    {rm : Room} {Qc : Option Value → Heap → List Loc → Prop} {as' : Array Value} (hM : MetFree l y (head1 [Cond.code y bytes maxL ret] rm) (fun a U => a = as' ∧ Z.Warmed39 U.vm ∧ U.heap = h) (fun _ _ _ _ _ => True) (fun _ U o U' => ∃ v L, o = .returned v ∧ Qc v U'.heap L ∧ FrameEnd U o U' L rm.cells rm.slots)) {W : Nat} (hf : rm.frames + 1 ≤ R.frames) (hl : W + (maxL + 11) + rm.locals ≤ R.locals) (hc : cells + rm.cells ≤ R.cells) (hsl : slots + rm.slots ≤ R.slots) {pc n : Nat} {Ls : Array Slot} (hsize : Ls.size = c.maxLocals) {argsL rest : List Value} {ps : List FieldType} {r : Option FieldType} (hpd : parseMethodDescriptor y.desc = some ⟨ps, r⟩) (hlen : argsL.length = ps.length) (has : (.ref a :: argsL).toArray = as') (hW : 0 + (rest.map fun v => v.category).sum ≤ W) (hd : decode c.code pc = .ok (.invokevirtual index, 3)) (hn : pc + 3 = n) {st : List Value} (hst : st = argsL.reverse ++ .ref a :: rest)
    (k : ∀ v T' h' L', Stand p l e R s m args below meth c T' (locs ++ L') (cells + rm.cells) (slots + rm.slots) → T'.heap = h' → Qc v h' L' → Ends p e below s K J Q (T'.setTop (mkF m n Ls (v.toList ++ rest)))) : Ends p e below s K J Q (T.setTop (mkF m pc Ls st)) := by
  subst hn
  obtain ⟨cq, kq, qa, qb, qc⟩ := isOf hZ eT EX
  obtain ⟨v, _, ⟨T18, L18, k18, n18⟩, -, X18, ⟨Lc18, hQ18, l18, y18, z18⟩, st18⟩ := X.virtualBack hx hown (mvT hZ wl) (mvT hZ wd) (notFace_of_selects (args := #[]) (mvT hZ wsel)) (mvT hZ wsel) (mvT hZ wi) hy (backOf (W := W) hM hZ wc wz hf hl) qa qc (g := mkF m pc Ls st) rfl hsize (Steps.refl _) (argsL := argsL) (rest := rest) (lenOf hpd hlen) hst hW hd (fun _ _ => ⟨has, eT, hc, hsl⟩)
  dsimp only [Pt.U, Pt.locs, Pt.cells, Pt.slots] at X18 l18 y18 z18 st18 hQ18
  subst l18 y18 z18
  exact Ends.tr st18 (k v T18 _ Lc18 X18 rfl hQ18)
theorem own_callP (X : Stand p l e R s m args below meth c T locs cells slots) (hx : p.tables.exec = Jvm.exec) (hZ : Z.Warmed39 s.vm) {own : String} {index : Nat} {y y0 : MethodName} {bytes : ByteArray} {maxL : Nat} {ret : Option FieldType} (hown : s.vm.findClass own = some m.cls) (wl : (Cond.methodLink own index y).before a0 Z = true) (wi : (Cond.instanceMethod y).before a0 Z = true) (wp : (Cond.privateMethod y).before a0 Z = true) (wsel : (Cond.selects y.cls y0 y0).before a0 Z = true) (hcl : y0.cls = y.cls) (wz : (Cond.initialized y.cls).before a0 Z = true) (wc : (Cond.code y bytes maxL ret).before a0 Z = true) (hy : y.cls ≠ "java/lang/invoke/MethodHandle" ∧ y.cls ≠ "java/lang/invoke/VarHandle") (eT : T.heap = h) {a : Addr} {C : String} (EX : Exa Z h a C)
    {rm : Room} {Qc : Option Value → Heap → List Loc → Prop} {as' : Array Value} (hM : MetFree l y (head1 [Cond.code y bytes maxL ret] rm) (fun a U => a = as' ∧ Z.Warmed39 U.vm ∧ U.heap = h) (fun _ _ _ _ _ => True) (fun _ U o U' => ∃ v L, o = .returned v ∧ Qc v U'.heap L ∧ FrameEnd U o U' L rm.cells rm.slots)) {W : Nat} (hf : rm.frames + 1 ≤ R.frames) (hl : W + (maxL + 11) + rm.locals ≤ R.locals) (hc : cells + rm.cells ≤ R.cells) (hsl : slots + rm.slots ≤ R.slots) {pc n : Nat} {Ls : Array Slot} (hsize : Ls.size = c.maxLocals) {argsL rest : List Value} {ps : List FieldType} {r : Option FieldType} (hpd : parseMethodDescriptor y.desc = some ⟨ps, r⟩) (hlen : argsL.length = ps.length) (has : (.ref a :: argsL).toArray = as') (hW : 0 + (rest.map fun v => v.category).sum ≤ W) (hd : decode c.code pc = .ok (.invokevirtual index, 3)) (hn : pc + 3 = n) {st : List Value} (hst : st = argsL.reverse ++ .ref a :: rest)
    (k : ∀ v T' h' L', Stand p l e R s m args below meth c T' (locs ++ L') (cells + rm.cells) (slots + rm.slots) → T'.heap = h' → Qc v h' L' → Ends p e below s K J Q (T'.setTop (mkF m n Ls (v.toList ++ rest)))) : Ends p e below s K J Q (T.setTop (mkF m pc Ls st)) := by
  subst hn
  have hpriv : s.PrivateAt y := Cond.privateMethod_at (mvP hZ wp (args := #[]))
  have wsel' : (Cond.selects y.cls y y).before args s = true := by
    obtain ⟨c1, r1, m1, f1, -, f3, -, mk, f5, f6⟩ := Cond.selects_spec (mvT (args := args) hZ wsel)
    have f7 := findClass_of_methodNamed f3
    rw [hcl] at f7
    exact selects_self_of_private f7 f5 f6 hpriv (mvT hZ wi) hy
  obtain ⟨cq, qa, qb⟩ := EX.cell
  obtain ⟨v, _, ⟨T18, L18, k18, n18⟩, -, X18, ⟨Lc18, hQ18, l18, y18, z18⟩, st18⟩ := X.privateBack hx hown (mvT hZ wl) (mvT hZ wi) wsel' hpriv (mvT hZ wc) hy (backOf (W := W) hM hZ wc wz hf hl) (g := mkF m pc Ls st) rfl hsize (Steps.refl _) (a := a) (cell := cq) (by rw [eT]; exact qa) qb (argsL := argsL) (rest := rest) (lenOf hpd hlen) hst hW hd (fun _ _ => ⟨has, eT, hc, hsl⟩)
  dsimp only [Pt.U, Pt.locs, Pt.cells, Pt.slots] at X18 l18 y18 z18 st18 hQ18
  subst l18 y18 z18
  exact Ends.tr st18 (k v T18 _ Lc18 X18 rfl hQ18)
theorem own_getF (X : Stand p l e R s m args below meth c T locs cells slots) (hx : p.tables.exec = Jvm.exec) (hZ : Z.Warmed39 s.vm) {own C f d : String} {index : Nat} (hown : s.vm.findClass own = some m.cls) (w : (Cond.fieldLink own index C f d).before a0 Z = true) (eT : T.heap = h) {a : Addr} {v : Value} (F : Fld Z h a C f d v) {pc n : Nat} {Ls : Array Slot} {st : List Value} (hd : decode c.code pc = .ok (.getfield index, 3)) (hn : pc + 3 = n)
    (k : ∀ T', Stand p l e R s m args below meth c T' locs cells slots → T'.heap = h → Ends p e below s K J Q (T'.setTop (mkF m n Ls (v :: st)))) : Ends p e below s K J Q (T.setTop (mkF m pc Ls (.ref a :: st))) := by
  subst hn
  obtain ⟨T', X', e', st'⟩ := Jvm.RoadKit.getF X hx hZ hown (host := "") (Or.inl w) Via.refl eT F (g := mkF m pc Ls (.ref a :: st)) rfl rfl hd
  exact Ends.via (fun t h => st' t h) (k T' X' e')
theorem own_putF (X : Stand p l e R s m args below meth c T locs cells slots) (hx : p.tables.exec = Jvm.exec) (hZ : Z.Warmed39 s.vm) {own C f d CC : String} {index kk : Nat} {ty : FieldType} (hown : s.vm.findClass own = some m.cls) (w : (Cond.fieldLink own index C f d).before a0 Z = true) (eT : T.heap = h) {a : Addr} {v old : Value} (F : Fld Z h a C f d old) (EX : Exa Z h a CC) (Lw : (Cond.lays CC C f d).before a0 Z = true ∨ ((Cond.laysFinal CC C f d).before a0 Z = true ∧ own = C ∧ meth.name = "<init>")) (wi : (Cond.instantiable CC kk).before a0 Z = true) (hty : parseFieldDescriptor d = some ty) (hnw : narrow ty v = v) (hft : fits ty v = true) {pc n : Nat} {Ls : Array Slot} {st : List Value} (hd : decode c.code pc = .ok (.putfield index, 3)) (hn : pc + 3 = n)
    (k : ∀ T' h', Stand p l e R s m args below meth c T' (locs ++ [⟨a, Jvm.RoadKit.slotOf Z C f d⟩]) cells slots → T'.heap = h' → Wr h h' a (Jvm.RoadKit.slotOf Z C f d) v → Ends p e below s K J Q (T'.setTop (mkF m n Ls st))) : Ends p e below s K J Q (T.setTop (mkF m pc Ls (v :: .ref a :: st))) := by
  subst hn
  obtain ⟨T', h', X', e', W', st'⟩ := Jvm.RoadKit.putF X hx hZ hown (host := "") (Or.inl w) Via.refl eT F EX Lw wi hty hnw hft (g := mkF m pc Ls (v :: .ref a :: st)) rfl rfl hd
  exact Ends.via (fun t h => st' t h) (k T' h' X' e' W')
theorem own_newO (X : Stand p l e R s m args below meth c T locs cells slots) (hx : p.tables.exec = Jvm.exec) (hZ : Z.Warmed39 s.vm) {own C : String} {index i : Nat} (hown : s.vm.findClass own = some m.cls) (w : (Cond.classLink own index C).before a0 Z = true) (wi : (Cond.instantiable C i).before a0 Z = true) (wz : (Cond.initialized C).before a0 Z = true) (eT : T.heap = h) (hc : cells + 1 ≤ R.cells) (hl : slots + i ≤ R.slots) {pc n : Nat} {Ls : Array Slot} {st : List Value} (hd : decode c.code pc = .ok (.new index, 3)) (hn : pc + 3 = n)
    (k : ∀ T' h' b, Stand p l e R s m args below meth c T' locs (cells + 1) (slots + i) → T'.heap = h' → b = h.size → Ext h h' → Exa Z h' b C → (∀ {O nm d : String} {ty : FieldType}, Laid Z a0 C O nm d → parseFieldDescriptor d = some ty → Fld Z h' b O nm d (defaultValue ty)) → Ends p e below s K J Q (T'.setTop (mkF m n Ls (.ref b :: st)))) : Ends p e below s K J Q (T.setTop (mkF m pc Ls st)) := by
  subst hn
  obtain ⟨T', h', X', e', E', A', D', -, st'⟩ := Jvm.RoadKit.newO X hx hZ hown w wi wz eT (g := mkF m pc Ls st) rfl hd hc hl
  exact Ends.via (fun t h => st' t h) (k T' h' _ X' e' rfl E' A' D')
theorem own_initO (X : Stand p l e R s m args below meth c T locs cells slots) (hx : p.tables.exec = Jvm.exec) (hZ : Z.Warmed39 s.vm) {own : String} {index : Nat} (hown : s.vm.findClass own = some m.cls) (w1 : (Cond.methodLink own index Lib.objectInit).before a0 Z = true) (w2 : (Cond.instanceMethod Lib.objectInit).before a0 Z = true) (w3 : (Cond.code Lib.objectInit ⟨#[0xb1]⟩ 1 none).before a0 Z = true) (eT : T.heap = h) {a : Addr} {pc n : Nat} {Ls : Array Slot} {st : List Value} (hsize : Ls.size = c.maxLocals) (hd : decode c.code pc = .ok (.invokespecial index, 3)) (hn : pc + 3 = n) (hf : 1 ≤ R.frames) {W : Nat} (hW : 0 + (st.map fun v => v.category).sum ≤ W) (hl : W + 12 ≤ R.locals)
    (k : ∀ T', Stand p l e R s m args below meth c T' locs cells slots → T'.heap = h → Ends p e below s K J Q (T'.setTop (mkF m n Ls (st)))) : Ends p e below s K J Q (T.setTop (mkF m pc Ls (.ref a :: st))) := by
  subst hn
  obtain ⟨T', X', e', st'⟩ := Jvm.RoadKit.initO X hx hZ hown w1 w2 w3 eT (g := mkF m pc Ls (.ref a :: st)) rfl hsize rfl hd hf (W := W) hW hl
  exact Ends.via (fun t h => st' t h) (k T' X' e')
/-- an array of n places: the j-th holds f j -/
def VA (Z : State) (h : Heap) (a : Addr) (ty : FieldType) (n : Nat) (f : Nat → Value) : Prop := n < 2 ^ 31 ∧ ∃ c : Cell, Arr Z h a c ty ∧ c.slots.size = n ∧ ∀ j, j < n → c.slots[j]? = some (f j)
theorem VA.ext {h' : Heap} {a : Addr} {ty : FieldType} {n : Nat} {f : Nat → Value} (F : VA Z h a ty n f) (E : Ext h h') : VA Z h' a ty n f := by obtain ⟨q, c, A, r⟩ := F; exact ⟨q, c, A.ext E, r⟩
theorem VA.keep {h' : Heap} {a : Addr} {ty : FieldType} {n : Nat} {f : Nat → Value} {ws : List Addr} (F : VA Z h a ty n f) (K : Keep h h' ws) (q : a ∉ ws) : VA Z h' a ty n f := by obtain ⟨r0, c, A, r⟩ := F; exact ⟨r0, c, ⟨K.2.1 a c A.1 q, A.2⟩, r⟩
theorem VA.wrO {h' : Heap} {a b : Addr} {sl : Nat} {w : Value} {ty : FieldType} {n : Nat} {f : Nat → Value} (F : VA Z h a ty n f) (W : Wr h h' b sl w) (q : a ≠ b) : VA Z h' a ty n f := by obtain ⟨r0, c, A, r⟩ := F; exact ⟨r0, c, A.other W q, r⟩
theorem VA.lt {a : Addr} {ty : FieldType} {n : Nat} {f : Nat → Value} (F : VA Z h a ty n f) : a < h.size := by obtain ⟨-, c, A, -⟩ := F; exact A.lt
theorem VA.set {h' : Heap} {a : Addr} {ty : FieldType} {n i : Nat} {f : Nat → Value} {w : Value} (F : VA Z h a ty n f) (W : Wr h h' a i w) (hi : i < n) : VA Z h' a ty n (fun j => if j = i then w else f j) := by
  obtain ⟨q, c, A, r1, r2⟩ := F
  refine ⟨q, _, A.same W, (sz_set c i w).trans r1, fun j hj => ?_⟩
  by_cases e : j = i
  · subst e
    simp [Cell.setSlot, r1, hj]
  · show (c.setSlot i w).slots[j]? = some (if j = i then w else f j)
    rw [if_neg e, ← r2 j hj]
    exact Array.getElem?_setIfInBounds_ne (fun z => e z.symm)
theorem VA.congr {a : Addr} {ty : FieldType} {n : Nat} {f g : Nat → Value} (F : VA Z h a ty n f) (e : ∀ j, j < n → f j = g j) : VA Z h a ty n g := by obtain ⟨q, c, A, r1, r2⟩ := F; exact ⟨q, c, A, r1, fun j hj => (r2 j hj).trans (congrArg some (e j hj))⟩
def IA (Z : State) (h : Heap) (a : Addr) (n : Nat) (g : Nat → Int32) : Prop := VA Z h a .int n (fun j => .int (g j))
theorem IA.ext {h' : Heap} {a : Addr} {n : Nat} {g : Nat → Int32} (F : IA Z h a n g) (E : Ext h h') : IA Z h' a n g := VA.ext F E
theorem IA.keep {h' : Heap} {a : Addr} {n : Nat} {g : Nat → Int32} {ws : List Addr} (F : IA Z h a n g) (K : Keep h h' ws) (q : a ∉ ws) : IA Z h' a n g := VA.keep F K q
theorem IA.wrO {h' : Heap} {a b : Addr} {sl : Nat} {w : Value} {n : Nat} {g : Nat → Int32} (F : IA Z h a n g) (W : Wr h h' b sl w) (q : a ≠ b) : IA Z h' a n g := VA.wrO F W q
theorem IA.lt {a : Addr} {n : Nat} {g : Nat → Int32} (F : IA Z h a n g) : a < h.size := VA.lt F
theorem IA.set {h' : Heap} {a : Addr} {n i : Nat} {g : Nat → Int32} {x : Int32} (F : IA Z h a n g) (W : Wr h h' a i (.int x)) (hi : i < n) : IA Z h' a n (fun j => if j = i then x else g j) :=
  VA.congr (VA.set F W hi) fun j _ => by by_cases e : j = i <;> simp [e]
theorem IA.congr {a : Addr} {n : Nat} {f g : Nat → Int32} (F : IA Z h a n f) (e : ∀ j, j < n → f j = g j) : IA Z h a n g := VA.congr F fun j hj => by rw [e j hj]
theorem own_clamp {j : Int32} {i : Nat} (hj : j.toInt = (i : Int)) : j.toNatClampNeg = i ∧ ¬ j < 0 := by
  refine ⟨by simp only [Int32.toNatClampNeg, hj]; rfl, fun q => ?_⟩
  rw [Int32.lt_iff_toInt_lt, hj] at q
  have o : (0 : Int32).toInt = 0 := rfl
  omega
theorem own_in {j : Int32} {i n : Nat} {c : Cell} (hj : j.toInt = (i : Int)) (hi : i < n) (S : c.slots.size = n) : ¬ (j < 0 ∨ c.slots.size ≤ j.toNatClampNeg) := by
  obtain ⟨q1, q2⟩ := own_clamp hj
  rintro (z | z)
  · exact q2 z
  · rw [q1, S] at z; omega
theorem own_newI (X : Stand p l e R s m args below meth c T locs cells slots) (hx : p.tables.exec = Jvm.exec) (hZ : Z.Warmed39 s.vm) (w : (Cond.arrayClass .int).before a0 Z = true) (eT : T.heap = h) {N : Int32} {i cap : Nat} (hN : N.toInt = (i : Int)) (hcap : i ≤ cap) (hb : cap * 8 ≤ 536870912) (hc : cells + 1 ≤ R.cells) (hl : slots + cap ≤ R.slots) {pc n : Nat} {Ls : Array Slot} {st : List Value} (hd : decode c.code pc = .ok (.newarray .int, 2)) (hn : pc + 2 = n)
    (k : ∀ T' h' b, Stand p l e R s m args below meth c T' locs (cells + 1) (slots + cap) → T'.heap = h' → b = h.size → Ext h h' → IA Z h' b i (fun _ => 0) → Ends p e below s K J Q (T'.setTop (mkF m n Ls (.ref b :: st)))) : Ends p e below s K J Q (T.setTop (mkF m pc Ls (.int N :: st))) := by
  subst hn
  obtain ⟨q1, q2⟩ := own_clamp hN
  obtain ⟨T', h', cA, X', e', E', A', st'⟩ := newP X hx hZ (aty := .int) w eT (g := mkF m pc Ls (.int N :: st)) rfl hd rfl q2 (cap := cap) (by rw [q1]; exact hcap) hb hc hl
  have b1 := rng32 N
  refine Ends.via (fun t h => st' t h) (k T' h' _ X' e' rfl E' ⟨by omega, _, A', (sz_new _ _ _).trans q1, fun j hj => ?_⟩)
  simp [newA, q1, hj]
  rfl
theorem own_iastore (X : Stand p l e R s m args below meth c T locs cells slots) (hx : p.tables.exec = Jvm.exec) (hZ : Z.Warmed39 s.vm) (eT : T.heap = h) {a : Addr} {N : Nat} {g : Nat → Int32} (F : IA Z h a N g) {j x : Int32} {i : Nat} (hj : j.toInt = (i : Int)) (hi : i < N) {pc n : Nat} {Ls : Array Slot} {st : List Value} (hd : decode c.code pc = .ok (.iastore, 1)) (hn : pc + 1 = n)
    (k : ∀ T' h', Stand p l e R s m args below meth c T' (locs ++ [⟨a, i⟩]) cells slots → T'.heap = h' → Wr h h' a i (.int x) → IA Z h' a N (fun y => if y = i then x else g y) → Ends p e below s K J Q (T'.setTop (mkF m n Ls st))) : Ends p e below s K J Q (T.setTop (mkF m pc Ls (.int x :: .int j :: .ref a :: st))) := by
  subst hn
  have F' := F
  obtain ⟨q, cl, A, S, H⟩ := F
  obtain ⟨q1, q2⟩ := own_clamp hj
  obtain ⟨T', h', X', e', W', st'⟩ := stI X hx hZ eT A (j := j) (own_in hj hi S) (g := mkF m pc Ls (.int x :: .int j :: .ref a :: st)) rfl rfl hd
  rw [q1] at X' W'
  exact Ends.via (fun t h => st' t h) (k T' h' X' e' W' (IA.set F' W' hi))
theorem own_iaload (X : Stand p l e R s m args below meth c T locs cells slots) (hx : p.tables.exec = Jvm.exec) (hZ : Z.Warmed39 s.vm) (eT : T.heap = h) {a : Addr} {N : Nat} {g : Nat → Int32} (F : IA Z h a N g) {j : Int32} {i : Nat} (hj : j.toInt = (i : Int)) (hi : i < N) {pc n : Nat} {Ls : Array Slot} {st : List Value} (hd : decode c.code pc = .ok (.iaload, 1)) (hn : pc + 1 = n)
    (k : Ends p e below s K J Q (T.setTop (mkF m n Ls (.int (g i) :: st)))) : Ends p e below s K J Q (T.setTop (mkF m pc Ls (.int j :: .ref a :: st))) := by
  subst hn
  obtain ⟨q, cl, A, S, H⟩ := F
  obtain ⟨q1, q2⟩ := own_clamp hj
  exact Ends.via (fun t h => X.iaload hx (j := j) (v := .int (g i)) (by rw [eT]; exact A.1) (State.isArrayOf_alike hZ.alike A.2.1) A.2.2 (own_in hj hi S) (by rw [q1]; exact H i hi) (g := mkF m pc Ls (.int j :: .ref a :: st)) rfl rfl hd _ h) k
theorem own_arraylength (X : Stand p l e R s m args below meth c T locs cells slots) (hx : p.tables.exec = Jvm.exec) (hZ : Z.Warmed39 s.vm) (eT : T.heap = h) {a : Addr} {ty : FieldType} {N : Nat} {g : Nat → Value} (F : VA Z h a ty N g) {v : Int32} (hv : v.toInt = (N : Int)) {pc n : Nat} {Ls : Array Slot} {st : List Value} (hd : decode c.code pc = .ok (.arraylength, 1)) (hn : pc + 1 = n)
    (k : Ends p e below s K J Q (T.setTop (mkF m n Ls (.int v :: st)))) : Ends p e below s K J Q (T.setTop (mkF m pc Ls (.ref a :: st))) := by
  subst hn
  obtain ⟨q, cl, A, S, H⟩ := F
  have e1 : cl.slots.size.toInt32 = v := Int32.toInt_inj.mp (by rw [len_toInt (by omega), hv, S])
  rw [← e1] at k
  exact Ends.via (fun t h => X.arraylength hx (by rw [eT]; exact A.1) (State.isArrayOf_alike hZ.alike A.2.1) (g := mkF m pc Ls (.ref a :: st)) rfl rfl hd _ h) k
end Own
def CO (Z : State) (h : Heap) (a : Addr) (v0 : Value) (v1 : Value) (v2 : Int32) : Prop := Exa Z h a "com/example/vernier_search/verniersearch/search/ClausesByDoc" ∧ Fld Z h a "com/example/vernier_search/verniersearch/search/ClausesByDoc" "docs" "[I" v0 ∧ Fld Z h a "com/example/vernier_search/verniersearch/search/ClausesByDoc" "clauses" "[I" v1 ∧ Fld Z h a "com/example/vernier_search/verniersearch/search/ClausesByDoc" "size" "I" (.int v2)
theorem CO.ext {Z : State} {h h' : Heap} {a : Addr} {v0 : Value} {v1 : Value} {v2 : Int32} (F : CO Z h a v0 v1 v2) (E : Ext h h') : CO Z h' a v0 v1 v2 := ⟨F.1.ext E, F.2.1.ext E, F.2.2.1.ext E, F.2.2.2.ext E⟩
theorem CO.keep {Z : State} {h h' : Heap} {a : Addr} {v0 : Value} {v1 : Value} {v2 : Int32} {ws : List Addr} (F : CO Z h a v0 v1 v2) (K : Keep h h' ws) (q : a ∉ ws) : CO Z h' a v0 v1 v2 := ⟨F.1.keep K, F.2.1.keep K q, F.2.2.1.keep K q, F.2.2.2.keep K q⟩
theorem CO.lt {Z : State} {h : Heap} {a : Addr} {v0 : Value} {v1 : Value} {v2 : Int32} (F : CO Z h a v0 v1 v2) : a < h.size := F.1.lt
theorem CO.wrO {Z : State} {h h' : Heap} {a : Addr} {v0 : Value} {v1 : Value} {v2 : Int32} {b : Addr} {sl : Nat} {w : Value} (F : CO Z h a v0 v1 v2) (W : Wr h h' b sl w) (q : a ≠ b) : CO Z h' a v0 v1 v2 := ⟨F.1.wr W, F.2.1.other W (Or.inl q), F.2.2.1.other W (Or.inl q), F.2.2.2.other W (Or.inl q)⟩
theorem CO.set_docs {Z : State} {h h' : Heap} {a : Addr} {v0 : Value} {v1 : Value} {v2 : Int32} {w : Value} {a0 : Array Value} (hw : ∀ d ∈ tables_1, d.before a0 Z = true) (F : CO Z h a v0 v1 v2) (W : Wr h h' a (Jvm.RoadKit.slotOf Z "com/example/vernier_search/verniersearch/search/ClausesByDoc" "docs" "[I") w) : CO Z h' a w v1 v2 := ⟨F.1.wr W, F.2.1.same W, F.2.2.1.other W (Or.inr (slot_ne (a0 := a0) (Or.inr (hw _ (List.mem_of_getElem? (i := 17) rfl))) (Or.inr (hw _ (List.mem_of_getElem? (i := 15) rfl))) (by decide) (t := (.array .int)) (t' := (.array .int)) (by decide) (by decide))), F.2.2.2.other W (Or.inr (slot_ne (a0 := a0) (Or.inl (hw _ (List.mem_of_getElem? (i := 24) rfl))) (Or.inr (hw _ (List.mem_of_getElem? (i := 15) rfl))) (by decide) (t := .int) (t' := (.array .int)) (by decide) (by decide)))⟩
theorem CO.set_clauses {Z : State} {h h' : Heap} {a : Addr} {v0 : Value} {v1 : Value} {v2 : Int32} {w : Value} {a0 : Array Value} (hw : ∀ d ∈ tables_1, d.before a0 Z = true) (F : CO Z h a v0 v1 v2) (W : Wr h h' a (Jvm.RoadKit.slotOf Z "com/example/vernier_search/verniersearch/search/ClausesByDoc" "clauses" "[I") w) : CO Z h' a v0 w v2 := ⟨F.1.wr W, F.2.1.other W (Or.inr (slot_ne (a0 := a0) (Or.inr (hw _ (List.mem_of_getElem? (i := 15) rfl))) (Or.inr (hw _ (List.mem_of_getElem? (i := 17) rfl))) (by decide) (t := (.array .int)) (t' := (.array .int)) (by decide) (by decide))), F.2.2.1.same W, F.2.2.2.other W (Or.inr (slot_ne (a0 := a0) (Or.inl (hw _ (List.mem_of_getElem? (i := 24) rfl))) (Or.inr (hw _ (List.mem_of_getElem? (i := 17) rfl))) (by decide) (t := .int) (t' := (.array .int)) (by decide) (by decide)))⟩
theorem CO.set_size {Z : State} {h h' : Heap} {a : Addr} {v0 : Value} {v1 : Value} {v2 : Int32} {w : Int32} {a0 : Array Value} (hw : ∀ d ∈ tables_1, d.before a0 Z = true) (F : CO Z h a v0 v1 v2) (W : Wr h h' a (Jvm.RoadKit.slotOf Z "com/example/vernier_search/verniersearch/search/ClausesByDoc" "size" "I") (.int w)) : CO Z h' a v0 v1 w := ⟨F.1.wr W, F.2.1.other W (Or.inr (slot_ne (a0 := a0) (Or.inr (hw _ (List.mem_of_getElem? (i := 15) rfl))) (Or.inl (hw _ (List.mem_of_getElem? (i := 24) rfl))) (by decide) (t := (.array .int)) (t' := .int) (by decide) (by decide))), F.2.2.1.other W (Or.inr (slot_ne (a0 := a0) (Or.inr (hw _ (List.mem_of_getElem? (i := 17) rfl))) (Or.inl (hw _ (List.mem_of_getElem? (i := 24) rfl))) (by decide) (t := (.array .int)) (t' := .int) (by decide) (by decide))), F.2.2.2.same W⟩
theorem own_inj {a b : Int32} (h : a.toInt = b.toInt) : a = b := Int32.toInt_inj.mp h
/-- the object at a, its two arrays of three places each -/
def CB (Z : State) (h : Heap) (a d c : Addr) (sz : Int32) (g1 g2 : Nat → Int32) : Prop := CO Z h a (.ref d) (.ref c) sz ∧ IA Z h d 3 g1 ∧ IA Z h c 3 g2
def NE3 (n0 : Nat) (a d c : Addr) : Prop := n0 ≤ a ∧ n0 ≤ d ∧ n0 ≤ c ∧ a ≠ d ∧ a ≠ c ∧ d ≠ c
def Z0in (g : Nat → Int32) (k : Nat) : Prop := ∃ j, j < k ∧ g j = 0
def Hole (g : Nat → Int32) (k i : Nat) (c : Int32) : Prop := (∃ j, j < k ∧ j ≠ i ∧ g j = 0) ∨ c = 0
theorem Hole.step {g : Nat → Int32} {k i i' : Nat} {c : Int32} (h : Hole g k i c) (hi : i < k) (hne : i' ≠ i) : Hole (fun y => if y = i then g i' else g y) k i' c := by
  rcases h with ⟨j, h1, h2, h3⟩ | h
  · by_cases e : j = i'
    · subst e
      exact Or.inl ⟨i, hi, Ne.symm hne, by simp [h3]⟩
    · exact Or.inl ⟨j, h1, e, by simp [h2, h3]⟩
  · exact Or.inr h
theorem Hole.done {g : Nat → Int32} {k i : Nat} {c : Int32} (h : Hole g k i c) (hi : i < k) : Z0in (fun y => if y = i then c else g y) k := by
  rcases h with ⟨j, h1, h2, h3⟩ | h
  · exact ⟨j, h1, by simp [h2, h3]⟩
  · exact ⟨i, hi, by simp [h]⟩
theorem own_half {q : Int32} {i : Nat} (h : q.toInt = (i : Int)) (h0 : 0 < i) : (((q - (1 : Int32)).toUInt32 >>> ((1 : Int32) &&& 31).toUInt32).toInt32).toInt = (((i - 1) / 2 : Nat) : Int) := by
  have e1 : (q - 1).toInt = (i : Int) - 1 := by
    have := c_isub q 1
    have r := rng32 (q - 1)
    have r2 := rng32 q
    have o : (1 : Int32).toInt = 1 := rfl
    omega
  have r := rng32 (q - 1)
  rw [c_iushr (q - 1) 1 1 (by decide) (by decide), e1]
  omega
theorem own_child {q : Int32} {i : Nat} (h : q.toInt = (i : Int)) (h0 : i < 100) : ((2 : Int32) * q + (1 : Int32)).toInt = ((2 * i + 1 : Nat) : Int) := by
  have o : (1 : Int32).toInt = 1 := rfl
  have o2 : (2 : Int32).toInt = 2 := rfl
  have a1 := c_imul 2 q
  have r1 := rng32 (2 * q)
  have a2 := c_iadd (2 * q) 1
  have r2 := rng32 (2 * q + 1)
  rw [o2] at a1
  omega
theorem own_add1 {q : Int32} {i : Nat} (h : q.toInt = (i : Int)) (h0 : i < 100) : (q + (1 : Int32)).toInt = ((i + 1 : Nat) : Int) := by
  have o : (1 : Int32).toInt = 1 := rfl
  have a1 := c_iadd q 1
  have r1 := rng32 (q + 1)
  omega
theorem own_sub1 {q : Int32} {i : Nat} (h : q.toInt = (i : Int)) (h0 : 0 < i) : (q - (1 : Int32)).toInt = ((i - 1 : Nat) : Int) := by
  have o : (1 : Int32).toInt = 1 := rfl
  have a1 := c_isub q 1
  have r1 := rng32 (q - 1)
  have r2 := rng32 q
  omega
theorem d1_0 : decode jdk_29_method_69_code 0 = .ok (.iload_n 0, 1) := by decide +kernel
theorem d1_1 : decode jdk_29_method_69_code 1 = .ok (.iload_n 1, 1) := by decide +kernel
theorem d1_2 : decode jdk_29_method_69_code 2 = .ok (.if_icmp .gt 7, 3) := by decide +kernel
theorem d1_5 : decode jdk_29_method_69_code 5 = .ok (.iload_n 0, 1) := by decide +kernel
theorem d1_6 : decode jdk_29_method_69_code 6 = .ok (.goto 4, 3) := by decide +kernel
theorem d1_9 : decode jdk_29_method_69_code 9 = .ok (.iload_n 1, 1) := by decide +kernel
theorem d1_10 : decode jdk_29_method_69_code 10 = .ok (.ireturn, 1) := by decide +kernel
theorem pn_1 : plainFor (⟨"java/lang/Math", "min", "(II)I"⟩ : MethodName) = true := by first | exact plainFor_of_name (by first | (simp [plainName, overriddenIn]; done) | decide +kernel) | decide +kernel
theorem ef_1 (m : MethodId) (p1 : Int32) (p2 : Int32) : entryFrame m #[(.int p1), (.int p2)] 2 = mkF m 0 #[.val (.int p1), .val (.int p2)] [] := by first | rfl | (simp [entryFrame, mkF, argsToLocals, Value.category]; done)
theorem pd_1 : parseMethodDescriptor "(II)I" = some ⟨[.int, .int], some .int⟩ := by decide +kernel
def Q1 (Z : State) (p1 : Int32) (p2 : Int32)  (h0 : Heap) (n0 : Nat) (v : Option Value) (h : Heap) (L : List Loc) : Prop := v = some (.int (if p2 < p1 then p2 else p1)) ∧ Fr n0 L ∧ h0 = h
theorem rm1 (l : Launch) (Z : State) (a0 : Array Value) (hw : ∀ d ∈ tables_1, d.before a0 Z = true) (ws : List Jvm.Cond) (p1 : Int32) (p2 : Int32)  (h0 : Heap) (n0 : Nat) (Z0 : n0 ≤ h0.size)  :
    MetFree l (⟨"java/lang/Math", "min", "(II)I"⟩ : MethodName) (head1 (Jvm.Cond.code (⟨"java/lang/Math", "min", "(II)I"⟩ : MethodName) jdk_29_method_69_code 2 (some .int) :: ws) ({ frames := 0, cells := 0, slots := 0, locals := 0 } : Room)) (fun a U => a = #[(.int p1), (.int p2)] ∧ Z.Warmed39 U.vm ∧ U.heap = h0) (fun _ _ _ _ _ => True) (fun _ U o U' => ∃ v L, o = .returned v ∧ (Q1 Z p1 p2  h0 n0) v U'.heap L ∧ FrameEnd U o U' L ({ frames := 0, cells := 0, slots := 0, locals := 0 } : Room).cells ({ frames := 0, cells := 0, slots := 0, locals := 0 } : Room).slots) := by
  refine MetFree.of_bodySF pn_1 hisR ?_
  intro p e s m args below meth c s₁ Bd hml0 hP hK
  obtain ⟨rfl, hZ, hh⟩ := hP
  have hx := Bd.exec
  have hby := Bd.bytes
  have hml : c.maxLocals = 2 := hml0
  have hown : s.vm.findClass "java/lang/Math" = some m.cls := findClass_of_methodNamed Bd.named
  have hnm := (name_of_methodNamed Bd.named Bd.method).1
  have X0 : Stand p l e ({ frames := 0, cells := 0, slots := 0, locals := 0 } : Room) s m #[(.int p1), (.int p2)] below meth c s₁ [] 0 0 := Stand.of_body Bd
  have e0 : s₁.heap = h0 := by rw [← hh, Bd.state]; rfl
  have N0 := Fr.nil n0
  have lk : meth.locks = false := BodyLoose.notSynchronized Bd
  have hret := Bd.returns
  show Ends p e below s ({ frames := 0, cells := 0, slots := 0, locals := 0 } : Room).cells ({ frames := 0, cells := 0, slots := 0, locals := 0 } : Room).slots (Q1 Z p1 p2  h0 n0) (s₁.setTop (entryFrame m #[(.int p1), (.int p2)] 2))
  refine Ends.cast (ef_1 m p1 p2) ?_
  refine own_iloadN (n := 1) X0 hx (hb hby d1_0) rfl rfl ?_
  refine own_iloadN (n := 2) X0 hx (hb hby d1_1) rfl rfl ?_
  by_cases c2 : p2 < p1
  · refine own_icmpYes (n := 9) X0 hx (hb hby d1_2) (Jvm.Free.XT.ii_gt_t c2) (by decide) (by decide) ?_
    refine own_iloadN (n := 10) X0 hx (hb hby d1_9) rfl rfl ?_
    refine own_retI X0 hx lk hret (hb hby d1_10) (by decide) (by decide) ?_
    rw [e0]
    exact ⟨by rw [if_pos c2], N0, rfl⟩
  · refine own_icmpNo (n := 5) X0 hx (hb hby d1_2) (Jvm.Free.XT.ii_gt_f c2) rfl ?_
    refine own_iloadN (n := 6) X0 hx (hb hby d1_5) rfl rfl ?_
    refine own_goto (n := 10) X0 hx (hb hby d1_6) (by decide) (by decide) ?_
    refine own_retI X0 hx lk hret (hb hby d1_10) (by decide) (by decide) ?_
    rw [e0]
    exact ⟨by rw [if_neg c2], N0, rfl⟩
theorem d2_0 : decode prog_60_method_1_code 0 = .ok (.aload_n 0, 1) := by decide +kernel
theorem d2_1 : decode prog_60_method_1_code 1 = .ok (.invokespecial 1, 3) := by decide +kernel
theorem d2_4 : decode prog_60_method_1_code 4 = .ok (.aload_n 0, 1) := by decide +kernel
theorem d2_5 : decode prog_60_method_1_code 5 = .ok (.iload_n 1, 1) := by decide +kernel
theorem d2_6 : decode prog_60_method_1_code 6 = .ok (.newarray .int, 2) := by decide +kernel
theorem d2_8 : decode prog_60_method_1_code 8 = .ok (.putfield 7, 3) := by decide +kernel
theorem d2_11 : decode prog_60_method_1_code 11 = .ok (.aload_n 0, 1) := by decide +kernel
theorem d2_12 : decode prog_60_method_1_code 12 = .ok (.iload_n 1, 1) := by decide +kernel
theorem d2_13 : decode prog_60_method_1_code 13 = .ok (.newarray .int, 2) := by decide +kernel
theorem d2_15 : decode prog_60_method_1_code 15 = .ok (.putfield 13, 3) := by decide +kernel
theorem d2_18 : decode prog_60_method_1_code 18 = .ok (.return_, 1) := by decide +kernel
theorem pn_2 : plainFor (⟨"com/example/vernier_search/verniersearch/search/ClausesByDoc", "<init>", "(I)V"⟩ : MethodName) = true := by first | exact plainFor_of_name (by first | (simp [plainName, overriddenIn]; done) | decide +kernel) | decide +kernel
theorem ef_2 (m : MethodId) (a1 : Addr) (p2 : Int32) : entryFrame m #[(.ref a1), (.int p2)] 2 = mkF m 0 #[.val (.ref a1), .val (.int p2)] [] := by first | rfl | (simp [entryFrame, mkF, argsToLocals, Value.category]; done)
theorem pd_2 : parseMethodDescriptor "(I)V" = some ⟨[.int], none⟩ := by decide +kernel
def Q2 (Z : State) (a1 : Addr) (p2 : Int32)  (h0 : Heap) (n0 : Nat) (v : Option Value) (h : Heap) (L : List Loc) : Prop := ∃ dA cA, v = none ∧ Fr n0 L ∧ Keep h0 h [a1] ∧ NE3 n0 a1 dA cA ∧ CB Z h a1 dA cA 0 (fun _ => 0) (fun _ => 0)
theorem rm2 (l : Launch) (Z : State) (a0 : Array Value) (hw : ∀ d ∈ tables_1, d.before a0 Z = true) (ws : List Jvm.Cond) (a1 : Addr) (p2 : Int32)  (h0 : Heap) (n0 : Nat) (Z0 : n0 ≤ h0.size) (F0 : CO Z h0 a1 .null .null 0) (nb : n0 ≤ a1) (hp2 : p2.toInt = ((3 : Nat) : Int)) :
    MetFree l (⟨"com/example/vernier_search/verniersearch/search/ClausesByDoc", "<init>", "(I)V"⟩ : MethodName) (head1 (Jvm.Cond.code (⟨"com/example/vernier_search/verniersearch/search/ClausesByDoc", "<init>", "(I)V"⟩ : MethodName) prog_60_method_1_code 2 (none) :: ws) ({ frames := 1, cells := 2, slots := 6, locals := 12 } : Room)) (fun a U => a = #[(.ref a1), (.int p2)] ∧ Z.Warmed39 U.vm ∧ U.heap = h0) (fun _ _ _ _ _ => True) (fun _ U o U' => ∃ v L, o = .returned v ∧ (Q2 Z a1 p2  h0 n0) v U'.heap L ∧ FrameEnd U o U' L ({ frames := 1, cells := 2, slots := 6, locals := 12 } : Room).cells ({ frames := 1, cells := 2, slots := 6, locals := 12 } : Room).slots) := by
  refine MetFree.of_bodySF pn_2 hisR ?_
  intro p e s m args below meth c s₁ Bd hml0 hP hK
  obtain ⟨rfl, hZ, hh⟩ := hP
  have hx := Bd.exec
  have hby := Bd.bytes
  have hml : c.maxLocals = 2 := hml0
  have hown : s.vm.findClass "com/example/vernier_search/verniersearch/search/ClausesByDoc" = some m.cls := findClass_of_methodNamed Bd.named
  have hnm := (name_of_methodNamed Bd.named Bd.method).1
  have X0 : Stand p l e ({ frames := 1, cells := 2, slots := 6, locals := 12 } : Room) s m #[(.ref a1), (.int p2)] below meth c s₁ [] 0 0 := Stand.of_body Bd
  have e0 : s₁.heap = h0 := by rw [← hh, Bd.state]; rfl
  have N0 := Fr.nil n0
  have lk : meth.locks = false := BodyLoose.notSynchronized Bd
  have hret := Bd.returns
  show Ends p e below s ({ frames := 1, cells := 2, slots := 6, locals := 12 } : Room).cells ({ frames := 1, cells := 2, slots := 6, locals := 12 } : Room).slots (Q2 Z a1 p2  h0 n0) (s₁.setTop (entryFrame m #[(.ref a1), (.int p2)] 2))
  refine Ends.cast (ef_2 m a1 p2) ?_
  refine own_aloadN (n := 1) X0 hx (hb hby d2_0) rfl rfl rfl ?_
  refine own_initO (n := 4) X0 hx hZ hown (hw _ (List.mem_of_getElem? (i := 10) rfl)) (hw _ (List.mem_of_getElem? (i := 11) rfl)) (hw _ (List.mem_of_getElem? (i := 12) rfl)) e0 (by rw [hml]; rfl) (hb hby d2_1) rfl (by decide) (W := 0) (Nat.le_of_eq rfl) (by decide) ?_
  intro T1 X1 e1
  refine own_aloadN (n := 5) X1 hx (hb hby d2_4) rfl rfl rfl ?_
  refine own_iloadN (n := 6) X1 hx (hb hby d2_5) rfl rfl ?_
  refine own_newI (n := 8) X1 hx hZ (hw _ (List.mem_of_getElem? (i := 13) rfl)) e1 (i := 3) (cap := 3) hp2 (Nat.le_refl _) (by decide) (by decide) (by decide) (hb hby d2_6) rfl ?_
  intro T2 h2 b2 X2 e2 g2 E2 A2
  have Z2 : n0 ≤ h2.size := Nat.le_trans Z0 E2.1
  have nb_b2 : n0 ≤ b2 := Nat.le_trans Z0 (Nat.le_of_eq g2.symm)
  have ne_a1_b2 : a1 ≠ b2 := Nat.ne_of_lt (Nat.lt_of_lt_of_le F0.lt (Nat.le_of_eq g2.symm))
  have F2_a1 := F0.ext E2
  have K2 : Keep h0 h2 [a1] := (Keep.refl h0 [a1]).ext E2
  refine own_putF (n := 11) X2 hx hZ hown (hw _ (List.mem_of_getElem? (i := 14) rfl)) e2 F2_a1.2.1 F2_a1.1 (Or.inr ⟨(hw _ (List.mem_of_getElem? (i := 15) rfl)), rfl, hnm⟩) (hw _ (List.mem_of_getElem? (i := 5) rfl)) (ty := (.array .int)) (by decide) rfl rfl (hb hby d2_8) rfl ?_
  intro T3 h3 X3 e3 W3
  have N3 := Fr.snoc X3 N0 nb
  have Z3 : n0 ≤ h3.size := Nat.le_trans Z2 (Keep.of_wr W3).1
  have F3_a1 := F2_a1.set_docs hw W3
  have F3_b2 := A2.wrO W3 (Ne.symm ne_a1_b2)
  have K3 : Keep h0 h3 [a1] := K2.wr W3 (Or.inl (List.mem_of_getElem? (i := 0) rfl))
  refine own_aloadN (n := 12) X3 hx (hb hby d2_11) rfl rfl rfl ?_
  refine own_iloadN (n := 13) X3 hx (hb hby d2_12) rfl rfl ?_
  refine own_newI (n := 15) X3 hx hZ (hw _ (List.mem_of_getElem? (i := 13) rfl)) e3 (i := 3) (cap := 3) hp2 (Nat.le_refl _) (by decide) (by decide) (by decide) (hb hby d2_13) rfl ?_
  intro T4 h4 b4 X4 e4 g4 E4 A4
  have Z4 : n0 ≤ h4.size := Nat.le_trans Z3 E4.1
  have nb_b4 : n0 ≤ b4 := Nat.le_trans Z3 (Nat.le_of_eq g4.symm)
  have ne_a1_b4 : a1 ≠ b4 := Nat.ne_of_lt (Nat.lt_of_lt_of_le F3_a1.lt (Nat.le_of_eq g4.symm))
  have F4_a1 := F3_a1.ext E4
  have ne_b2_b4 : b2 ≠ b4 := Nat.ne_of_lt (Nat.lt_of_lt_of_le F3_b2.lt (Nat.le_of_eq g4.symm))
  have F4_b2 := F3_b2.ext E4
  have K4 : Keep h0 h4 [a1] := K3.ext E4
  refine own_putF (n := 18) X4 hx hZ hown (hw _ (List.mem_of_getElem? (i := 16) rfl)) e4 F4_a1.2.2.1 F4_a1.1 (Or.inr ⟨(hw _ (List.mem_of_getElem? (i := 17) rfl)), rfl, hnm⟩) (hw _ (List.mem_of_getElem? (i := 5) rfl)) (ty := (.array .int)) (by decide) rfl rfl (hb hby d2_15) rfl ?_
  intro T5 h5 X5 e5 W5
  have N5 := Fr.snoc X5 N3 nb
  have Z5 : n0 ≤ h5.size := Nat.le_trans Z4 (Keep.of_wr W5).1
  have F5_a1 := F4_a1.set_clauses hw W5
  have F5_b2 := F4_b2.wrO W5 (Ne.symm ne_a1_b2)
  have F5_b4 := A4.wrO W5 (Ne.symm ne_a1_b4)
  have K5 : Keep h0 h5 [a1] := K4.wr W5 (Or.inl (List.mem_of_getElem? (i := 0) rfl))
  refine own_retV X5 hx lk hret (hb hby d2_18) (by decide) (by decide) ?_
  rw [e5]
  exact ⟨b2, b4, rfl, N5, K5, ⟨nb, nb_b2, nb_b4, ne_a1_b2, ne_a1_b4, ne_b2_b4⟩, F5_a1, F5_b2, F5_b4⟩
theorem d4_0 : decode prog_60_method_2_code 0 = .ok (.aload_n 0, 1) := by decide +kernel
theorem d4_1 : decode prog_60_method_2_code 1 = .ok (.getfield 16, 3) := by decide +kernel
theorem d4_4 : decode prog_60_method_2_code 4 = .ok (.ifCond .ne 7, 3) := by decide +kernel
theorem d4_7 : decode prog_60_method_2_code 7 = .ok (.iconst 1, 1) := by decide +kernel
theorem d4_8 : decode prog_60_method_2_code 8 = .ok (.goto 4, 3) := by decide +kernel
theorem d4_11 : decode prog_60_method_2_code 11 = .ok (.iconst 0, 1) := by decide +kernel
theorem d4_12 : decode prog_60_method_2_code 12 = .ok (.ireturn, 1) := by decide +kernel
theorem pn_4 : plainFor (⟨"com/example/vernier_search/verniersearch/search/ClausesByDoc", "isEmpty", "()Z"⟩ : MethodName) = true := by first | exact plainFor_of_name (by first | (simp [plainName, overriddenIn]; done) | decide +kernel) | decide +kernel
theorem ef_4 (m : MethodId) (a1 : Addr) : entryFrame m #[(.ref a1)] 1 = mkF m 0 #[.val (.ref a1)] [] := by first | rfl | (simp [entryFrame, mkF, argsToLocals, Value.category]; done)
theorem pd_4 : parseMethodDescriptor "()Z" = some ⟨[], some .boolean⟩ := by decide +kernel
def Q4 (Z : State) (a1 : Addr) (dA : Addr) (cA : Addr) (sz : Int32) (g1 : Nat → Int32) (g2 : Nat → Int32) (h0 : Heap) (n0 : Nat) (v : Option Value) (h : Heap) (L : List Loc) : Prop := v = some (.int (if sz = 0 then 1 else 0)) ∧ Fr n0 L ∧ h0 = h
theorem rm4 (l : Launch) (Z : State) (a0 : Array Value) (hw : ∀ d ∈ tables_1, d.before a0 Z = true) (ws : List Jvm.Cond) (a1 : Addr) (dA : Addr) (cA : Addr) (sz : Int32) (g1 : Nat → Int32) (g2 : Nat → Int32) (h0 : Heap) (n0 : Nat) (Z0 : n0 ≤ h0.size) (F0 : CB Z h0 a1 dA cA sz g1 g2) (hne : NE3 n0 a1 dA cA) :
    MetFree l (⟨"com/example/vernier_search/verniersearch/search/ClausesByDoc", "isEmpty", "()Z"⟩ : MethodName) (head1 (Jvm.Cond.code (⟨"com/example/vernier_search/verniersearch/search/ClausesByDoc", "isEmpty", "()Z"⟩ : MethodName) prog_60_method_2_code 1 (some .boolean) :: ws) ({ frames := 0, cells := 0, slots := 0, locals := 0 } : Room)) (fun a U => a = #[(.ref a1)] ∧ Z.Warmed39 U.vm ∧ U.heap = h0) (fun _ _ _ _ _ => True) (fun _ U o U' => ∃ v L, o = .returned v ∧ (Q4 Z a1 dA cA sz g1 g2 h0 n0) v U'.heap L ∧ FrameEnd U o U' L ({ frames := 0, cells := 0, slots := 0, locals := 0 } : Room).cells ({ frames := 0, cells := 0, slots := 0, locals := 0 } : Room).slots) := by
  refine MetFree.of_bodySF pn_4 hisR ?_
  intro p e s m args below meth c s₁ Bd hml0 hP hK
  obtain ⟨rfl, hZ, hh⟩ := hP
  have hx := Bd.exec
  have hby := Bd.bytes
  have hml : c.maxLocals = 1 := hml0
  have hown : s.vm.findClass "com/example/vernier_search/verniersearch/search/ClausesByDoc" = some m.cls := findClass_of_methodNamed Bd.named
  have hnm := (name_of_methodNamed Bd.named Bd.method).1
  have X0 : Stand p l e ({ frames := 0, cells := 0, slots := 0, locals := 0 } : Room) s m #[(.ref a1)] below meth c s₁ [] 0 0 := Stand.of_body Bd
  have e0 : s₁.heap = h0 := by rw [← hh, Bd.state]; rfl
  have N0 := Fr.nil n0
  have lk : meth.locks = false := BodyLoose.notSynchronized Bd
  have hret := Bd.returns
  show Ends p e below s ({ frames := 0, cells := 0, slots := 0, locals := 0 } : Room).cells ({ frames := 0, cells := 0, slots := 0, locals := 0 } : Room).slots (Q4 Z a1 dA cA sz g1 g2 h0 n0) (s₁.setTop (entryFrame m #[(.ref a1)] 1))
  refine Ends.cast (ef_4 m a1) ?_
  refine own_aloadN (n := 1) X0 hx (hb hby d4_0) rfl rfl rfl ?_
  refine own_getF (n := 4) X0 hx hZ hown (hw _ (List.mem_of_getElem? (i := 23) rfl)) e0 F0.1.2.2.2 (hb hby d4_1) rfl ?_
  intro T1 X1 e1
  by_cases c4 : sz = 0
  · refine own_ifNo (n := 7) X1 hx (hb hby d4_4) (Jvm.Free.XT.i0_ne_f c4) rfl ?_
    refine own_iconst (n := 8) X1 hx (1 : Int32) (hb hby d4_7) rfl rfl ?_
    refine own_goto (n := 12) X1 hx (hb hby d4_8) (by decide) (by decide) ?_
    refine own_retN X1 hx lk hret (by simp) (hb hby d4_12) (by decide) (by decide) ?_
    rw [e1]
    exact ⟨by rw [if_pos c4]; rfl, N0, rfl⟩
  · refine own_ifYes (n := 11) X1 hx (hb hby d4_4) (Jvm.Free.XT.i0_ne_t c4) (by decide) (by decide) ?_
    refine own_iconst (n := 12) X1 hx (0 : Int32) (hb hby d4_11) rfl rfl ?_
    refine own_retN X1 hx lk hret (by simp) (hb hby d4_12) (by decide) (by decide) ?_
    rw [e1]
    exact ⟨by rw [if_neg c4]; rfl, N0, rfl⟩
theorem d6_0 : decode prog_60_method_8_code 0 = .ok (.iload_n 1, 1) := by decide +kernel
theorem d6_1 : decode prog_60_method_8_code 1 = .ok (.istore 4, 2) := by decide +kernel
theorem d6_3 : decode prog_60_method_8_code 3 = .ok (.iload 4, 2) := by decide +kernel
theorem d6_5 : decode prog_60_method_8_code 5 = .ok (.ifCond .le 61, 3) := by decide +kernel
theorem d6_8 : decode prog_60_method_8_code 8 = .ok (.aload_n 0, 1) := by decide +kernel
theorem d6_9 : decode prog_60_method_8_code 9 = .ok (.getfield 7, 3) := by decide +kernel
theorem d6_12 : decode prog_60_method_8_code 12 = .ok (.iload 4, 2) := by decide +kernel
theorem d6_14 : decode prog_60_method_8_code 14 = .ok (.iconst 1, 1) := by decide +kernel
theorem d6_15 : decode prog_60_method_8_code 15 = .ok (.isub, 1) := by decide +kernel
theorem d6_16 : decode prog_60_method_8_code 16 = .ok (.iconst 1, 1) := by decide +kernel
theorem d6_17 : decode prog_60_method_8_code 17 = .ok (.iushr, 1) := by decide +kernel
theorem d6_18 : decode prog_60_method_8_code 18 = .ok (.iaload, 1) := by decide +kernel
theorem d6_19 : decode prog_60_method_8_code 19 = .ok (.iload_n 3, 1) := by decide +kernel
theorem d6_20 : decode prog_60_method_8_code 20 = .ok (.if_icmp .le 46, 3) := by decide +kernel
theorem d6_23 : decode prog_60_method_8_code 23 = .ok (.iload 4, 2) := by decide +kernel
theorem d6_25 : decode prog_60_method_8_code 25 = .ok (.iconst 1, 1) := by decide +kernel
theorem d6_26 : decode prog_60_method_8_code 26 = .ok (.isub, 1) := by decide +kernel
theorem d6_27 : decode prog_60_method_8_code 27 = .ok (.iconst 1, 1) := by decide +kernel
theorem d6_28 : decode prog_60_method_8_code 28 = .ok (.iushr, 1) := by decide +kernel
theorem d6_29 : decode prog_60_method_8_code 29 = .ok (.istore 5, 2) := by decide +kernel
theorem d6_31 : decode prog_60_method_8_code 31 = .ok (.aload_n 0, 1) := by decide +kernel
theorem d6_32 : decode prog_60_method_8_code 32 = .ok (.getfield 7, 3) := by decide +kernel
theorem d6_35 : decode prog_60_method_8_code 35 = .ok (.iload 4, 2) := by decide +kernel
theorem d6_37 : decode prog_60_method_8_code 37 = .ok (.aload_n 0, 1) := by decide +kernel
theorem d6_38 : decode prog_60_method_8_code 38 = .ok (.getfield 7, 3) := by decide +kernel
theorem d6_41 : decode prog_60_method_8_code 41 = .ok (.iload 5, 2) := by decide +kernel
theorem d6_43 : decode prog_60_method_8_code 43 = .ok (.iaload, 1) := by decide +kernel
theorem d6_44 : decode prog_60_method_8_code 44 = .ok (.iastore, 1) := by decide +kernel
theorem d6_45 : decode prog_60_method_8_code 45 = .ok (.aload_n 0, 1) := by decide +kernel
theorem d6_46 : decode prog_60_method_8_code 46 = .ok (.getfield 13, 3) := by decide +kernel
theorem d6_49 : decode prog_60_method_8_code 49 = .ok (.iload 4, 2) := by decide +kernel
theorem d6_51 : decode prog_60_method_8_code 51 = .ok (.aload_n 0, 1) := by decide +kernel
theorem d6_52 : decode prog_60_method_8_code 52 = .ok (.getfield 13, 3) := by decide +kernel
theorem d6_55 : decode prog_60_method_8_code 55 = .ok (.iload 5, 2) := by decide +kernel
theorem d6_57 : decode prog_60_method_8_code 57 = .ok (.iaload, 1) := by decide +kernel
theorem d6_58 : decode prog_60_method_8_code 58 = .ok (.iastore, 1) := by decide +kernel
theorem d6_59 : decode prog_60_method_8_code 59 = .ok (.iload 5, 2) := by decide +kernel
theorem d6_61 : decode prog_60_method_8_code 61 = .ok (.istore 4, 2) := by decide +kernel
theorem d6_63 : decode prog_60_method_8_code 63 = .ok (.goto (-60), 3) := by decide +kernel
theorem d6_66 : decode prog_60_method_8_code 66 = .ok (.aload_n 0, 1) := by decide +kernel
theorem d6_67 : decode prog_60_method_8_code 67 = .ok (.getfield 7, 3) := by decide +kernel
theorem d6_70 : decode prog_60_method_8_code 70 = .ok (.iload 4, 2) := by decide +kernel
theorem d6_72 : decode prog_60_method_8_code 72 = .ok (.iload_n 3, 1) := by decide +kernel
theorem d6_73 : decode prog_60_method_8_code 73 = .ok (.iastore, 1) := by decide +kernel
theorem d6_74 : decode prog_60_method_8_code 74 = .ok (.aload_n 0, 1) := by decide +kernel
theorem d6_75 : decode prog_60_method_8_code 75 = .ok (.getfield 13, 3) := by decide +kernel
theorem d6_78 : decode prog_60_method_8_code 78 = .ok (.iload 4, 2) := by decide +kernel
theorem d6_80 : decode prog_60_method_8_code 80 = .ok (.iload_n 2, 1) := by decide +kernel
theorem d6_81 : decode prog_60_method_8_code 81 = .ok (.iastore, 1) := by decide +kernel
theorem d6_82 : decode prog_60_method_8_code 82 = .ok (.return_, 1) := by decide +kernel
theorem pn_6 : plainFor (⟨"com/example/vernier_search/verniersearch/search/ClausesByDoc", "siftUp", "(III)V"⟩ : MethodName) = true := by first | exact plainFor_of_name (by first | (simp [plainName, overriddenIn]; done) | decide +kernel) | decide +kernel
theorem ef_6 (m : MethodId) (a1 : Addr) (p2 : Int32) (p3 : Int32) (p4 : Int32) : entryFrame m #[(.ref a1), (.int p2), (.int p3), (.int p4)] 6 = mkF m 0 #[.val (.ref a1), .val (.int p2), .val (.int p3), .val (.int p4), .unset, .unset] [] := by first | rfl | (simp [entryFrame, mkF, argsToLocals, Value.category]; done)
theorem pd_6 : parseMethodDescriptor "(III)V" = some ⟨[.int, .int, .int], none⟩ := by decide +kernel
def Q6 (Z : State) (a1 : Addr) (p2 : Int32) (p3 : Int32) (p4 : Int32) (dA : Addr) (cA : Addr) (sz : Int32) (g1 : Nat → Int32) (g2 : Nat → Int32) (i : Nat) (k : Nat) (h0 : Heap) (n0 : Nat) (v : Option Value) (h : Heap) (L : List Loc) : Prop := ∃ g1' g2', v = none ∧ Fr n0 L ∧ Keep h0 h [dA, cA] ∧ CB Z h a1 dA cA sz g1' g2' ∧ (Hole g2 k i p3 → Z0in g2' k)
theorem own_st5 {v0 v1 v2 v3 v4 : Value} {o : Slot} {v : Int32} (h : One o) (q4 : v4.category = 1) : storeLocals #[.val v0, .val v1, .val v2, .val v3, .val v4, o] 5 (.int v) = some #[.val v0, .val v1, .val v2, .val v3, .val v4, .val (.int v)] := by
  rcases h with rfl | ⟨w, rfl, hw⟩
  · cases v4 <;> first | rfl | (simp [Value.category] at q4)
  · cases v4 <;> cases w <;> first | rfl | (simp [Value.category] at q4 hw)
theorem rm6 (l : Launch) (Z : State) (a0 : Array Value) (hw : ∀ d ∈ tables_1, d.before a0 Z = true) (ws : List Jvm.Cond) (a1 : Addr) (p2 : Int32) (p3 : Int32) (p4 : Int32) (dA : Addr) (cA : Addr) (sz : Int32) (g1 : Nat → Int32) (g2 : Nat → Int32) (i : Nat) (k : Nat) (h0 : Heap) (n0 : Nat) (Z0 : n0 ≤ h0.size) (F0 : CB Z h0 a1 dA cA sz g1 g2) (hne : NE3 n0 a1 dA cA) (hi : p2.toInt = (i : Int)) (hik : i < k) (hk3 : k ≤ 3) :
    MetFree l (⟨"com/example/vernier_search/verniersearch/search/ClausesByDoc", "siftUp", "(III)V"⟩ : MethodName) (head1 (Jvm.Cond.code (⟨"com/example/vernier_search/verniersearch/search/ClausesByDoc", "siftUp", "(III)V"⟩ : MethodName) prog_60_method_8_code 6 (none) :: ws) ({ frames := 0, cells := 0, slots := 0, locals := 0 } : Room)) (fun a U => a = #[(.ref a1), (.int p2), (.int p3), (.int p4)] ∧ Z.Warmed39 U.vm ∧ U.heap = h0) (fun _ _ _ _ _ => True) (fun _ U o U' => ∃ v L, o = .returned v ∧ (Q6 Z a1 p2 p3 p4 dA cA sz g1 g2 i k h0 n0) v U'.heap L ∧ FrameEnd U o U' L ({ frames := 0, cells := 0, slots := 0, locals := 0 } : Room).cells ({ frames := 0, cells := 0, slots := 0, locals := 0 } : Room).slots) := by
  refine MetFree.of_bodySF pn_6 hisR ?_
  intro p e s m args below meth c s₁ Bd hml0 hP hK
  obtain ⟨rfl, hZ, hh⟩ := hP
  have hx := Bd.exec
  have hby := Bd.bytes
  have hml : c.maxLocals = 6 := hml0
  have hown : s.vm.findClass "com/example/vernier_search/verniersearch/search/ClausesByDoc" = some m.cls := findClass_of_methodNamed Bd.named
  have hnm := (name_of_methodNamed Bd.named Bd.method).1
  have X0 : Stand p l e ({ frames := 0, cells := 0, slots := 0, locals := 0 } : Room) s m #[(.ref a1), (.int p2), (.int p3), (.int p4)] below meth c s₁ [] 0 0 := Stand.of_body Bd
  have e0 : s₁.heap = h0 := by rw [← hh, Bd.state]; rfl
  have N0 := Fr.nil n0
  have lk : meth.locks = false := BodyLoose.notSynchronized Bd
  have hret := Bd.returns
  show Ends p e below s ({ frames := 0, cells := 0, slots := 0, locals := 0 } : Room).cells ({ frames := 0, cells := 0, slots := 0, locals := 0 } : Room).slots (Q6 Z a1 p2 p3 p4 dA cA sz g1 g2 i k h0 n0) (s₁.setTop (entryFrame m #[(.ref a1), (.int p2), (.int p3), (.int p4)] 6))
  refine Ends.cast (ef_6 m a1 p2 p3 p4) ?_
  have o0 : (0 : Int32).toInt = 0 := rfl
  have o1 : (1 : Int32).toInt = 1 := rfl
  have o2 : (2 : Int32).toInt = 2 := rfl
  have o3 : (3 : Int32).toInt = 3 := rfl
  have blk66 : ∀ (TB : State) (hB : Heap) (lB : List Loc) (pl : Int32) (s5 : Slot) (j : Nat) (G1 : Nat → Int32) (G2 : Nat → Int32) (XB : Stand p l e ({ frames := 0, cells := 0, slots := 0, locals := 0 } : Room) s m #[(.ref a1), (.int p2), (.int p3), (.int p4)] below meth c TB lB (0) (0)) (eB : TB.heap = hB) (NB : Fr n0 lB) (ZB : n0 ≤ hB.size) (FB : CB Z hB a1 dA cA sz G1 G2) (hpl : pl.toInt = (j : Int)) (hjk : j < k) (hH : Hole g2 k i p3 → Hole G2 k j p3) (KB : Keep h0 hB [dA, cA]), Ends p e below s ({ frames := 0, cells := 0, slots := 0, locals := 0 } : Room).cells ({ frames := 0, cells := 0, slots := 0, locals := 0 } : Room).slots (Q6 Z a1 p2 p3 p4 dA cA sz g1 g2 i k h0 n0) (TB.setTop (mkF m 66 #[.val (.ref a1), .val (.int p2), .val (.int p3), .val (.int p4), .val (.int pl), s5] [])) := by
    intro TB hB lB pl s5 j G1 G2 XB eB NB ZB FB hpl hjk hH KB
    refine own_aloadN (n := 67) XB hx (hb hby d6_66) rfl rfl rfl ?_
    refine own_getF (n := 70) XB hx hZ hown (hw _ (List.mem_of_getElem? (i := 14) rfl)) eB FB.1.2.1 (hb hby d6_67) rfl ?_
    intro T1 X1 e1
    refine own_iload (n := 72) X1 hx (hb hby d6_70) rfl rfl ?_
    refine own_iloadN (n := 73) X1 hx (hb hby d6_72) rfl rfl ?_
    refine own_iastore (n := 74) X1 hx hZ e1 FB.2.1 (i := j) hpl (by omega) (hb hby d6_73) rfl ?_
    intro T2 h2 X2 e2 W2 A2
    have N2 := Fr.snoc X2 NB hne.2.1
    have Z2 : n0 ≤ h2.size := Nat.le_trans ZB (Keep.of_wr W2).1
    have F2_a1 := FB.1.wrO W2 hne.2.2.2.1
    have F2_cA := FB.2.2.wrO W2 (Ne.symm hne.2.2.2.2.2)
    have K2 : Keep h0 h2 [dA, cA] := KB.wr W2 (Or.inl (List.mem_of_getElem? (i := 0) rfl))
    refine own_aloadN (n := 75) X2 hx (hb hby d6_74) rfl rfl rfl ?_
    refine own_getF (n := 78) X2 hx hZ hown (hw _ (List.mem_of_getElem? (i := 16) rfl)) e2 F2_a1.2.2.1 (hb hby d6_75) rfl ?_
    intro T3 X3 e3
    refine own_iload (n := 80) X3 hx (hb hby d6_78) rfl rfl ?_
    refine own_iloadN (n := 81) X3 hx (hb hby d6_80) rfl rfl ?_
    refine own_iastore (n := 82) X3 hx hZ e3 F2_cA (i := j) hpl (by omega) (hb hby d6_81) rfl ?_
    intro T4 h4 X4 e4 W4 A4
    have N4 := Fr.snoc X4 N2 hne.2.2.1
    have Z4 : n0 ≤ h4.size := Nat.le_trans Z2 (Keep.of_wr W4).1
    have F4_a1 := F2_a1.wrO W4 hne.2.2.2.2.1
    have F4_dA := A2.wrO W4 hne.2.2.2.2.2
    have K4 : Keep h0 h4 [dA, cA] := K2.wr W4 (Or.inl (List.mem_of_getElem? (i := 1) rfl))
    refine own_retV X4 hx lk hret (hb hby d6_82) (by decide) (by decide) ?_
    rw [e4]
    exact ⟨_, _, rfl, N4, K4, ⟨F4_a1, F4_dA, A4⟩, fun hq => Hole.done (hH hq) hjk⟩
  have loop : ∀ (j : Nat) (TB : State) (hB : Heap) (lB : List Loc) (pl : Int32) (s5 : Slot) (G1 : Nat → Int32) (G2 : Nat → Int32) (XB : Stand p l e ({ frames := 0, cells := 0, slots := 0, locals := 0 } : Room) s m #[(.ref a1), (.int p2), (.int p3), (.int p4)] below meth c TB lB (0) (0)) (eB : TB.heap = hB) (NB : Fr n0 lB) (ZB : n0 ≤ hB.size) (hs5 : One s5) (FB : CB Z hB a1 dA cA sz G1 G2) (hpl : pl.toInt = (j : Int)) (hjk : j < k) (hH : Hole g2 k i p3 → Hole G2 k j p3) (KB : Keep h0 hB [dA, cA]), Ends p e below s ({ frames := 0, cells := 0, slots := 0, locals := 0 } : Room).cells ({ frames := 0, cells := 0, slots := 0, locals := 0 } : Room).slots (Q6 Z a1 p2 p3 p4 dA cA sz g1 g2 i k h0 n0) (TB.setTop (mkF m 3 #[.val (.ref a1), .val (.int p2), .val (.int p3), .val (.int p4), .val (.int pl), s5] [])) := by
    intro j
    induction j using Nat.strongRecOn with
    | ind j ih =>
      intro TB hB lB pl s5 G1 G2 XB eB NB ZB hs5 FB hpl hjk hH KB
      refine own_iload (n := 5) XB hx (hb hby d6_3) rfl rfl ?_
      by_cases c5 : 0 < pl
      · refine own_ifNo (n := 8) XB hx (hb hby d6_5) (Jvm.Free.XT.i0_le_f c5) rfl ?_
        refine own_aloadN (n := 9) XB hx (hb hby d6_8) rfl rfl rfl ?_
        refine own_getF (n := 12) XB hx hZ hown (hw _ (List.mem_of_getElem? (i := 14) rfl)) eB FB.1.2.1 (hb hby d6_9) rfl ?_
        intro T5 X5 e5
        refine own_iload (n := 14) X5 hx (hb hby d6_12) rfl rfl ?_
        refine own_iconst (n := 15) X5 hx (1 : Int32) (hb hby d6_14) rfl rfl ?_
        refine own_isub (n := 16) X5 hx (hb hby d6_15) rfl ?_
        refine own_iconst (n := 17) X5 hx (1 : Int32) (hb hby d6_16) rfl rfl ?_
        refine own_iushr (n := 18) X5 hx (hb hby d6_17) rfl ?_
        refine own_iaload (n := 19) X5 hx hZ e5 FB.2.1 (i := ((j - 1) / 2)) (own_half hpl (by rw [Int32.lt_iff_toInt_lt] at c5; omega)) (by omega) (hb hby d6_18) rfl ?_
        refine own_iloadN (n := 20) X5 hx (hb hby d6_19) rfl rfl ?_
        by_cases c20 : p4 < (G1 ((j - 1) / 2))
        · refine own_icmpNo (n := 23) X5 hx (hb hby d6_20) (Jvm.Free.XT.ii_le_f c20) rfl ?_
          refine own_iload (n := 25) X5 hx (hb hby d6_23) rfl rfl ?_
          refine own_iconst (n := 26) X5 hx (1 : Int32) (hb hby d6_25) rfl rfl ?_
          refine own_isub (n := 27) X5 hx (hb hby d6_26) rfl ?_
          refine own_iconst (n := 28) X5 hx (1 : Int32) (hb hby d6_27) rfl rfl ?_
          refine own_iushr (n := 29) X5 hx (hb hby d6_28) rfl ?_
          refine own_istore (n := 31) X5 hx (hb hby d6_29) (l' := #[.val (.ref a1), .val (.int p2), .val (.int p3), .val (.int p4), .val (.int pl), .val (.int (((pl - (1 : Int32)).toUInt32 >>> ((1 : Int32) &&& 31).toUInt32).toInt32))]) (own_st5 hs5 rfl) rfl ?_
          show Ends p e below s ({ frames := 0, cells := 0, slots := 0, locals := 0 } : Room).cells ({ frames := 0, cells := 0, slots := 0, locals := 0 } : Room).slots (Q6 Z a1 p2 p3 p4 dA cA sz g1 g2 i k h0 n0) (T5.setTop (mkF m 31 #[.val (.ref a1), .val (.int p2), .val (.int p3), .val (.int p4), .val (.int pl), .val (.int (((pl - (1 : Int32)).toUInt32 >>> ((1 : Int32) &&& 31).toUInt32).toInt32))] []))
          generalize g_pr : (((pl - (1 : Int32)).toUInt32 >>> ((1 : Int32) &&& 31).toUInt32).toInt32) = pr
          have hpr : pr.toInt = (((j - 1) / 2 : Nat) : Int) := by rw [← g_pr]; exact own_half hpl (by rw [Int32.lt_iff_toInt_lt] at c5; omega)
          refine own_aloadN (n := 32) X5 hx (hb hby d6_31) rfl rfl rfl ?_
          refine own_getF (n := 35) X5 hx hZ hown (hw _ (List.mem_of_getElem? (i := 14) rfl)) e5 FB.1.2.1 (hb hby d6_32) rfl ?_
          intro T6 X6 e6
          refine own_iload (n := 37) X6 hx (hb hby d6_35) rfl rfl ?_
          refine own_aloadN (n := 38) X6 hx (hb hby d6_37) rfl rfl rfl ?_
          refine own_getF (n := 41) X6 hx hZ hown (hw _ (List.mem_of_getElem? (i := 14) rfl)) e6 FB.1.2.1 (hb hby d6_38) rfl ?_
          intro T7 X7 e7
          refine own_iload (n := 43) X7 hx (hb hby d6_41) rfl rfl ?_
          refine own_iaload (n := 44) X7 hx hZ e7 FB.2.1 (i := ((j - 1) / 2)) hpr (by omega) (hb hby d6_43) rfl ?_
          refine own_iastore (n := 45) X7 hx hZ e7 FB.2.1 (i := j) hpl (by omega) (hb hby d6_44) rfl ?_
          intro T8 h8 X8 e8 W8 A8
          have N8 := Fr.snoc X8 NB hne.2.1
          have Z8 : n0 ≤ h8.size := Nat.le_trans ZB (Keep.of_wr W8).1
          have F8_a1 := FB.1.wrO W8 hne.2.2.2.1
          have F8_cA := FB.2.2.wrO W8 (Ne.symm hne.2.2.2.2.2)
          have K8 : Keep h0 h8 [dA, cA] := KB.wr W8 (Or.inl (List.mem_of_getElem? (i := 0) rfl))
          refine own_aloadN (n := 46) X8 hx (hb hby d6_45) rfl rfl rfl ?_
          refine own_getF (n := 49) X8 hx hZ hown (hw _ (List.mem_of_getElem? (i := 16) rfl)) e8 F8_a1.2.2.1 (hb hby d6_46) rfl ?_
          intro T9 X9 e9
          refine own_iload (n := 51) X9 hx (hb hby d6_49) rfl rfl ?_
          refine own_aloadN (n := 52) X9 hx (hb hby d6_51) rfl rfl rfl ?_
          refine own_getF (n := 55) X9 hx hZ hown (hw _ (List.mem_of_getElem? (i := 16) rfl)) e9 F8_a1.2.2.1 (hb hby d6_52) rfl ?_
          intro T10 X10 e10
          refine own_iload (n := 57) X10 hx (hb hby d6_55) rfl rfl ?_
          refine own_iaload (n := 58) X10 hx hZ e10 F8_cA (i := ((j - 1) / 2)) hpr (by omega) (hb hby d6_57) rfl ?_
          refine own_iastore (n := 59) X10 hx hZ e10 F8_cA (i := j) hpl (by omega) (hb hby d6_58) rfl ?_
          intro T11 h11 X11 e11 W11 A11
          have N11 := Fr.snoc X11 N8 hne.2.2.1
          have Z11 : n0 ≤ h11.size := Nat.le_trans Z8 (Keep.of_wr W11).1
          have F11_a1 := F8_a1.wrO W11 hne.2.2.2.2.1
          have F11_dA := A8.wrO W11 hne.2.2.2.2.2
          have K11 : Keep h0 h11 [dA, cA] := K8.wr W11 (Or.inl (List.mem_of_getElem? (i := 1) rfl))
          refine own_iload (n := 61) X11 hx (hb hby d6_59) rfl rfl ?_
          refine own_istore (n := 63) X11 hx (hb hby d6_61) (l' := #[.val (.ref a1), .val (.int p2), .val (.int p3), .val (.int p4), .val (.int pr), .val (.int pr)]) rfl rfl ?_
          refine own_goto (n := 3) X11 hx (hb hby d6_63) (by decide) (by decide) ?_
          show Ends p e below s ({ frames := 0, cells := 0, slots := 0, locals := 0 } : Room).cells ({ frames := 0, cells := 0, slots := 0, locals := 0 } : Room).slots (Q6 Z a1 p2 p3 p4 dA cA sz g1 g2 i k h0 n0) (T11.setTop (mkF m 3 #[.val (.ref a1), .val (.int p2), .val (.int p3), .val (.int p4), .val (.int pr), .val (.int pr)] []))
          have h0j : 0 < j := by rw [Int32.lt_iff_toInt_lt] at c5; omega
          exact ih ((j - 1) / 2) (by omega) _ _ _ _ _ _ _ X11 e11 N11 Z11 (One.val rfl) ⟨F11_a1, F11_dA, A11⟩ hpr (by omega) (fun q => Hole.step (hH q) hjk (by omega)) K11
        · refine own_icmpYes (n := 66) X5 hx (hb hby d6_20) (Jvm.Free.XT.ii_le_t c20) (by decide) (by decide) ?_
          show Ends p e below s ({ frames := 0, cells := 0, slots := 0, locals := 0 } : Room).cells ({ frames := 0, cells := 0, slots := 0, locals := 0 } : Room).slots (Q6 Z a1 p2 p3 p4 dA cA sz g1 g2 i k h0 n0) (T5.setTop (mkF m 66 #[.val (.ref a1), .val (.int p2), .val (.int p3), .val (.int p4), .val (.int pl), s5] []))
          exact blk66 _ _ _ pl s5 j G1 G2 X5 e5 NB ZB FB hpl hjk hH KB
      · refine own_ifYes (n := 66) XB hx (hb hby d6_5) (Jvm.Free.XT.i0_le_t c5) (by decide) (by decide) ?_
        show Ends p e below s ({ frames := 0, cells := 0, slots := 0, locals := 0 } : Room).cells ({ frames := 0, cells := 0, slots := 0, locals := 0 } : Room).slots (Q6 Z a1 p2 p3 p4 dA cA sz g1 g2 i k h0 n0) (TB.setTop (mkF m 66 #[.val (.ref a1), .val (.int p2), .val (.int p3), .val (.int p4), .val (.int pl), s5] []))
        exact blk66 _ _ _ pl s5 j G1 G2 XB eB NB ZB FB hpl hjk hH KB
  refine own_iloadN (n := 1) X0 hx (hb hby d6_0) rfl rfl ?_
  refine own_istore (n := 3) X0 hx (hb hby d6_1) (l' := #[.val (.ref a1), .val (.int p2), .val (.int p3), .val (.int p4), .val (.int p2), .unset]) rfl rfl ?_
  show Ends p e below s ({ frames := 0, cells := 0, slots := 0, locals := 0 } : Room).cells ({ frames := 0, cells := 0, slots := 0, locals := 0 } : Room).slots (Q6 Z a1 p2 p3 p4 dA cA sz g1 g2 i k h0 n0) (s₁.setTop (mkF m 3 #[.val (.ref a1), .val (.int p2), .val (.int p3), .val (.int p4), .val (.int p2), .unset] []))
  exact loop i _ _ _ _ _ _ _ X0 e0 N0 Z0 One.u F0 hi hik (fun q => q) (Keep.refl _ _)
theorem d9_0 : decode prog_60_method_9_code 0 = .ok (.iload_n 1, 1) := by decide +kernel
theorem d9_1 : decode prog_60_method_9_code 1 = .ok (.istore 4, 2) := by decide +kernel
theorem d9_3 : decode prog_60_method_9_code 3 = .ok (.iconst 2, 1) := by decide +kernel
theorem d9_4 : decode prog_60_method_9_code 4 = .ok (.iload 4, 2) := by decide +kernel
theorem d9_6 : decode prog_60_method_9_code 6 = .ok (.imul, 1) := by decide +kernel
theorem d9_7 : decode prog_60_method_9_code 7 = .ok (.iconst 1, 1) := by decide +kernel
theorem d9_8 : decode prog_60_method_9_code 8 = .ok (.iadd, 1) := by decide +kernel
theorem d9_9 : decode prog_60_method_9_code 9 = .ok (.istore 5, 2) := by decide +kernel
theorem d9_11 : decode prog_60_method_9_code 11 = .ok (.iload 5, 2) := by decide +kernel
theorem d9_13 : decode prog_60_method_9_code 13 = .ok (.aload_n 0, 1) := by decide +kernel
theorem d9_14 : decode prog_60_method_9_code 14 = .ok (.getfield 16, 3) := by decide +kernel
theorem d9_17 : decode prog_60_method_9_code 17 = .ok (.if_icmp .ge 93, 3) := by decide +kernel
theorem d9_20 : decode prog_60_method_9_code 20 = .ok (.iload 5, 2) := by decide +kernel
theorem d9_22 : decode prog_60_method_9_code 22 = .ok (.iconst 1, 1) := by decide +kernel
theorem d9_23 : decode prog_60_method_9_code 23 = .ok (.iadd, 1) := by decide +kernel
theorem d9_24 : decode prog_60_method_9_code 24 = .ok (.aload_n 0, 1) := by decide +kernel
theorem d9_25 : decode prog_60_method_9_code 25 = .ok (.getfield 16, 3) := by decide +kernel
theorem d9_28 : decode prog_60_method_9_code 28 = .ok (.if_icmp .ge 25, 3) := by decide +kernel
theorem d9_31 : decode prog_60_method_9_code 31 = .ok (.aload_n 0, 1) := by decide +kernel
theorem d9_32 : decode prog_60_method_9_code 32 = .ok (.getfield 7, 3) := by decide +kernel
theorem d9_35 : decode prog_60_method_9_code 35 = .ok (.iload 5, 2) := by decide +kernel
theorem d9_37 : decode prog_60_method_9_code 37 = .ok (.iconst 1, 1) := by decide +kernel
theorem d9_38 : decode prog_60_method_9_code 38 = .ok (.iadd, 1) := by decide +kernel
theorem d9_39 : decode prog_60_method_9_code 39 = .ok (.iaload, 1) := by decide +kernel
theorem d9_40 : decode prog_60_method_9_code 40 = .ok (.aload_n 0, 1) := by decide +kernel
theorem d9_41 : decode prog_60_method_9_code 41 = .ok (.getfield 7, 3) := by decide +kernel
theorem d9_44 : decode prog_60_method_9_code 44 = .ok (.iload 5, 2) := by decide +kernel
theorem d9_46 : decode prog_60_method_9_code 46 = .ok (.iaload, 1) := by decide +kernel
theorem d9_47 : decode prog_60_method_9_code 47 = .ok (.if_icmp .ge 6, 3) := by decide +kernel
theorem d9_50 : decode prog_60_method_9_code 50 = .ok (.iinc 5 1, 3) := by decide +kernel
theorem d9_53 : decode prog_60_method_9_code 53 = .ok (.aload_n 0, 1) := by decide +kernel
theorem d9_54 : decode prog_60_method_9_code 54 = .ok (.getfield 7, 3) := by decide +kernel
theorem d9_57 : decode prog_60_method_9_code 57 = .ok (.iload 5, 2) := by decide +kernel
theorem d9_59 : decode prog_60_method_9_code 59 = .ok (.iaload, 1) := by decide +kernel
theorem d9_60 : decode prog_60_method_9_code 60 = .ok (.iload_n 3, 1) := by decide +kernel
theorem d9_61 : decode prog_60_method_9_code 61 = .ok (.if_icmp .lt 6, 3) := by decide +kernel
theorem d9_64 : decode prog_60_method_9_code 64 = .ok (.goto 46, 3) := by decide +kernel
theorem d9_67 : decode prog_60_method_9_code 67 = .ok (.aload_n 0, 1) := by decide +kernel
theorem d9_68 : decode prog_60_method_9_code 68 = .ok (.getfield 7, 3) := by decide +kernel
theorem d9_71 : decode prog_60_method_9_code 71 = .ok (.iload 4, 2) := by decide +kernel
theorem d9_73 : decode prog_60_method_9_code 73 = .ok (.aload_n 0, 1) := by decide +kernel
theorem d9_74 : decode prog_60_method_9_code 74 = .ok (.getfield 7, 3) := by decide +kernel
theorem d9_77 : decode prog_60_method_9_code 77 = .ok (.iload 5, 2) := by decide +kernel
theorem d9_79 : decode prog_60_method_9_code 79 = .ok (.iaload, 1) := by decide +kernel
theorem d9_80 : decode prog_60_method_9_code 80 = .ok (.iastore, 1) := by decide +kernel
theorem d9_81 : decode prog_60_method_9_code 81 = .ok (.aload_n 0, 1) := by decide +kernel
theorem d9_82 : decode prog_60_method_9_code 82 = .ok (.getfield 13, 3) := by decide +kernel
theorem d9_85 : decode prog_60_method_9_code 85 = .ok (.iload 4, 2) := by decide +kernel
theorem d9_87 : decode prog_60_method_9_code 87 = .ok (.aload_n 0, 1) := by decide +kernel
theorem d9_88 : decode prog_60_method_9_code 88 = .ok (.getfield 13, 3) := by decide +kernel
theorem d9_91 : decode prog_60_method_9_code 91 = .ok (.iload 5, 2) := by decide +kernel
theorem d9_93 : decode prog_60_method_9_code 93 = .ok (.iaload, 1) := by decide +kernel
theorem d9_94 : decode prog_60_method_9_code 94 = .ok (.iastore, 1) := by decide +kernel
theorem d9_95 : decode prog_60_method_9_code 95 = .ok (.iload 5, 2) := by decide +kernel
theorem d9_97 : decode prog_60_method_9_code 97 = .ok (.istore 4, 2) := by decide +kernel
theorem d9_99 : decode prog_60_method_9_code 99 = .ok (.iconst 2, 1) := by decide +kernel
theorem d9_100 : decode prog_60_method_9_code 100 = .ok (.iload 4, 2) := by decide +kernel
theorem d9_102 : decode prog_60_method_9_code 102 = .ok (.imul, 1) := by decide +kernel
theorem d9_103 : decode prog_60_method_9_code 103 = .ok (.iconst 1, 1) := by decide +kernel
theorem d9_104 : decode prog_60_method_9_code 104 = .ok (.iadd, 1) := by decide +kernel
theorem d9_105 : decode prog_60_method_9_code 105 = .ok (.istore 5, 2) := by decide +kernel
theorem d9_107 : decode prog_60_method_9_code 107 = .ok (.goto (-96), 3) := by decide +kernel
theorem d9_110 : decode prog_60_method_9_code 110 = .ok (.aload_n 0, 1) := by decide +kernel
theorem d9_111 : decode prog_60_method_9_code 111 = .ok (.getfield 7, 3) := by decide +kernel
theorem d9_114 : decode prog_60_method_9_code 114 = .ok (.iload 4, 2) := by decide +kernel
theorem d9_116 : decode prog_60_method_9_code 116 = .ok (.iload_n 3, 1) := by decide +kernel
theorem d9_117 : decode prog_60_method_9_code 117 = .ok (.iastore, 1) := by decide +kernel
theorem d9_118 : decode prog_60_method_9_code 118 = .ok (.aload_n 0, 1) := by decide +kernel
theorem d9_119 : decode prog_60_method_9_code 119 = .ok (.getfield 13, 3) := by decide +kernel
theorem d9_122 : decode prog_60_method_9_code 122 = .ok (.iload 4, 2) := by decide +kernel
theorem d9_124 : decode prog_60_method_9_code 124 = .ok (.iload_n 2, 1) := by decide +kernel
theorem d9_125 : decode prog_60_method_9_code 125 = .ok (.iastore, 1) := by decide +kernel
theorem d9_126 : decode prog_60_method_9_code 126 = .ok (.return_, 1) := by decide +kernel
theorem pn_9 : plainFor (⟨"com/example/vernier_search/verniersearch/search/ClausesByDoc", "siftDown", "(III)V"⟩ : MethodName) = true := by first | exact plainFor_of_name (by first | (simp [plainName, overriddenIn]; done) | decide +kernel) | decide +kernel
theorem ef_9 (m : MethodId) (a1 : Addr) (p2 : Int32) (p3 : Int32) (p4 : Int32) : entryFrame m #[(.ref a1), (.int p2), (.int p3), (.int p4)] 6 = mkF m 0 #[.val (.ref a1), .val (.int p2), .val (.int p3), .val (.int p4), .unset, .unset] [] := by first | rfl | (simp [entryFrame, mkF, argsToLocals, Value.category]; done)
theorem pd_9 : parseMethodDescriptor "(III)V" = some ⟨[.int, .int, .int], none⟩ := by decide +kernel
def Q9 (Z : State) (a1 : Addr) (p2 : Int32) (p3 : Int32) (p4 : Int32) (dA : Addr) (cA : Addr) (sz : Int32) (g1 : Nat → Int32) (g2 : Nat → Int32) (i : Nat) (k : Nat) (h0 : Heap) (n0 : Nat) (v : Option Value) (h : Heap) (L : List Loc) : Prop := ∃ g1' g2', v = none ∧ Fr n0 L ∧ Keep h0 h [dA, cA] ∧ CB Z h a1 dA cA sz g1' g2'
theorem rm9 (l : Launch) (Z : State) (a0 : Array Value) (hw : ∀ d ∈ tables_1, d.before a0 Z = true) (ws : List Jvm.Cond) (a1 : Addr) (p2 : Int32) (p3 : Int32) (p4 : Int32) (dA : Addr) (cA : Addr) (sz : Int32) (g1 : Nat → Int32) (g2 : Nat → Int32) (i : Nat) (k : Nat) (h0 : Heap) (n0 : Nat) (Z0 : n0 ≤ h0.size) (F0 : CB Z h0 a1 dA cA sz g1 g2) (hne : NE3 n0 a1 dA cA) (hi : p2.toInt = (i : Int)) (hi3 : i < 3) (hsz : sz.toInt = (k : Int)) (hk3 : k ≤ 3) :
    MetFree l (⟨"com/example/vernier_search/verniersearch/search/ClausesByDoc", "siftDown", "(III)V"⟩ : MethodName) (head1 (Jvm.Cond.code (⟨"com/example/vernier_search/verniersearch/search/ClausesByDoc", "siftDown", "(III)V"⟩ : MethodName) prog_60_method_9_code 6 (none) :: ws) ({ frames := 0, cells := 0, slots := 0, locals := 0 } : Room)) (fun a U => a = #[(.ref a1), (.int p2), (.int p3), (.int p4)] ∧ Z.Warmed39 U.vm ∧ U.heap = h0) (fun _ _ _ _ _ => True) (fun _ U o U' => ∃ v L, o = .returned v ∧ (Q9 Z a1 p2 p3 p4 dA cA sz g1 g2 i k h0 n0) v U'.heap L ∧ FrameEnd U o U' L ({ frames := 0, cells := 0, slots := 0, locals := 0 } : Room).cells ({ frames := 0, cells := 0, slots := 0, locals := 0 } : Room).slots) := by
  refine MetFree.of_bodySF pn_9 hisR ?_
  intro p e s m args below meth c s₁ Bd hml0 hP hK
  obtain ⟨rfl, hZ, hh⟩ := hP
  have hx := Bd.exec
  have hby := Bd.bytes
  have hml : c.maxLocals = 6 := hml0
  have hown : s.vm.findClass "com/example/vernier_search/verniersearch/search/ClausesByDoc" = some m.cls := findClass_of_methodNamed Bd.named
  have hnm := (name_of_methodNamed Bd.named Bd.method).1
  have X0 : Stand p l e ({ frames := 0, cells := 0, slots := 0, locals := 0 } : Room) s m #[(.ref a1), (.int p2), (.int p3), (.int p4)] below meth c s₁ [] 0 0 := Stand.of_body Bd
  have e0 : s₁.heap = h0 := by rw [← hh, Bd.state]; rfl
  have N0 := Fr.nil n0
  have lk : meth.locks = false := BodyLoose.notSynchronized Bd
  have hret := Bd.returns
  show Ends p e below s ({ frames := 0, cells := 0, slots := 0, locals := 0 } : Room).cells ({ frames := 0, cells := 0, slots := 0, locals := 0 } : Room).slots (Q9 Z a1 p2 p3 p4 dA cA sz g1 g2 i k h0 n0) (s₁.setTop (entryFrame m #[(.ref a1), (.int p2), (.int p3), (.int p4)] 6))
  refine Ends.cast (ef_9 m a1 p2 p3 p4) ?_
  have o0 : (0 : Int32).toInt = 0 := rfl
  have o1 : (1 : Int32).toInt = 1 := rfl
  have o2 : (2 : Int32).toInt = 2 := rfl
  have o3 : (3 : Int32).toInt = 3 := rfl
  have blk110 : ∀ (TB : State) (hB : Heap) (lB : List Loc) (pl : Int32) (ch : Int32) (j : Nat) (G1 : Nat → Int32) (G2 : Nat → Int32) (XB : Stand p l e ({ frames := 0, cells := 0, slots := 0, locals := 0 } : Room) s m #[(.ref a1), (.int p2), (.int p3), (.int p4)] below meth c TB lB (0) (0)) (eB : TB.heap = hB) (NB : Fr n0 lB) (ZB : n0 ≤ hB.size) (FB : CB Z hB a1 dA cA sz G1 G2) (hpl : pl.toInt = (j : Int)) (hj3 : j < 3) (KB : Keep h0 hB [dA, cA]), Ends p e below s ({ frames := 0, cells := 0, slots := 0, locals := 0 } : Room).cells ({ frames := 0, cells := 0, slots := 0, locals := 0 } : Room).slots (Q9 Z a1 p2 p3 p4 dA cA sz g1 g2 i k h0 n0) (TB.setTop (mkF m 110 #[.val (.ref a1), .val (.int p2), .val (.int p3), .val (.int p4), .val (.int pl), .val (.int ch)] [])) := by
    intro TB hB lB pl ch j G1 G2 XB eB NB ZB FB hpl hj3 KB
    refine own_aloadN (n := 111) XB hx (hb hby d9_110) rfl rfl rfl ?_
    refine own_getF (n := 114) XB hx hZ hown (hw _ (List.mem_of_getElem? (i := 14) rfl)) eB FB.1.2.1 (hb hby d9_111) rfl ?_
    intro T1 X1 e1
    refine own_iload (n := 116) X1 hx (hb hby d9_114) rfl rfl ?_
    refine own_iloadN (n := 117) X1 hx (hb hby d9_116) rfl rfl ?_
    refine own_iastore (n := 118) X1 hx hZ e1 FB.2.1 (i := j) hpl hj3 (hb hby d9_117) rfl ?_
    intro T2 h2 X2 e2 W2 A2
    have N2 := Fr.snoc X2 NB hne.2.1
    have Z2 : n0 ≤ h2.size := Nat.le_trans ZB (Keep.of_wr W2).1
    have F2_a1 := FB.1.wrO W2 hne.2.2.2.1
    have F2_cA := FB.2.2.wrO W2 (Ne.symm hne.2.2.2.2.2)
    have K2 : Keep h0 h2 [dA, cA] := KB.wr W2 (Or.inl (List.mem_of_getElem? (i := 0) rfl))
    refine own_aloadN (n := 119) X2 hx (hb hby d9_118) rfl rfl rfl ?_
    refine own_getF (n := 122) X2 hx hZ hown (hw _ (List.mem_of_getElem? (i := 16) rfl)) e2 F2_a1.2.2.1 (hb hby d9_119) rfl ?_
    intro T3 X3 e3
    refine own_iload (n := 124) X3 hx (hb hby d9_122) rfl rfl ?_
    refine own_iloadN (n := 125) X3 hx (hb hby d9_124) rfl rfl ?_
    refine own_iastore (n := 126) X3 hx hZ e3 F2_cA (i := j) hpl hj3 (hb hby d9_125) rfl ?_
    intro T4 h4 X4 e4 W4 A4
    have N4 := Fr.snoc X4 N2 hne.2.2.1
    have Z4 : n0 ≤ h4.size := Nat.le_trans Z2 (Keep.of_wr W4).1
    have F4_a1 := F2_a1.wrO W4 hne.2.2.2.2.1
    have F4_dA := A2.wrO W4 hne.2.2.2.2.2
    have K4 : Keep h0 h4 [dA, cA] := K2.wr W4 (Or.inl (List.mem_of_getElem? (i := 1) rfl))
    refine own_retV X4 hx lk hret (hb hby d9_126) (by decide) (by decide) ?_
    rw [e4]
    exact ⟨_, _, rfl, N4, K4, F4_a1, F4_dA, A4⟩
  have loop : ∀ (n : Nat) (TB : State) (hB : Heap) (lB : List Loc) (pl : Int32) (ch : Int32) (j : Nat) (G1 : Nat → Int32) (G2 : Nat → Int32) (XB : Stand p l e ({ frames := 0, cells := 0, slots := 0, locals := 0 } : Room) s m #[(.ref a1), (.int p2), (.int p3), (.int p4)] below meth c TB lB (0) (0)) (eB : TB.heap = hB) (NB : Fr n0 lB) (ZB : n0 ≤ hB.size) (FB : CB Z hB a1 dA cA sz G1 G2) (hpl : pl.toInt = (j : Int)) (hj3 : j < 3) (hch : ch.toInt = ((2 * j + 1 : Nat) : Int)) (hn : j + n = 3) (KB : Keep h0 hB [dA, cA]), Ends p e below s ({ frames := 0, cells := 0, slots := 0, locals := 0 } : Room).cells ({ frames := 0, cells := 0, slots := 0, locals := 0 } : Room).slots (Q9 Z a1 p2 p3 p4 dA cA sz g1 g2 i k h0 n0) (TB.setTop (mkF m 11 #[.val (.ref a1), .val (.int p2), .val (.int p3), .val (.int p4), .val (.int pl), .val (.int ch)] [])) := by
    intro n
    induction n using Nat.strongRecOn with
    | ind n ih =>
      intro TB hB lB pl ch j G1 G2 XB eB NB ZB FB hpl hj3 hch hn KB
      have blk53 : ∀ (TB : State) (hB : Heap) (lB : List Loc) (cc : Int32) (m' : Nat) (XB : Stand p l e ({ frames := 0, cells := 0, slots := 0, locals := 0 } : Room) s m #[(.ref a1), (.int p2), (.int p3), (.int p4)] below meth c TB lB (0) (0)) (eB : TB.heap = hB) (NB : Fr n0 lB) (ZB : n0 ≤ hB.size) (FB : CB Z hB a1 dA cA sz G1 G2) (hcc : cc.toInt = (m' : Int)) (hm3 : m' < 3) (hjm : j < m') (KB : Keep h0 hB [dA, cA]), Ends p e below s ({ frames := 0, cells := 0, slots := 0, locals := 0 } : Room).cells ({ frames := 0, cells := 0, slots := 0, locals := 0 } : Room).slots (Q9 Z a1 p2 p3 p4 dA cA sz g1 g2 i k h0 n0) (TB.setTop (mkF m 53 #[.val (.ref a1), .val (.int p2), .val (.int p3), .val (.int p4), .val (.int pl), .val (.int cc)] [])) := by
        intro TB hB lB cc m' XB eB NB ZB FB hcc hm3 hjm KB
        refine own_aloadN (n := 54) XB hx (hb hby d9_53) rfl rfl rfl ?_
        refine own_getF (n := 57) XB hx hZ hown (hw _ (List.mem_of_getElem? (i := 14) rfl)) eB FB.1.2.1 (hb hby d9_54) rfl ?_
        intro T5 X5 e5
        refine own_iload (n := 59) X5 hx (hb hby d9_57) rfl rfl ?_
        refine own_iaload (n := 60) X5 hx hZ e5 FB.2.1 (i := m') hcc hm3 (hb hby d9_59) rfl ?_
        refine own_iloadN (n := 61) X5 hx (hb hby d9_60) rfl rfl ?_
        by_cases c61 : (G1 m') < p4
        · refine own_icmpYes (n := 67) X5 hx (hb hby d9_61) (Jvm.Free.XT.ii_lt_t c61) (by decide) (by decide) ?_
          refine own_aloadN (n := 68) X5 hx (hb hby d9_67) rfl rfl rfl ?_
          refine own_getF (n := 71) X5 hx hZ hown (hw _ (List.mem_of_getElem? (i := 14) rfl)) e5 FB.1.2.1 (hb hby d9_68) rfl ?_
          intro T6 X6 e6
          refine own_iload (n := 73) X6 hx (hb hby d9_71) rfl rfl ?_
          refine own_aloadN (n := 74) X6 hx (hb hby d9_73) rfl rfl rfl ?_
          refine own_getF (n := 77) X6 hx hZ hown (hw _ (List.mem_of_getElem? (i := 14) rfl)) e6 FB.1.2.1 (hb hby d9_74) rfl ?_
          intro T7 X7 e7
          refine own_iload (n := 79) X7 hx (hb hby d9_77) rfl rfl ?_
          refine own_iaload (n := 80) X7 hx hZ e7 FB.2.1 (i := m') hcc hm3 (hb hby d9_79) rfl ?_
          refine own_iastore (n := 81) X7 hx hZ e7 FB.2.1 (i := j) hpl hj3 (hb hby d9_80) rfl ?_
          intro T8 h8 X8 e8 W8 A8
          have N8 := Fr.snoc X8 NB hne.2.1
          have Z8 : n0 ≤ h8.size := Nat.le_trans ZB (Keep.of_wr W8).1
          have F8_a1 := FB.1.wrO W8 hne.2.2.2.1
          have F8_cA := FB.2.2.wrO W8 (Ne.symm hne.2.2.2.2.2)
          have K8 : Keep h0 h8 [dA, cA] := KB.wr W8 (Or.inl (List.mem_of_getElem? (i := 0) rfl))
          refine own_aloadN (n := 82) X8 hx (hb hby d9_81) rfl rfl rfl ?_
          refine own_getF (n := 85) X8 hx hZ hown (hw _ (List.mem_of_getElem? (i := 16) rfl)) e8 F8_a1.2.2.1 (hb hby d9_82) rfl ?_
          intro T9 X9 e9
          refine own_iload (n := 87) X9 hx (hb hby d9_85) rfl rfl ?_
          refine own_aloadN (n := 88) X9 hx (hb hby d9_87) rfl rfl rfl ?_
          refine own_getF (n := 91) X9 hx hZ hown (hw _ (List.mem_of_getElem? (i := 16) rfl)) e9 F8_a1.2.2.1 (hb hby d9_88) rfl ?_
          intro T10 X10 e10
          refine own_iload (n := 93) X10 hx (hb hby d9_91) rfl rfl ?_
          refine own_iaload (n := 94) X10 hx hZ e10 F8_cA (i := m') hcc hm3 (hb hby d9_93) rfl ?_
          refine own_iastore (n := 95) X10 hx hZ e10 F8_cA (i := j) hpl hj3 (hb hby d9_94) rfl ?_
          intro T11 h11 X11 e11 W11 A11
          have N11 := Fr.snoc X11 N8 hne.2.2.1
          have Z11 : n0 ≤ h11.size := Nat.le_trans Z8 (Keep.of_wr W11).1
          have F11_a1 := F8_a1.wrO W11 hne.2.2.2.2.1
          have F11_dA := A8.wrO W11 hne.2.2.2.2.2
          have K11 : Keep h0 h11 [dA, cA] := K8.wr W11 (Or.inl (List.mem_of_getElem? (i := 1) rfl))
          refine own_iload (n := 97) X11 hx (hb hby d9_95) rfl rfl ?_
          refine own_istore (n := 99) X11 hx (hb hby d9_97) (l' := #[.val (.ref a1), .val (.int p2), .val (.int p3), .val (.int p4), .val (.int cc), .val (.int cc)]) rfl rfl ?_
          refine own_iconst (n := 100) X11 hx (2 : Int32) (hb hby d9_99) rfl rfl ?_
          refine own_iload (n := 102) X11 hx (hb hby d9_100) rfl rfl ?_
          refine own_imul (n := 103) X11 hx (hb hby d9_102) rfl ?_
          refine own_iconst (n := 104) X11 hx (1 : Int32) (hb hby d9_103) rfl rfl ?_
          refine own_iadd (n := 105) X11 hx (hb hby d9_104) rfl ?_
          refine own_istore (n := 107) X11 hx (hb hby d9_105) (l' := #[.val (.ref a1), .val (.int p2), .val (.int p3), .val (.int p4), .val (.int cc), .val (.int (((2 : Int32) * cc) + (1 : Int32)))]) rfl rfl ?_
          refine own_goto (n := 11) X11 hx (hb hby d9_107) (by decide) (by decide) ?_
          show Ends p e below s ({ frames := 0, cells := 0, slots := 0, locals := 0 } : Room).cells ({ frames := 0, cells := 0, slots := 0, locals := 0 } : Room).slots (Q9 Z a1 p2 p3 p4 dA cA sz g1 g2 i k h0 n0) (T11.setTop (mkF m 11 #[.val (.ref a1), .val (.int p2), .val (.int p3), .val (.int p4), .val (.int cc), .val (.int (((2 : Int32) * cc) + (1 : Int32)))] []))
          exact ih (3 - m') (by omega) _ _ _ _ _ m' _ _ X11 e11 N11 Z11 ⟨F11_a1, F11_dA, A11⟩ hcc hm3 (own_child hcc (by omega)) (by omega) K11
        · refine own_icmpNo (n := 64) X5 hx (hb hby d9_61) (Jvm.Free.XT.ii_lt_f c61) rfl ?_
          refine own_goto (n := 110) X5 hx (hb hby d9_64) (by decide) (by decide) ?_
          show Ends p e below s ({ frames := 0, cells := 0, slots := 0, locals := 0 } : Room).cells ({ frames := 0, cells := 0, slots := 0, locals := 0 } : Room).slots (Q9 Z a1 p2 p3 p4 dA cA sz g1 g2 i k h0 n0) (T5.setTop (mkF m 110 #[.val (.ref a1), .val (.int p2), .val (.int p3), .val (.int p4), .val (.int pl), .val (.int cc)] []))
          exact blk110 _ _ _ pl cc j G1 G2 X5 e5 NB ZB FB hpl hj3 KB
      refine own_iload (n := 13) XB hx (hb hby d9_11) rfl rfl ?_
      refine own_aloadN (n := 14) XB hx (hb hby d9_13) rfl rfl rfl ?_
      refine own_getF (n := 17) XB hx hZ hown (hw _ (List.mem_of_getElem? (i := 23) rfl)) eB FB.1.2.2.2 (hb hby d9_14) rfl ?_
      intro T12 X12 e12
      by_cases c17 : ch < sz
      · refine own_icmpNo (n := 20) X12 hx (hb hby d9_17) (Jvm.Free.XT.ii_ge_f c17) rfl ?_
        refine own_iload (n := 22) X12 hx (hb hby d9_20) rfl rfl ?_
        refine own_iconst (n := 23) X12 hx (1 : Int32) (hb hby d9_22) rfl rfl ?_
        refine own_iadd (n := 24) X12 hx (hb hby d9_23) rfl ?_
        refine own_aloadN (n := 25) X12 hx (hb hby d9_24) rfl rfl rfl ?_
        refine own_getF (n := 28) X12 hx hZ hown (hw _ (List.mem_of_getElem? (i := 23) rfl)) e12 FB.1.2.2.2 (hb hby d9_25) rfl ?_
        intro T13 X13 e13
        by_cases c28 : (ch + (1 : Int32)) < sz
        · refine own_icmpNo (n := 31) X13 hx (hb hby d9_28) (Jvm.Free.XT.ii_ge_f c28) rfl ?_
          refine own_aloadN (n := 32) X13 hx (hb hby d9_31) rfl rfl rfl ?_
          refine own_getF (n := 35) X13 hx hZ hown (hw _ (List.mem_of_getElem? (i := 14) rfl)) e13 FB.1.2.1 (hb hby d9_32) rfl ?_
          intro T14 X14 e14
          refine own_iload (n := 37) X14 hx (hb hby d9_35) rfl rfl ?_
          refine own_iconst (n := 38) X14 hx (1 : Int32) (hb hby d9_37) rfl rfl ?_
          refine own_iadd (n := 39) X14 hx (hb hby d9_38) rfl ?_
          refine own_iaload (n := 40) X14 hx hZ e14 FB.2.1 (i := (2 * j + 2)) (own_add1 hch (by omega)) (by rw [Int32.lt_iff_toInt_lt] at c28; have z := own_add1 hch (by omega); omega) (hb hby d9_39) rfl ?_
          refine own_aloadN (n := 41) X14 hx (hb hby d9_40) rfl rfl rfl ?_
          refine own_getF (n := 44) X14 hx hZ hown (hw _ (List.mem_of_getElem? (i := 14) rfl)) e14 FB.1.2.1 (hb hby d9_41) rfl ?_
          intro T15 X15 e15
          refine own_iload (n := 46) X15 hx (hb hby d9_44) rfl rfl ?_
          refine own_iaload (n := 47) X15 hx hZ e15 FB.2.1 (i := (2 * j + 1)) hch (by rw [Int32.lt_iff_toInt_lt] at c17; omega) (hb hby d9_46) rfl ?_
          by_cases c47 : (G1 (2 * j + 2)) < (G1 (2 * j + 1))
          · refine own_icmpNo (n := 50) X15 hx (hb hby d9_47) (Jvm.Free.XT.ii_ge_f c47) rfl ?_
            refine own_iinc (n := 53) X15 hx (hb hby d9_50) rfl (v := (1 : Int32)) rfl (l' := #[.val (.ref a1), .val (.int p2), .val (.int p3), .val (.int p4), .val (.int pl), .val (.int (ch + (1 : Int32)))]) rfl rfl ?_
            show Ends p e below s ({ frames := 0, cells := 0, slots := 0, locals := 0 } : Room).cells ({ frames := 0, cells := 0, slots := 0, locals := 0 } : Room).slots (Q9 Z a1 p2 p3 p4 dA cA sz g1 g2 i k h0 n0) (T15.setTop (mkF m 53 #[.val (.ref a1), .val (.int p2), .val (.int p3), .val (.int p4), .val (.int pl), .val (.int (ch + (1 : Int32)))] []))
            rw [Int32.lt_iff_toInt_lt] at c17 c28
            have z := own_add1 hch (by omega)
            exact blk53 _ _ _ (ch + (1 : Int32)) (2 * j + 2) X15 e15 NB ZB FB (own_add1 hch (by omega)) (by omega) (by omega) KB
          · refine own_icmpYes (n := 53) X15 hx (hb hby d9_47) (Jvm.Free.XT.ii_ge_t c47) (by decide) (by decide) ?_
            show Ends p e below s ({ frames := 0, cells := 0, slots := 0, locals := 0 } : Room).cells ({ frames := 0, cells := 0, slots := 0, locals := 0 } : Room).slots (Q9 Z a1 p2 p3 p4 dA cA sz g1 g2 i k h0 n0) (T15.setTop (mkF m 53 #[.val (.ref a1), .val (.int p2), .val (.int p3), .val (.int p4), .val (.int pl), .val (.int ch)] []))
            rw [Int32.lt_iff_toInt_lt] at c17
            exact blk53 _ _ _ ch (2 * j + 1) X15 e15 NB ZB FB hch (by omega) (by omega) KB
        · refine own_icmpYes (n := 53) X13 hx (hb hby d9_28) (Jvm.Free.XT.ii_ge_t c28) (by decide) (by decide) ?_
          show Ends p e below s ({ frames := 0, cells := 0, slots := 0, locals := 0 } : Room).cells ({ frames := 0, cells := 0, slots := 0, locals := 0 } : Room).slots (Q9 Z a1 p2 p3 p4 dA cA sz g1 g2 i k h0 n0) (T13.setTop (mkF m 53 #[.val (.ref a1), .val (.int p2), .val (.int p3), .val (.int p4), .val (.int pl), .val (.int ch)] []))
          rw [Int32.lt_iff_toInt_lt] at c17
          exact blk53 _ _ _ ch (2 * j + 1) X13 e13 NB ZB FB hch (by omega) (by omega) KB
      · refine own_icmpYes (n := 110) X12 hx (hb hby d9_17) (Jvm.Free.XT.ii_ge_t c17) (by decide) (by decide) ?_
        show Ends p e below s ({ frames := 0, cells := 0, slots := 0, locals := 0 } : Room).cells ({ frames := 0, cells := 0, slots := 0, locals := 0 } : Room).slots (Q9 Z a1 p2 p3 p4 dA cA sz g1 g2 i k h0 n0) (T12.setTop (mkF m 110 #[.val (.ref a1), .val (.int p2), .val (.int p3), .val (.int p4), .val (.int pl), .val (.int ch)] []))
        exact blk110 _ _ _ pl ch j G1 G2 X12 e12 NB ZB FB hpl hj3 KB
  refine own_iloadN (n := 1) X0 hx (hb hby d9_0) rfl rfl ?_
  refine own_istore (n := 3) X0 hx (hb hby d9_1) (l' := #[.val (.ref a1), .val (.int p2), .val (.int p3), .val (.int p4), .val (.int p2), .unset]) rfl rfl ?_
  refine own_iconst (n := 4) X0 hx (2 : Int32) (hb hby d9_3) rfl rfl ?_
  refine own_iload (n := 6) X0 hx (hb hby d9_4) rfl rfl ?_
  refine own_imul (n := 7) X0 hx (hb hby d9_6) rfl ?_
  refine own_iconst (n := 8) X0 hx (1 : Int32) (hb hby d9_7) rfl rfl ?_
  refine own_iadd (n := 9) X0 hx (hb hby d9_8) rfl ?_
  refine own_istore (n := 11) X0 hx (hb hby d9_9) (l' := #[.val (.ref a1), .val (.int p2), .val (.int p3), .val (.int p4), .val (.int p2), .val (.int (((2 : Int32) * p2) + (1 : Int32)))]) rfl rfl ?_
  show Ends p e below s ({ frames := 0, cells := 0, slots := 0, locals := 0 } : Room).cells ({ frames := 0, cells := 0, slots := 0, locals := 0 } : Room).slots (Q9 Z a1 p2 p3 p4 dA cA sz g1 g2 i k h0 n0) (s₁.setTop (mkF m 11 #[.val (.ref a1), .val (.int p2), .val (.int p3), .val (.int p4), .val (.int p2), .val (.int (((2 : Int32) * p2) + (1 : Int32)))] []))
  exact loop (3 - i) _ _ _ _ _ i _ _ X0 e0 N0 Z0 F0 hi hi3 (own_child hi (by omega)) (by omega) (Keep.refl _ _)
theorem d5_0 : decode prog_60_method_4_code 0 = .ok (.aload_n 0, 1) := by decide +kernel
theorem d5_1 : decode prog_60_method_4_code 1 = .ok (.dup, 1) := by decide +kernel
theorem d5_2 : decode prog_60_method_4_code 2 = .ok (.getfield 16, 3) := by decide +kernel
theorem d5_5 : decode prog_60_method_4_code 5 = .ok (.iconst 1, 1) := by decide +kernel
theorem d5_6 : decode prog_60_method_4_code 6 = .ok (.iadd, 1) := by decide +kernel
theorem d5_7 : decode prog_60_method_4_code 7 = .ok (.putfield 16, 3) := by decide +kernel
theorem d5_10 : decode prog_60_method_4_code 10 = .ok (.aload_n 0, 1) := by decide +kernel
theorem d5_11 : decode prog_60_method_4_code 11 = .ok (.aload_n 0, 1) := by decide +kernel
theorem d5_12 : decode prog_60_method_4_code 12 = .ok (.getfield 16, 3) := by decide +kernel
theorem d5_15 : decode prog_60_method_4_code 15 = .ok (.iconst 1, 1) := by decide +kernel
theorem d5_16 : decode prog_60_method_4_code 16 = .ok (.isub, 1) := by decide +kernel
theorem d5_17 : decode prog_60_method_4_code 17 = .ok (.iload_n 1, 1) := by decide +kernel
theorem d5_18 : decode prog_60_method_4_code 18 = .ok (.iload_n 2, 1) := by decide +kernel
theorem d5_19 : decode prog_60_method_4_code 19 = .ok (.invokevirtual 20, 3) := by decide +kernel
theorem d5_22 : decode prog_60_method_4_code 22 = .ok (.return_, 1) := by decide +kernel
theorem pn_5 : plainFor (⟨"com/example/vernier_search/verniersearch/search/ClausesByDoc", "add", "(II)V"⟩ : MethodName) = true := by first | exact plainFor_of_name (by first | (simp [plainName, overriddenIn]; done) | decide +kernel) | decide +kernel
theorem ef_5 (m : MethodId) (a1 : Addr) (p2 : Int32) (p3 : Int32) : entryFrame m #[(.ref a1), (.int p2), (.int p3)] 3 = mkF m 0 #[.val (.ref a1), .val (.int p2), .val (.int p3)] [] := by first | rfl | (simp [entryFrame, mkF, argsToLocals, Value.category]; done)
theorem pd_5 : parseMethodDescriptor "(II)V" = some ⟨[.int, .int], none⟩ := by decide +kernel
def Q5 (Z : State) (a1 : Addr) (p2 : Int32) (p3 : Int32) (dA : Addr) (cA : Addr) (sz : Int32) (g1 : Nat → Int32) (g2 : Nat → Int32) (k : Nat) (h0 : Heap) (n0 : Nat) (v : Option Value) (h : Heap) (L : List Loc) : Prop := ∃ g1' g2', v = none ∧ Fr n0 L ∧ Keep h0 h [a1, dA, cA] ∧ CB Z h a1 dA cA (sz + 1) g1' g2' ∧ (Hole g2 (k + 1) k p2 → Z0in g2' (k + 1))
theorem rm5 (l : Launch) (Z : State) (a0 : Array Value) (hw : ∀ d ∈ tables_1, d.before a0 Z = true) (ws : List Jvm.Cond) (a1 : Addr) (p2 : Int32) (p3 : Int32) (dA : Addr) (cA : Addr) (sz : Int32) (g1 : Nat → Int32) (g2 : Nat → Int32) (k : Nat) (h0 : Heap) (n0 : Nat) (Z0 : n0 ≤ h0.size) (F0 : CB Z h0 a1 dA cA sz g1 g2) (hne : NE3 n0 a1 dA cA) (hsz : sz.toInt = (k : Int)) (hk : k < 3) :
    MetFree l (⟨"com/example/vernier_search/verniersearch/search/ClausesByDoc", "add", "(II)V"⟩ : MethodName) (head1 (Jvm.Cond.code (⟨"com/example/vernier_search/verniersearch/search/ClausesByDoc", "add", "(II)V"⟩ : MethodName) prog_60_method_4_code 3 (none) :: ws) ({ frames := 1, cells := 0, slots := 0, locals := 17 } : Room)) (fun a U => a = #[(.ref a1), (.int p2), (.int p3)] ∧ Z.Warmed39 U.vm ∧ U.heap = h0) (fun _ _ _ _ _ => True) (fun _ U o U' => ∃ v L, o = .returned v ∧ (Q5 Z a1 p2 p3 dA cA sz g1 g2 k h0 n0) v U'.heap L ∧ FrameEnd U o U' L ({ frames := 1, cells := 0, slots := 0, locals := 17 } : Room).cells ({ frames := 1, cells := 0, slots := 0, locals := 17 } : Room).slots) := by
  refine MetFree.of_bodySF pn_5 hisR ?_
  intro p e s m args below meth c s₁ Bd hml0 hP hK
  obtain ⟨rfl, hZ, hh⟩ := hP
  have hx := Bd.exec
  have hby := Bd.bytes
  have hml : c.maxLocals = 3 := hml0
  have hown : s.vm.findClass "com/example/vernier_search/verniersearch/search/ClausesByDoc" = some m.cls := findClass_of_methodNamed Bd.named
  have hnm := (name_of_methodNamed Bd.named Bd.method).1
  have X0 : Stand p l e ({ frames := 1, cells := 0, slots := 0, locals := 17 } : Room) s m #[(.ref a1), (.int p2), (.int p3)] below meth c s₁ [] 0 0 := Stand.of_body Bd
  have e0 : s₁.heap = h0 := by rw [← hh, Bd.state]; rfl
  have N0 := Fr.nil n0
  have lk : meth.locks = false := BodyLoose.notSynchronized Bd
  have hret := Bd.returns
  show Ends p e below s ({ frames := 1, cells := 0, slots := 0, locals := 17 } : Room).cells ({ frames := 1, cells := 0, slots := 0, locals := 17 } : Room).slots (Q5 Z a1 p2 p3 dA cA sz g1 g2 k h0 n0) (s₁.setTop (entryFrame m #[(.ref a1), (.int p2), (.int p3)] 3))
  refine Ends.cast (ef_5 m a1 p2 p3) ?_
  refine own_aloadN (n := 1) X0 hx (hb hby d5_0) rfl rfl rfl ?_
  refine own_dup (n := 2) X0 hx (hb hby d5_1) rfl rfl ?_
  refine own_getF (n := 5) X0 hx hZ hown (hw _ (List.mem_of_getElem? (i := 23) rfl)) e0 F0.1.2.2.2 (hb hby d5_2) rfl ?_
  intro T1 X1 e1
  refine own_iconst (n := 6) X1 hx (1 : Int32) (hb hby d5_5) rfl rfl ?_
  refine own_iadd (n := 7) X1 hx (hb hby d5_6) rfl ?_
  refine own_putF (n := 10) X1 hx hZ hown (hw _ (List.mem_of_getElem? (i := 23) rfl)) e1 F0.1.2.2.2 F0.1.1 (Or.inl (hw _ (List.mem_of_getElem? (i := 24) rfl))) (hw _ (List.mem_of_getElem? (i := 5) rfl)) (ty := .int) (by decide) rfl rfl (hb hby d5_7) rfl ?_
  intro T2 h2 X2 e2 W2
  have N2 := Fr.snoc X2 N0 hne.1
  have Z2 : n0 ≤ h2.size := Nat.le_trans Z0 (Keep.of_wr W2).1
  have F2_a1 := F0.1.set_size hw W2
  have F2_dA := F0.2.1.wrO W2 (Ne.symm hne.2.2.2.1)
  have F2_cA := F0.2.2.wrO W2 (Ne.symm hne.2.2.2.2.1)
  have K2 : Keep h0 h2 [a1, dA, cA] := (Keep.refl h0 [a1, dA, cA]).wr W2 (Or.inl (List.mem_of_getElem? (i := 0) rfl))
  refine own_aloadN (n := 11) X2 hx (hb hby d5_10) rfl rfl rfl ?_
  refine own_aloadN (n := 12) X2 hx (hb hby d5_11) rfl rfl rfl ?_
  refine own_getF (n := 15) X2 hx hZ hown (hw _ (List.mem_of_getElem? (i := 23) rfl)) e2 F2_a1.2.2.2 (hb hby d5_12) rfl ?_
  intro T3 X3 e3
  refine own_iconst (n := 16) X3 hx (1 : Int32) (hb hby d5_15) rfl rfl ?_
  refine own_isub (n := 17) X3 hx (hb hby d5_16) rfl ?_
  refine own_iloadN (n := 18) X3 hx (hb hby d5_17) rfl rfl ?_
  refine own_iloadN (n := 19) X3 hx (hb hby d5_18) rfl rfl ?_
  refine own_callP (n := 22) X3 hx hZ hown (hw _ (List.mem_of_getElem? (i := 30) rfl)) (hw _ (List.mem_of_getElem? (i := 31) rfl)) (hw _ (List.mem_of_getElem? (i := 32) rfl)) (hw _ (List.mem_of_getElem? (i := 21) rfl)) rfl (hw _ (List.mem_of_getElem? (i := 6) rfl)) (hw _ (List.mem_of_getElem? (i := 33) rfl)) (by decide) e3 F2_a1.1 (rm6 l Z a0 hw [] a1 ((sz + (1 : Int32)) - (1 : Int32)) p2 p3 dA cA (sz + (1 : Int32)) g1 g2 k (k + 1) h2 n0 Z2 ⟨F2_a1, F2_dA, F2_cA⟩ ⟨hne.1, hne.2.1, hne.2.2.1, hne.2.2.2.1, hne.2.2.2.2.1, hne.2.2.2.2.2⟩ (by have z := own_add1 hsz (by omega); have z2 := own_sub1 z (by omega); exact z2) (by omega) (by omega)) (W := 0) (by decide) (by decide) (by decide) (by decide) (by rw [hml]; rfl) (argsL := [(.int ((sz + (1 : Int32)) - (1 : Int32))), (.int p2), (.int p3)]) (rest := []) pd_6 rfl (by rfl) (Nat.le_of_eq rfl) (hb hby d5_19) rfl rfl ?_
  intro v4 T4 h4 L4 X4 e4 q4
  obtain ⟨x4, y4, rfl, M4, K4, F4, hH4⟩ := q4
  have N4 := Fr.app N2 M4
  have Z4 : n0 ≤ h4.size := Nat.le_trans Z2 K4.1
  have KK4 : Keep h0 h4 [a1, dA, cA] := K2.trans K4 (by intro x hx_; left; simp only [List.mem_cons, List.not_mem_nil, or_false] at hx_ ⊢; first | (rcases hx_ with h | h | h <;> simp [h]; done) | (rcases hx_ with h | h <;> simp [h]))
  refine own_retV X4 hx lk hret (hb hby d5_22) (by decide) (by decide) ?_
  rw [e4]
  exact ⟨_, _, rfl, N4, KK4, F4, hH4⟩
theorem d8_0 : decode prog_60_method_7_code 0 = .ok (.aload_n 0, 1) := by decide +kernel
theorem d8_1 : decode prog_60_method_7_code 1 = .ok (.dup, 1) := by decide +kernel
theorem d8_2 : decode prog_60_method_7_code 2 = .ok (.getfield 16, 3) := by decide +kernel
theorem d8_5 : decode prog_60_method_7_code 5 = .ok (.iconst 1, 1) := by decide +kernel
theorem d8_6 : decode prog_60_method_7_code 6 = .ok (.isub, 1) := by decide +kernel
theorem d8_7 : decode prog_60_method_7_code 7 = .ok (.putfield 16, 3) := by decide +kernel
theorem d8_10 : decode prog_60_method_7_code 10 = .ok (.iload_n 1, 1) := by decide +kernel
theorem d8_11 : decode prog_60_method_7_code 11 = .ok (.aload_n 0, 1) := by decide +kernel
theorem d8_12 : decode prog_60_method_7_code 12 = .ok (.getfield 16, 3) := by decide +kernel
theorem d8_15 : decode prog_60_method_7_code 15 = .ok (.if_icmp .ge 58, 3) := by decide +kernel
theorem d8_18 : decode prog_60_method_7_code 18 = .ok (.aload_n 0, 1) := by decide +kernel
theorem d8_19 : decode prog_60_method_7_code 19 = .ok (.getfield 13, 3) := by decide +kernel
theorem d8_22 : decode prog_60_method_7_code 22 = .ok (.aload_n 0, 1) := by decide +kernel
theorem d8_23 : decode prog_60_method_7_code 23 = .ok (.getfield 16, 3) := by decide +kernel
theorem d8_26 : decode prog_60_method_7_code 26 = .ok (.iaload, 1) := by decide +kernel
theorem d8_27 : decode prog_60_method_7_code 27 = .ok (.istore_n 2, 1) := by decide +kernel
theorem d8_28 : decode prog_60_method_7_code 28 = .ok (.aload_n 0, 1) := by decide +kernel
theorem d8_29 : decode prog_60_method_7_code 29 = .ok (.getfield 7, 3) := by decide +kernel
theorem d8_32 : decode prog_60_method_7_code 32 = .ok (.aload_n 0, 1) := by decide +kernel
theorem d8_33 : decode prog_60_method_7_code 33 = .ok (.getfield 16, 3) := by decide +kernel
theorem d8_36 : decode prog_60_method_7_code 36 = .ok (.iaload, 1) := by decide +kernel
theorem d8_37 : decode prog_60_method_7_code 37 = .ok (.istore_n 3, 1) := by decide +kernel
theorem d8_38 : decode prog_60_method_7_code 38 = .ok (.iload_n 1, 1) := by decide +kernel
theorem d8_39 : decode prog_60_method_7_code 39 = .ok (.ifCond .le 27, 3) := by decide +kernel
theorem d8_42 : decode prog_60_method_7_code 42 = .ok (.aload_n 0, 1) := by decide +kernel
theorem d8_43 : decode prog_60_method_7_code 43 = .ok (.getfield 7, 3) := by decide +kernel
theorem d8_46 : decode prog_60_method_7_code 46 = .ok (.iload_n 1, 1) := by decide +kernel
theorem d8_47 : decode prog_60_method_7_code 47 = .ok (.iconst 1, 1) := by decide +kernel
theorem d8_48 : decode prog_60_method_7_code 48 = .ok (.isub, 1) := by decide +kernel
theorem d8_49 : decode prog_60_method_7_code 49 = .ok (.iconst 1, 1) := by decide +kernel
theorem d8_50 : decode prog_60_method_7_code 50 = .ok (.iushr, 1) := by decide +kernel
theorem d8_51 : decode prog_60_method_7_code 51 = .ok (.iaload, 1) := by decide +kernel
theorem d8_52 : decode prog_60_method_7_code 52 = .ok (.iload_n 3, 1) := by decide +kernel
theorem d8_53 : decode prog_60_method_7_code 53 = .ok (.if_icmp .le 13, 3) := by decide +kernel
theorem d8_56 : decode prog_60_method_7_code 56 = .ok (.aload_n 0, 1) := by decide +kernel
theorem d8_57 : decode prog_60_method_7_code 57 = .ok (.iload_n 1, 1) := by decide +kernel
theorem d8_58 : decode prog_60_method_7_code 58 = .ok (.iload_n 2, 1) := by decide +kernel
theorem d8_59 : decode prog_60_method_7_code 59 = .ok (.iload_n 3, 1) := by decide +kernel
theorem d8_60 : decode prog_60_method_7_code 60 = .ok (.invokevirtual 20, 3) := by decide +kernel
theorem d8_63 : decode prog_60_method_7_code 63 = .ok (.goto 10, 3) := by decide +kernel
theorem d8_66 : decode prog_60_method_7_code 66 = .ok (.aload_n 0, 1) := by decide +kernel
theorem d8_67 : decode prog_60_method_7_code 67 = .ok (.iload_n 1, 1) := by decide +kernel
theorem d8_68 : decode prog_60_method_7_code 68 = .ok (.iload_n 2, 1) := by decide +kernel
theorem d8_69 : decode prog_60_method_7_code 69 = .ok (.iload_n 3, 1) := by decide +kernel
theorem d8_70 : decode prog_60_method_7_code 70 = .ok (.invokevirtual 28, 3) := by decide +kernel
theorem d8_73 : decode prog_60_method_7_code 73 = .ok (.return_, 1) := by decide +kernel
theorem pn_8 : plainFor (⟨"com/example/vernier_search/verniersearch/search/ClausesByDoc", "removeAt", "(I)V"⟩ : MethodName) = true := by first | exact plainFor_of_name (by first | (simp [plainName, overriddenIn]; done) | decide +kernel) | decide +kernel
theorem ef_8 (m : MethodId) (a1 : Addr) (p2 : Int32) : entryFrame m #[(.ref a1), (.int p2)] 4 = mkF m 0 #[.val (.ref a1), .val (.int p2), .unset, .unset] [] := by first | rfl | (simp [entryFrame, mkF, argsToLocals, Value.category]; done)
theorem pd_8 : parseMethodDescriptor "(I)V" = some ⟨[.int], none⟩ := by decide +kernel
def Q8 (Z : State) (a1 : Addr) (p2 : Int32) (dA : Addr) (cA : Addr) (sz : Int32) (g1 : Nat → Int32) (g2 : Nat → Int32) (k : Nat) (i : Nat) (h0 : Heap) (n0 : Nat) (v : Option Value) (h : Heap) (L : List Loc) : Prop := ∃ g1' g2', v = none ∧ Fr n0 L ∧ Keep h0 h [a1, dA, cA] ∧ CB Z h a1 dA cA (sz - 1) g1' g2'
theorem rm8 (l : Launch) (Z : State) (a0 : Array Value) (hw : ∀ d ∈ tables_1, d.before a0 Z = true) (ws : List Jvm.Cond) (a1 : Addr) (p2 : Int32) (dA : Addr) (cA : Addr) (sz : Int32) (g1 : Nat → Int32) (g2 : Nat → Int32) (k : Nat) (i : Nat) (h0 : Heap) (n0 : Nat) (Z0 : n0 ≤ h0.size) (F0 : CB Z h0 a1 dA cA sz g1 g2) (hne : NE3 n0 a1 dA cA) (hsz : sz.toInt = (k : Int)) (hk : 1 ≤ k) (hk3 : k ≤ 3) (hi : p2.toInt = (i : Int)) (hi3 : i < 3) :
    MetFree l (⟨"com/example/vernier_search/verniersearch/search/ClausesByDoc", "removeAt", "(I)V"⟩ : MethodName) (head1 (Jvm.Cond.code (⟨"com/example/vernier_search/verniersearch/search/ClausesByDoc", "removeAt", "(I)V"⟩ : MethodName) prog_60_method_7_code 4 (none) :: ws) ({ frames := 1, cells := 0, slots := 0, locals := 17 } : Room)) (fun a U => a = #[(.ref a1), (.int p2)] ∧ Z.Warmed39 U.vm ∧ U.heap = h0) (fun _ _ _ _ _ => True) (fun _ U o U' => ∃ v L, o = .returned v ∧ (Q8 Z a1 p2 dA cA sz g1 g2 k i h0 n0) v U'.heap L ∧ FrameEnd U o U' L ({ frames := 1, cells := 0, slots := 0, locals := 17 } : Room).cells ({ frames := 1, cells := 0, slots := 0, locals := 17 } : Room).slots) := by
  refine MetFree.of_bodySF pn_8 hisR ?_
  intro p e s m args below meth c s₁ Bd hml0 hP hK
  obtain ⟨rfl, hZ, hh⟩ := hP
  have hx := Bd.exec
  have hby := Bd.bytes
  have hml : c.maxLocals = 4 := hml0
  have hown : s.vm.findClass "com/example/vernier_search/verniersearch/search/ClausesByDoc" = some m.cls := findClass_of_methodNamed Bd.named
  have hnm := (name_of_methodNamed Bd.named Bd.method).1
  have X0 : Stand p l e ({ frames := 1, cells := 0, slots := 0, locals := 17 } : Room) s m #[(.ref a1), (.int p2)] below meth c s₁ [] 0 0 := Stand.of_body Bd
  have e0 : s₁.heap = h0 := by rw [← hh, Bd.state]; rfl
  have N0 := Fr.nil n0
  have lk : meth.locks = false := BodyLoose.notSynchronized Bd
  have hret := Bd.returns
  show Ends p e below s ({ frames := 1, cells := 0, slots := 0, locals := 17 } : Room).cells ({ frames := 1, cells := 0, slots := 0, locals := 17 } : Room).slots (Q8 Z a1 p2 dA cA sz g1 g2 k i h0 n0) (s₁.setTop (entryFrame m #[(.ref a1), (.int p2)] 4))
  refine Ends.cast (ef_8 m a1 p2) ?_
  have o0 : (0 : Int32).toInt = 0 := rfl
  have o1 : (1 : Int32).toInt = 1 := rfl
  have o2 : (2 : Int32).toInt = 2 := rfl
  have o3 : (3 : Int32).toInt = 3 := rfl
  refine own_aloadN (n := 1) X0 hx (hb hby d8_0) rfl rfl rfl ?_
  refine own_dup (n := 2) X0 hx (hb hby d8_1) rfl rfl ?_
  refine own_getF (n := 5) X0 hx hZ hown (hw _ (List.mem_of_getElem? (i := 23) rfl)) e0 F0.1.2.2.2 (hb hby d8_2) rfl ?_
  intro T1 X1 e1
  refine own_iconst (n := 6) X1 hx (1 : Int32) (hb hby d8_5) rfl rfl ?_
  refine own_isub (n := 7) X1 hx (hb hby d8_6) rfl ?_
  refine own_putF (n := 10) X1 hx hZ hown (hw _ (List.mem_of_getElem? (i := 23) rfl)) e1 F0.1.2.2.2 F0.1.1 (Or.inl (hw _ (List.mem_of_getElem? (i := 24) rfl))) (hw _ (List.mem_of_getElem? (i := 5) rfl)) (ty := .int) (by decide) rfl rfl (hb hby d8_7) rfl ?_
  intro T2 h2 X2 e2 W2
  have N2 := Fr.snoc X2 N0 hne.1
  have Z2 : n0 ≤ h2.size := Nat.le_trans Z0 (Keep.of_wr W2).1
  have F2_a1 := F0.1.set_size hw W2
  have F2_dA := F0.2.1.wrO W2 (Ne.symm hne.2.2.2.1)
  have F2_cA := F0.2.2.wrO W2 (Ne.symm hne.2.2.2.2.1)
  have K2 : Keep h0 h2 [a1, dA, cA] := (Keep.refl h0 [a1, dA, cA]).wr W2 (Or.inl (List.mem_of_getElem? (i := 0) rfl))
  refine own_iloadN (n := 11) X2 hx (hb hby d8_10) rfl rfl ?_
  refine own_aloadN (n := 12) X2 hx (hb hby d8_11) rfl rfl rfl ?_
  refine own_getF (n := 15) X2 hx hZ hown (hw _ (List.mem_of_getElem? (i := 23) rfl)) e2 F2_a1.2.2.2 (hb hby d8_12) rfl ?_
  intro T3 X3 e3
  by_cases c15 : p2 < (sz - (1 : Int32))
  · refine own_icmpNo (n := 18) X3 hx (hb hby d8_15) (Jvm.Free.XT.ii_ge_f c15) rfl ?_
    refine own_aloadN (n := 19) X3 hx (hb hby d8_18) rfl rfl rfl ?_
    refine own_getF (n := 22) X3 hx hZ hown (hw _ (List.mem_of_getElem? (i := 16) rfl)) e3 F2_a1.2.2.1 (hb hby d8_19) rfl ?_
    intro T4 X4 e4
    refine own_aloadN (n := 23) X4 hx (hb hby d8_22) rfl rfl rfl ?_
    refine own_getF (n := 26) X4 hx hZ hown (hw _ (List.mem_of_getElem? (i := 23) rfl)) e4 F2_a1.2.2.2 (hb hby d8_23) rfl ?_
    intro T5 X5 e5
    refine own_iaload (n := 27) X5 hx hZ e5 F2_cA (i := (k - 1)) (own_sub1 hsz (by omega)) (by omega) (hb hby d8_26) rfl ?_
    refine own_istoreN (n := 28) X5 hx (hb hby d8_27) (l' := #[.val (.ref a1), .val (.int p2), .val (.int (g2 (k - 1))), .unset]) rfl rfl ?_
    refine own_aloadN (n := 29) X5 hx (hb hby d8_28) rfl rfl rfl ?_
    refine own_getF (n := 32) X5 hx hZ hown (hw _ (List.mem_of_getElem? (i := 14) rfl)) e5 F2_a1.2.1 (hb hby d8_29) rfl ?_
    intro T6 X6 e6
    refine own_aloadN (n := 33) X6 hx (hb hby d8_32) rfl rfl rfl ?_
    refine own_getF (n := 36) X6 hx hZ hown (hw _ (List.mem_of_getElem? (i := 23) rfl)) e6 F2_a1.2.2.2 (hb hby d8_33) rfl ?_
    intro T7 X7 e7
    refine own_iaload (n := 37) X7 hx hZ e7 F2_dA (i := (k - 1)) (own_sub1 hsz (by omega)) (by omega) (hb hby d8_36) rfl ?_
    refine own_istoreN (n := 38) X7 hx (hb hby d8_37) (l' := #[.val (.ref a1), .val (.int p2), .val (.int (g2 (k - 1))), .val (.int (g1 (k - 1)))]) rfl rfl ?_
    refine own_iloadN (n := 39) X7 hx (hb hby d8_38) rfl rfl ?_
    by_cases c39 : 0 < p2
    · refine own_ifNo (n := 42) X7 hx (hb hby d8_39) (Jvm.Free.XT.i0_le_f c39) rfl ?_
      refine own_aloadN (n := 43) X7 hx (hb hby d8_42) rfl rfl rfl ?_
      refine own_getF (n := 46) X7 hx hZ hown (hw _ (List.mem_of_getElem? (i := 14) rfl)) e7 F2_a1.2.1 (hb hby d8_43) rfl ?_
      intro T8 X8 e8
      refine own_iloadN (n := 47) X8 hx (hb hby d8_46) rfl rfl ?_
      refine own_iconst (n := 48) X8 hx (1 : Int32) (hb hby d8_47) rfl rfl ?_
      refine own_isub (n := 49) X8 hx (hb hby d8_48) rfl ?_
      refine own_iconst (n := 50) X8 hx (1 : Int32) (hb hby d8_49) rfl rfl ?_
      refine own_iushr (n := 51) X8 hx (hb hby d8_50) rfl ?_
      refine own_iaload (n := 52) X8 hx hZ e8 F2_dA (i := ((i - 1) / 2)) (own_half hi (by rw [Int32.lt_iff_toInt_lt] at c39; omega)) (by omega) (hb hby d8_51) rfl ?_
      refine own_iloadN (n := 53) X8 hx (hb hby d8_52) rfl rfl ?_
      by_cases c53 : (g1 (k - 1)) < (g1 ((i - 1) / 2))
      · refine own_icmpNo (n := 56) X8 hx (hb hby d8_53) (Jvm.Free.XT.ii_le_f c53) rfl ?_
        refine own_aloadN (n := 57) X8 hx (hb hby d8_56) rfl rfl rfl ?_
        refine own_iloadN (n := 58) X8 hx (hb hby d8_57) rfl rfl ?_
        refine own_iloadN (n := 59) X8 hx (hb hby d8_58) rfl rfl ?_
        refine own_iloadN (n := 60) X8 hx (hb hby d8_59) rfl rfl ?_
        refine own_callP (n := 63) X8 hx hZ hown (hw _ (List.mem_of_getElem? (i := 30) rfl)) (hw _ (List.mem_of_getElem? (i := 31) rfl)) (hw _ (List.mem_of_getElem? (i := 32) rfl)) (hw _ (List.mem_of_getElem? (i := 21) rfl)) rfl (hw _ (List.mem_of_getElem? (i := 6) rfl)) (hw _ (List.mem_of_getElem? (i := 33) rfl)) (by decide) e8 F2_a1.1 (rm6 l Z a0 hw [] a1 p2 (g2 (k - 1)) (g1 (k - 1)) dA cA (sz - (1 : Int32)) g1 g2 i 3 h2 n0 Z2 ⟨F2_a1, F2_dA, F2_cA⟩ ⟨hne.1, hne.2.1, hne.2.2.1, hne.2.2.2.1, hne.2.2.2.2.1, hne.2.2.2.2.2⟩ hi hi3 (Nat.le_refl _)) (W := 0) (by decide) (by decide) (by decide) (by decide) (by rw [hml]; rfl) (argsL := [(.int p2), (.int (g2 (k - 1))), (.int (g1 (k - 1)))]) (rest := []) pd_6 rfl (by rfl) (Nat.le_of_eq rfl) (hb hby d8_60) rfl rfl ?_
        intro v9 T9 h9 L9 X9 e9 q9
        obtain ⟨x9, y9, rfl, M9, K9, F9, hH9⟩ := q9
        have N9 := Fr.app N2 M9
        have Z9 : n0 ≤ h9.size := Nat.le_trans Z2 K9.1
        have KK9 : Keep h0 h9 [a1, dA, cA] := K2.trans K9 (by intro x hx_; left; simp only [List.mem_cons, List.not_mem_nil, or_false] at hx_ ⊢; first | (rcases hx_ with h | h | h <;> simp [h]; done) | (rcases hx_ with h | h <;> simp [h]))
        refine own_goto (n := 73) X9 hx (hb hby d8_63) (by decide) (by decide) ?_
        refine own_retV X9 hx lk hret (hb hby d8_73) (by decide) (by decide) ?_
        rw [e9]
        exact ⟨_, _, rfl, N9, KK9, F9.1, F9.2.1, F9.2.2⟩
      · refine own_icmpYes (n := 66) X8 hx (hb hby d8_53) (Jvm.Free.XT.ii_le_t c53) (by decide) (by decide) ?_
        refine own_aloadN (n := 67) X8 hx (hb hby d8_66) rfl rfl rfl ?_
        refine own_iloadN (n := 68) X8 hx (hb hby d8_67) rfl rfl ?_
        refine own_iloadN (n := 69) X8 hx (hb hby d8_68) rfl rfl ?_
        refine own_iloadN (n := 70) X8 hx (hb hby d8_69) rfl rfl ?_
        refine own_callP (n := 73) X8 hx hZ hown (hw _ (List.mem_of_getElem? (i := 43) rfl)) (hw _ (List.mem_of_getElem? (i := 44) rfl)) (hw _ (List.mem_of_getElem? (i := 45) rfl)) (hw _ (List.mem_of_getElem? (i := 21) rfl)) rfl (hw _ (List.mem_of_getElem? (i := 6) rfl)) (hw _ (List.mem_of_getElem? (i := 46) rfl)) (by decide) e8 F2_a1.1 (rm9 l Z a0 hw [] a1 p2 (g2 (k - 1)) (g1 (k - 1)) dA cA (sz - (1 : Int32)) g1 g2 i (k - 1) h2 n0 Z2 ⟨F2_a1, F2_dA, F2_cA⟩ ⟨hne.1, hne.2.1, hne.2.2.1, hne.2.2.2.1, hne.2.2.2.2.1, hne.2.2.2.2.2⟩ hi hi3 (own_sub1 hsz (by omega)) (by omega)) (W := 0) (by decide) (by decide) (by decide) (by decide) (by rw [hml]; rfl) (argsL := [(.int p2), (.int (g2 (k - 1))), (.int (g1 (k - 1)))]) (rest := []) pd_9 rfl (by rfl) (Nat.le_of_eq rfl) (hb hby d8_70) rfl rfl ?_
        intro v10 T10 h10 L10 X10 e10 q10
        obtain ⟨x10, y10, rfl, M10, K10, F10⟩ := q10
        have N10 := Fr.app N2 M10
        have Z10 : n0 ≤ h10.size := Nat.le_trans Z2 K10.1
        have KK10 : Keep h0 h10 [a1, dA, cA] := K2.trans K10 (by intro x hx_; left; simp only [List.mem_cons, List.not_mem_nil, or_false] at hx_ ⊢; first | (rcases hx_ with h | h | h <;> simp [h]; done) | (rcases hx_ with h | h <;> simp [h]))
        refine own_retV X10 hx lk hret (hb hby d8_73) (by decide) (by decide) ?_
        rw [e10]
        exact ⟨_, _, rfl, N10, KK10, F10.1, F10.2.1, F10.2.2⟩
    · refine own_ifYes (n := 66) X7 hx (hb hby d8_39) (Jvm.Free.XT.i0_le_t c39) (by decide) (by decide) ?_
      refine own_aloadN (n := 67) X7 hx (hb hby d8_66) rfl rfl rfl ?_
      refine own_iloadN (n := 68) X7 hx (hb hby d8_67) rfl rfl ?_
      refine own_iloadN (n := 69) X7 hx (hb hby d8_68) rfl rfl ?_
      refine own_iloadN (n := 70) X7 hx (hb hby d8_69) rfl rfl ?_
      refine own_callP (n := 73) X7 hx hZ hown (hw _ (List.mem_of_getElem? (i := 43) rfl)) (hw _ (List.mem_of_getElem? (i := 44) rfl)) (hw _ (List.mem_of_getElem? (i := 45) rfl)) (hw _ (List.mem_of_getElem? (i := 21) rfl)) rfl (hw _ (List.mem_of_getElem? (i := 6) rfl)) (hw _ (List.mem_of_getElem? (i := 46) rfl)) (by decide) e7 F2_a1.1 (rm9 l Z a0 hw [] a1 p2 (g2 (k - 1)) (g1 (k - 1)) dA cA (sz - (1 : Int32)) g1 g2 i (k - 1) h2 n0 Z2 ⟨F2_a1, F2_dA, F2_cA⟩ ⟨hne.1, hne.2.1, hne.2.2.1, hne.2.2.2.1, hne.2.2.2.2.1, hne.2.2.2.2.2⟩ hi hi3 (own_sub1 hsz (by omega)) (by omega)) (W := 0) (by decide) (by decide) (by decide) (by decide) (by rw [hml]; rfl) (argsL := [(.int p2), (.int (g2 (k - 1))), (.int (g1 (k - 1)))]) (rest := []) pd_9 rfl (by rfl) (Nat.le_of_eq rfl) (hb hby d8_70) rfl rfl ?_
      intro v11 T11 h11 L11 X11 e11 q11
      obtain ⟨x11, y11, rfl, M11, K11, F11⟩ := q11
      have N11 := Fr.app N2 M11
      have Z11 : n0 ≤ h11.size := Nat.le_trans Z2 K11.1
      have KK11 : Keep h0 h11 [a1, dA, cA] := K2.trans K11 (by intro x hx_; left; simp only [List.mem_cons, List.not_mem_nil, or_false] at hx_ ⊢; first | (rcases hx_ with h | h | h <;> simp [h]; done) | (rcases hx_ with h | h <;> simp [h]))
      refine own_retV X11 hx lk hret (hb hby d8_73) (by decide) (by decide) ?_
      rw [e11]
      exact ⟨_, _, rfl, N11, KK11, F11.1, F11.2.1, F11.2.2⟩
  · refine own_icmpYes (n := 73) X3 hx (hb hby d8_15) (Jvm.Free.XT.ii_ge_t c15) (by decide) (by decide) ?_
    refine own_retV X3 hx lk hret (hb hby d8_73) (by decide) (by decide) ?_
    rw [e3]
    exact ⟨_, _, rfl, N2, K2, F2_a1, F2_dA, F2_cA⟩
theorem d10_0 : decode prog_60_method_5_code 0 = .ok (.aload_n 0, 1) := by decide +kernel
theorem d10_1 : decode prog_60_method_5_code 1 = .ok (.getfield 13, 3) := by decide +kernel
theorem d10_4 : decode prog_60_method_5_code 4 = .ok (.iconst 0, 1) := by decide +kernel
theorem d10_5 : decode prog_60_method_5_code 5 = .ok (.iaload, 1) := by decide +kernel
theorem d10_6 : decode prog_60_method_5_code 6 = .ok (.istore_n 1, 1) := by decide +kernel
theorem d10_7 : decode prog_60_method_5_code 7 = .ok (.aload_n 0, 1) := by decide +kernel
theorem d10_8 : decode prog_60_method_5_code 8 = .ok (.iconst 0, 1) := by decide +kernel
theorem d10_9 : decode prog_60_method_5_code 9 = .ok (.invokevirtual 24, 3) := by decide +kernel
theorem d10_12 : decode prog_60_method_5_code 12 = .ok (.iload_n 1, 1) := by decide +kernel
theorem d10_13 : decode prog_60_method_5_code 13 = .ok (.ireturn, 1) := by decide +kernel
theorem pn_10 : plainFor (⟨"com/example/vernier_search/verniersearch/search/ClausesByDoc", "poll", "()I"⟩ : MethodName) = true := by first | exact plainFor_of_name (by first | (simp [plainName, overriddenIn]; done) | decide +kernel) | decide +kernel
theorem ef_10 (m : MethodId) (a1 : Addr) : entryFrame m #[(.ref a1)] 2 = mkF m 0 #[.val (.ref a1), .unset] [] := by first | rfl | (simp [entryFrame, mkF, argsToLocals, Value.category]; done)
theorem pd_10 : parseMethodDescriptor "()I" = some ⟨[], some .int⟩ := by decide +kernel
def Q10 (Z : State) (a1 : Addr) (dA : Addr) (cA : Addr) (sz : Int32) (g1 : Nat → Int32) (g2 : Nat → Int32) (k : Nat) (h0 : Heap) (n0 : Nat) (v : Option Value) (h : Heap) (L : List Loc) : Prop := ∃ r, ∃ g1' g2', v = some (.int r) ∧ Fr n0 L ∧ Keep h0 h [a1, dA, cA] ∧ CB Z h a1 dA cA (sz - 1) g1' g2'
theorem rm10 (l : Launch) (Z : State) (a0 : Array Value) (hw : ∀ d ∈ tables_1, d.before a0 Z = true) (ws : List Jvm.Cond) (a1 : Addr) (dA : Addr) (cA : Addr) (sz : Int32) (g1 : Nat → Int32) (g2 : Nat → Int32) (k : Nat) (h0 : Heap) (n0 : Nat) (Z0 : n0 ≤ h0.size) (F0 : CB Z h0 a1 dA cA sz g1 g2) (hne : NE3 n0 a1 dA cA) (hsz : sz.toInt = (k : Int)) (hk : 1 ≤ k) (hk3 : k ≤ 3) :
    MetFree l (⟨"com/example/vernier_search/verniersearch/search/ClausesByDoc", "poll", "()I"⟩ : MethodName) (head1 (Jvm.Cond.code (⟨"com/example/vernier_search/verniersearch/search/ClausesByDoc", "poll", "()I"⟩ : MethodName) prog_60_method_5_code 2 (some .int) :: ws) ({ frames := 2, cells := 0, slots := 0, locals := 32 } : Room)) (fun a U => a = #[(.ref a1)] ∧ Z.Warmed39 U.vm ∧ U.heap = h0) (fun _ _ _ _ _ => True) (fun _ U o U' => ∃ v L, o = .returned v ∧ (Q10 Z a1 dA cA sz g1 g2 k h0 n0) v U'.heap L ∧ FrameEnd U o U' L ({ frames := 2, cells := 0, slots := 0, locals := 32 } : Room).cells ({ frames := 2, cells := 0, slots := 0, locals := 32 } : Room).slots) := by
  refine MetFree.of_bodySF pn_10 hisR ?_
  intro p e s m args below meth c s₁ Bd hml0 hP hK
  obtain ⟨rfl, hZ, hh⟩ := hP
  have hx := Bd.exec
  have hby := Bd.bytes
  have hml : c.maxLocals = 2 := hml0
  have hown : s.vm.findClass "com/example/vernier_search/verniersearch/search/ClausesByDoc" = some m.cls := findClass_of_methodNamed Bd.named
  have hnm := (name_of_methodNamed Bd.named Bd.method).1
  have X0 : Stand p l e ({ frames := 2, cells := 0, slots := 0, locals := 32 } : Room) s m #[(.ref a1)] below meth c s₁ [] 0 0 := Stand.of_body Bd
  have e0 : s₁.heap = h0 := by rw [← hh, Bd.state]; rfl
  have N0 := Fr.nil n0
  have lk : meth.locks = false := BodyLoose.notSynchronized Bd
  have hret := Bd.returns
  show Ends p e below s ({ frames := 2, cells := 0, slots := 0, locals := 32 } : Room).cells ({ frames := 2, cells := 0, slots := 0, locals := 32 } : Room).slots (Q10 Z a1 dA cA sz g1 g2 k h0 n0) (s₁.setTop (entryFrame m #[(.ref a1)] 2))
  refine Ends.cast (ef_10 m a1) ?_
  have o0 : (0 : Int32).toInt = 0 := rfl
  have o1 : (1 : Int32).toInt = 1 := rfl
  have o2 : (2 : Int32).toInt = 2 := rfl
  have o3 : (3 : Int32).toInt = 3 := rfl
  refine own_aloadN (n := 1) X0 hx (hb hby d10_0) rfl rfl rfl ?_
  refine own_getF (n := 4) X0 hx hZ hown (hw _ (List.mem_of_getElem? (i := 16) rfl)) e0 F0.1.2.2.1 (hb hby d10_1) rfl ?_
  intro T1 X1 e1
  refine own_iconst (n := 5) X1 hx (0 : Int32) (hb hby d10_4) rfl rfl ?_
  refine own_iaload (n := 6) X1 hx hZ e1 F0.2.2 (i := 0) o0 (by decide) (hb hby d10_5) rfl ?_
  refine own_istoreN (n := 7) X1 hx (hb hby d10_6) (l' := #[.val (.ref a1), .val (.int (g2 0))]) rfl rfl ?_
  refine own_aloadN (n := 8) X1 hx (hb hby d10_7) rfl rfl rfl ?_
  refine own_iconst (n := 9) X1 hx (0 : Int32) (hb hby d10_8) rfl rfl ?_
  refine own_callP (n := 12) X1 hx hZ hown (hw _ (List.mem_of_getElem? (i := 39) rfl)) (hw _ (List.mem_of_getElem? (i := 40) rfl)) (hw _ (List.mem_of_getElem? (i := 41) rfl)) (hw _ (List.mem_of_getElem? (i := 21) rfl)) rfl (hw _ (List.mem_of_getElem? (i := 6) rfl)) (hw _ (List.mem_of_getElem? (i := 42) rfl)) (by decide) e1 F0.1.1 (rm8 l Z a0 hw [] a1 (0 : Int32) dA cA sz g1 g2 k 0 h0 n0 Z0 ⟨F0.1, F0.2.1, F0.2.2⟩ ⟨hne.1, hne.2.1, hne.2.2.1, hne.2.2.2.1, hne.2.2.2.2.1, hne.2.2.2.2.2⟩ hsz hk hk3 o0 (by decide)) (W := 0) (by decide) (by decide) (by decide) (by decide) (by rw [hml]; rfl) (argsL := [(.int (0 : Int32))]) (rest := []) pd_8 rfl (by rfl) (Nat.le_of_eq rfl) (hb hby d10_9) rfl rfl ?_
  intro v2 T2 h2 L2 X2 e2 q2
  obtain ⟨x2, y2, rfl, M2, K2, F2⟩ := q2
  have N2 := Fr.app N0 M2
  have Z2 : n0 ≤ h2.size := Nat.le_trans Z0 K2.1
  have KK2 : Keep h0 h2 [a1, dA, cA] := (Keep.refl h0 [a1, dA, cA]).trans K2 (by intro x hx_; left; simp only [List.mem_cons, List.not_mem_nil, or_false] at hx_ ⊢; first | (rcases hx_ with h | h | h <;> simp [h]; done) | (rcases hx_ with h | h <;> simp [h]))
  refine own_iloadN (n := 13) X2 hx (hb hby d10_12) rfl rfl ?_
  refine own_retI X2 hx lk hret (hb hby d10_13) (by decide) (by decide) ?_
  rw [e2]
  exact ⟨_, _, _, rfl, N2, KK2, F2.1, F2.2.1, F2.2.2⟩
theorem d7_0 : decode prog_60_method_6_code 0 = .ok (.iconst 0, 1) := by decide +kernel
theorem d7_1 : decode prog_60_method_6_code 1 = .ok (.istore_n 2, 1) := by decide +kernel
theorem d7_2 : decode prog_60_method_6_code 2 = .ok (.aload_n 0, 1) := by decide +kernel
theorem d7_3 : decode prog_60_method_6_code 3 = .ok (.getfield 13, 3) := by decide +kernel
theorem d7_6 : decode prog_60_method_6_code 6 = .ok (.iload_n 2, 1) := by decide +kernel
theorem d7_7 : decode prog_60_method_6_code 7 = .ok (.iaload, 1) := by decide +kernel
theorem d7_8 : decode prog_60_method_6_code 8 = .ok (.iload_n 1, 1) := by decide +kernel
theorem d7_9 : decode prog_60_method_6_code 9 = .ok (.if_icmp .eq 9, 3) := by decide +kernel
theorem d7_12 : decode prog_60_method_6_code 12 = .ok (.iinc 2 1, 3) := by decide +kernel
theorem d7_15 : decode prog_60_method_6_code 15 = .ok (.goto (-13), 3) := by decide +kernel
theorem d7_18 : decode prog_60_method_6_code 18 = .ok (.aload_n 0, 1) := by decide +kernel
theorem d7_19 : decode prog_60_method_6_code 19 = .ok (.iload_n 2, 1) := by decide +kernel
theorem d7_20 : decode prog_60_method_6_code 20 = .ok (.invokevirtual 24, 3) := by decide +kernel
theorem d7_23 : decode prog_60_method_6_code 23 = .ok (.return_, 1) := by decide +kernel
theorem pn_7 : plainFor (⟨"com/example/vernier_search/verniersearch/search/ClausesByDoc", "remove", "(I)V"⟩ : MethodName) = true := by first | exact plainFor_of_name (by first | (simp [plainName, overriddenIn]; done) | decide +kernel) | decide +kernel
theorem ef_7 (m : MethodId) (a1 : Addr) (p2 : Int32) : entryFrame m #[(.ref a1), (.int p2)] 3 = mkF m 0 #[.val (.ref a1), .val (.int p2), .unset] [] := by first | rfl | (simp [entryFrame, mkF, argsToLocals, Value.category]; done)
theorem pd_7 : parseMethodDescriptor "(I)V" = some ⟨[.int], none⟩ := by decide +kernel
def Q7 (Z : State) (a1 : Addr) (p2 : Int32) (dA : Addr) (cA : Addr) (sz : Int32) (g1 : Nat → Int32) (g2 : Nat → Int32) (k : Nat) (h0 : Heap) (n0 : Nat) (v : Option Value) (h : Heap) (L : List Loc) : Prop := ∃ g1' g2', v = none ∧ Fr n0 L ∧ Keep h0 h [a1, dA, cA] ∧ CB Z h a1 dA cA (sz - 1) g1' g2'
theorem rm7 (l : Launch) (Z : State) (a0 : Array Value) (hw : ∀ d ∈ tables_1, d.before a0 Z = true) (ws : List Jvm.Cond) (a1 : Addr) (p2 : Int32) (dA : Addr) (cA : Addr) (sz : Int32) (g1 : Nat → Int32) (g2 : Nat → Int32) (k : Nat) (h0 : Heap) (n0 : Nat) (Z0 : n0 ≤ h0.size) (F0 : CB Z h0 a1 dA cA sz g1 g2) (hne : NE3 n0 a1 dA cA) (hsz : sz.toInt = (k : Int)) (hk : 1 ≤ k) (hk3 : k ≤ 3) (w : Nat) (hw3 : w < 3) (hw0 : g2 w = p2) :
    MetFree l (⟨"com/example/vernier_search/verniersearch/search/ClausesByDoc", "remove", "(I)V"⟩ : MethodName) (head1 (Jvm.Cond.code (⟨"com/example/vernier_search/verniersearch/search/ClausesByDoc", "remove", "(I)V"⟩ : MethodName) prog_60_method_6_code 3 (none) :: ws) ({ frames := 2, cells := 0, slots := 0, locals := 32 } : Room)) (fun a U => a = #[(.ref a1), (.int p2)] ∧ Z.Warmed39 U.vm ∧ U.heap = h0) (fun _ _ _ _ _ => True) (fun _ U o U' => ∃ v L, o = .returned v ∧ (Q7 Z a1 p2 dA cA sz g1 g2 k h0 n0) v U'.heap L ∧ FrameEnd U o U' L ({ frames := 2, cells := 0, slots := 0, locals := 32 } : Room).cells ({ frames := 2, cells := 0, slots := 0, locals := 32 } : Room).slots) := by
  refine MetFree.of_bodySF pn_7 hisR ?_
  intro p e s m args below meth c s₁ Bd hml0 hP hK
  obtain ⟨rfl, hZ, hh⟩ := hP
  have hx := Bd.exec
  have hby := Bd.bytes
  have hml : c.maxLocals = 3 := hml0
  have hown : s.vm.findClass "com/example/vernier_search/verniersearch/search/ClausesByDoc" = some m.cls := findClass_of_methodNamed Bd.named
  have hnm := (name_of_methodNamed Bd.named Bd.method).1
  have X0 : Stand p l e ({ frames := 2, cells := 0, slots := 0, locals := 32 } : Room) s m #[(.ref a1), (.int p2)] below meth c s₁ [] 0 0 := Stand.of_body Bd
  have e0 : s₁.heap = h0 := by rw [← hh, Bd.state]; rfl
  have N0 := Fr.nil n0
  have lk : meth.locks = false := BodyLoose.notSynchronized Bd
  have hret := Bd.returns
  show Ends p e below s ({ frames := 2, cells := 0, slots := 0, locals := 32 } : Room).cells ({ frames := 2, cells := 0, slots := 0, locals := 32 } : Room).slots (Q7 Z a1 p2 dA cA sz g1 g2 k h0 n0) (s₁.setTop (entryFrame m #[(.ref a1), (.int p2)] 3))
  refine Ends.cast (ef_7 m a1 p2) ?_
  have o0 : (0 : Int32).toInt = 0 := rfl
  have o1 : (1 : Int32).toInt = 1 := rfl
  have o2 : (2 : Int32).toInt = 2 := rfl
  have o3 : (3 : Int32).toInt = 3 := rfl
  have loop : ∀ (n : Nat) (TB : State) (hB : Heap) (lB : List Loc) (at_ : Int32) (j : Nat) (XB : Stand p l e ({ frames := 2, cells := 0, slots := 0, locals := 32 } : Room) s m #[(.ref a1), (.int p2)] below meth c TB lB (0) (0)) (eB : TB.heap = hB) (NB : Fr n0 lB) (ZB : n0 ≤ hB.size) (hat : at_.toInt = (j : Int)) (hjw : j + n = w) (eh : hB = h0) (el : Fr n0 lB), Ends p e below s ({ frames := 2, cells := 0, slots := 0, locals := 32 } : Room).cells ({ frames := 2, cells := 0, slots := 0, locals := 32 } : Room).slots (Q7 Z a1 p2 dA cA sz g1 g2 k h0 n0) (TB.setTop (mkF m 2 #[.val (.ref a1), .val (.int p2), .val (.int at_)] [])) := by
    intro n
    induction n with
    | zero =>
      intro TB hB lB at_ j XB eB NB ZB hat hjw eh el
      rw [eh] at eB
      obtain rfl : j = w := by omega
      refine own_aloadN (n := 3) XB hx (hb hby d7_2) rfl rfl rfl ?_
      refine own_getF (n := 6) XB hx hZ hown (hw _ (List.mem_of_getElem? (i := 16) rfl)) eB F0.1.2.2.1 (hb hby d7_3) rfl ?_
      intro T1 X1 e1
      refine own_iloadN (n := 7) X1 hx (hb hby d7_6) rfl rfl ?_
      refine own_iaload (n := 8) X1 hx hZ e1 F0.2.2 (i := j) hat (by omega) (hb hby d7_7) rfl ?_
      refine own_iloadN (n := 9) X1 hx (hb hby d7_8) rfl rfl ?_
      refine own_icmpYes (n := 18) X1 hx (hb hby d7_9) (Jvm.Free.XT.ii_eq_t hw0) (by decide) (by decide) ?_
      refine own_aloadN (n := 19) X1 hx (hb hby d7_18) rfl rfl rfl ?_
      refine own_iloadN (n := 20) X1 hx (hb hby d7_19) rfl rfl ?_
      refine own_callP (n := 23) X1 hx hZ hown (hw _ (List.mem_of_getElem? (i := 39) rfl)) (hw _ (List.mem_of_getElem? (i := 40) rfl)) (hw _ (List.mem_of_getElem? (i := 41) rfl)) (hw _ (List.mem_of_getElem? (i := 21) rfl)) rfl (hw _ (List.mem_of_getElem? (i := 6) rfl)) (hw _ (List.mem_of_getElem? (i := 42) rfl)) (by decide) e1 F0.1.1 (rm8 l Z a0 hw [] a1 at_ dA cA sz g1 g2 k j h0 n0 Z0 ⟨F0.1, F0.2.1, F0.2.2⟩ ⟨hne.1, hne.2.1, hne.2.2.1, hne.2.2.2.1, hne.2.2.2.2.1, hne.2.2.2.2.2⟩ hsz hk hk3 hat (by omega)) (W := 0) (by decide) (by decide) (by decide) (by decide) (by rw [hml]; rfl) (argsL := [(.int at_)]) (rest := []) pd_8 rfl (by rfl) (Nat.le_of_eq rfl) (hb hby d7_20) rfl rfl ?_
      intro v2 T2 h2 L2 X2 e2 q2
      obtain ⟨x2, y2, rfl, M2, K2, F2⟩ := q2
      have N2 := Fr.app NB M2
      have Z2 : n0 ≤ h2.size := Nat.le_trans Z0 K2.1
      have KK2 : Keep h0 h2 [a1, dA, cA] := (Keep.refl h0 [a1, dA, cA]).trans K2 (by intro x hx_; left; simp only [List.mem_cons, List.not_mem_nil, or_false] at hx_ ⊢; first | (rcases hx_ with h | h | h <;> simp [h]; done) | (rcases hx_ with h | h <;> simp [h]))
      refine own_retV X2 hx lk hret (hb hby d7_23) (by decide) (by decide) ?_
      rw [e2]
      exact ⟨_, _, rfl, N2, KK2, F2.1, F2.2.1, F2.2.2⟩
    | succ n ih =>
      intro TB hB lB at_ j XB eB NB ZB hat hjw eh el
      rw [eh] at eB
      refine own_aloadN (n := 3) XB hx (hb hby d7_2) rfl rfl rfl ?_
      refine own_getF (n := 6) XB hx hZ hown (hw _ (List.mem_of_getElem? (i := 16) rfl)) eB F0.1.2.2.1 (hb hby d7_3) rfl ?_
      intro T3 X3 e3
      refine own_iloadN (n := 7) X3 hx (hb hby d7_6) rfl rfl ?_
      refine own_iaload (n := 8) X3 hx hZ e3 F0.2.2 (i := j) hat (by omega) (hb hby d7_7) rfl ?_
      refine own_iloadN (n := 9) X3 hx (hb hby d7_8) rfl rfl ?_
      by_cases c9 : (g2 j) = p2
      · refine own_icmpYes (n := 18) X3 hx (hb hby d7_9) (Jvm.Free.XT.ii_eq_t c9) (by decide) (by decide) ?_
        refine own_aloadN (n := 19) X3 hx (hb hby d7_18) rfl rfl rfl ?_
        refine own_iloadN (n := 20) X3 hx (hb hby d7_19) rfl rfl ?_
        refine own_callP (n := 23) X3 hx hZ hown (hw _ (List.mem_of_getElem? (i := 39) rfl)) (hw _ (List.mem_of_getElem? (i := 40) rfl)) (hw _ (List.mem_of_getElem? (i := 41) rfl)) (hw _ (List.mem_of_getElem? (i := 21) rfl)) rfl (hw _ (List.mem_of_getElem? (i := 6) rfl)) (hw _ (List.mem_of_getElem? (i := 42) rfl)) (by decide) e3 F0.1.1 (rm8 l Z a0 hw [] a1 at_ dA cA sz g1 g2 k j h0 n0 Z0 ⟨F0.1, F0.2.1, F0.2.2⟩ ⟨hne.1, hne.2.1, hne.2.2.1, hne.2.2.2.1, hne.2.2.2.2.1, hne.2.2.2.2.2⟩ hsz hk hk3 hat (by omega)) (W := 0) (by decide) (by decide) (by decide) (by decide) (by rw [hml]; rfl) (argsL := [(.int at_)]) (rest := []) pd_8 rfl (by rfl) (Nat.le_of_eq rfl) (hb hby d7_20) rfl rfl ?_
        intro v4 T4 h4 L4 X4 e4 q4
        obtain ⟨x4, y4, rfl, M4, K4, F4⟩ := q4
        have N4 := Fr.app NB M4
        have Z4 : n0 ≤ h4.size := Nat.le_trans Z0 K4.1
        have KK4 : Keep h0 h4 [a1, dA, cA] := (Keep.refl h0 [a1, dA, cA]).trans K4 (by intro x hx_; left; simp only [List.mem_cons, List.not_mem_nil, or_false] at hx_ ⊢; first | (rcases hx_ with h | h | h <;> simp [h]; done) | (rcases hx_ with h | h <;> simp [h]))
        refine own_retV X4 hx lk hret (hb hby d7_23) (by decide) (by decide) ?_
        rw [e4]
        exact ⟨_, _, rfl, N4, KK4, F4.1, F4.2.1, F4.2.2⟩
      · refine own_icmpNo (n := 12) X3 hx (hb hby d7_9) (Jvm.Free.XT.ii_eq_f c9) rfl ?_
        refine own_iinc (n := 15) X3 hx (hb hby d7_12) rfl (v := (1 : Int32)) rfl (l' := #[.val (.ref a1), .val (.int p2), .val (.int (at_ + (1 : Int32)))]) rfl rfl ?_
        refine own_goto (n := 2) X3 hx (hb hby d7_15) (by decide) (by decide) ?_
        show Ends p e below s ({ frames := 2, cells := 0, slots := 0, locals := 32 } : Room).cells ({ frames := 2, cells := 0, slots := 0, locals := 32 } : Room).slots (Q7 Z a1 p2 dA cA sz g1 g2 k h0 n0) (T3.setTop (mkF m 2 #[.val (.ref a1), .val (.int p2), .val (.int (at_ + (1 : Int32)))] []))
        exact ih _ _ _ _ (j + 1) X3 e3 NB Z0 (own_add1 hat (by omega)) (by omega) rfl NB
  refine own_iconst (n := 1) X0 hx (0 : Int32) (hb hby d7_0) rfl rfl ?_
  refine own_istoreN (n := 2) X0 hx (hb hby d7_1) (l' := #[.val (.ref a1), .val (.int p2), .val (.int (0 : Int32))]) rfl rfl ?_
  show Ends p e below s ({ frames := 2, cells := 0, slots := 0, locals := 32 } : Room).cells ({ frames := 2, cells := 0, slots := 0, locals := 32 } : Room).slots (Q7 Z a1 p2 dA cA sz g1 g2 k h0 n0) (s₁.setTop (mkF m 2 #[.val (.ref a1), .val (.int p2), .val (.int (0 : Int32))] []))
  exact loop w _ _ _ _ 0 X0 e0 N0 Z0 o0 (by omega) rfl N0
theorem pn_0 : plainFor x = true := by first | exact plainFor_of_name (by first | (simp [plainName, overriddenIn]; done) | decide +kernel) | decide +kernel
theorem ef_0 (m : MethodId) (p1 : Int32) (p2 : Int32) (p3 : Int32) (p4 : Int32) (p5 : Int32) : entryFrame m #[(.int p1), (.int p2), (.int p3), (.int p4), (.int p5)] maxLocals = mkF m 0 #[.val (.int p1), .val (.int p2), .val (.int p3), .val (.int p4), .val (.int p5), .unset, .unset, .unset, .unset, .unset, .unset, .unset] [] := by first | rfl | (simp [entryFrame, mkF, argsToLocals, Value.category, maxLocals]; done)
def Q0 (Z : State) (p1 : Int32) (p2 : Int32) (p3 : Int32) (p4 : Int32) (p5 : Int32)  (h0 : Heap) (n0 : Nat) (v : Option Value) (h : Heap) (L : List Loc) : Prop := v = some (.int 1) ∧ Fr n0 L
theorem rm0 (l : Launch) (Z : State) (a0 : Array Value) (hw : ∀ d ∈ tables_1, d.before a0 Z = true) (ws : List Jvm.Cond) (p1 : Int32) (p2 : Int32) (p3 : Int32) (p4 : Int32) (p5 : Int32)  (h0 : Heap) (n0 : Nat) (Z0 : n0 ≤ h0.size)  :
    MetFree l x (head1 (Jvm.Cond.code x code maxLocals ret :: ws) room_1) (fun a U => a = #[(.int p1), (.int p2), (.int p3), (.int p4), (.int p5)] ∧ Z.Warmed39 U.vm ∧ U.heap = h0) (fun _ _ _ _ _ => True) (fun _ U o U' => ∃ v L, o = .returned v ∧ (Q0 Z p1 p2 p3 p4 p5  h0 n0) v U'.heap L ∧ FrameEnd U o U' L 16 128) := by
  refine MetFree.of_bodySF pn_0 hisR ?_
  intro p e s m args below meth c s₁ Bd hml0 hP hK
  obtain ⟨rfl, hZ, hh⟩ := hP
  have hx := Bd.exec
  have hby := Bd.bytes
  have hml : c.maxLocals = 12 := hml0
  have hown : s.vm.findClass "com/example/vernier_search/verniersearch/search/ClausesByDocIsEmptyPinLaw" = some m.cls := findClass_of_methodNamed Bd.named
  have hnm := (name_of_methodNamed Bd.named Bd.method).1
  have X0 : Stand p l e room_1 s m #[(.int p1), (.int p2), (.int p3), (.int p4), (.int p5)] below meth c s₁ [] 0 0 := Stand.of_body Bd
  have e0 : s₁.heap = h0 := by rw [← hh, Bd.state]; rfl
  have N0 := Fr.nil n0
  have lk : meth.locks = false := BodyLoose.notSynchronized Bd
  have hret := Bd.returns
  show Ends p e below s 16 128 (Q0 Z p1 p2 p3 p4 p5  h0 n0) (s₁.setTop (entryFrame m #[(.int p1), (.int p2), (.int p3), (.int p4), (.int p5)] maxLocals))
  refine Ends.cast (ef_0 m p1 p2 p3 p4 p5) ?_
  have o0 : (0 : Int32).toInt = 0 := rfl
  have o1 : (1 : Int32).toInt = 1 := rfl
  have o2 : (2 : Int32).toInt = 2 := rfl
  have o3 : (3 : Int32).toInt = 3 := rfl
  have blk144 : ∀ (TB : State) (hB : Heap) (lB : List Loc) (nn : Int32) (mm : Int32) (ur : Int32) (o : Addr) (dA : Addr) (cA : Addr) (sz : Int32) (g1 : Nat → Int32) (g2 : Nat → Int32) (k : Nat) (XB : Stand p l e room_1 s m #[(.int p1), (.int p2), (.int p3), (.int p4), (.int p5)] below meth c TB lB (0 + 1 + 2) (0 + 3 + 6)) (eB : TB.heap = hB) (NB : Fr n0 lB) (ZB : n0 ≤ hB.size) (NE : NE3 n0 o dA cA) (FB : CB Z hB o dA cA sz g1 g2) (hsz : sz.toInt = (k : Int)) (hn : 0 ≤ nn.toInt ∧ nn.toInt ≤ 3) (hm : 0 ≤ mm.toInt ∧ mm.toInt ≤ nn.toInt) (hk : (k : Int) = nn.toInt - mm.toInt), Ends p e below s 16 128 (Q0 Z p1 p2 p3 p4 p5  h0 n0) (TB.setTop (mkF m 144 #[.val (.int p1), .val (.int p2), .val (.int p3), .val (.int p4), .val (.int p5), .val (.int nn), .val (.int mm), .val (.int ur), .val (.ref o), .val (.int 1), .val (.int (if nn = 0 then (1 : Int32) else 0)), .unset] [])) := by
    intro TB hB lB nn mm ur o dA cA sz g1 g2 k XB eB NB ZB NE FB hsz hn hm hk
    refine own_aload (n := 146) XB hx (hb hby at_144) rfl rfl rfl ?_
    refine own_callV (n := 149) XB hx hZ hown (hw _ (List.mem_of_getElem? (i := 18) rfl)) (hw _ (List.mem_of_getElem? (i := 19) rfl)) (hw _ (List.mem_of_getElem? (i := 21) rfl)) (hw _ (List.mem_of_getElem? (i := 20) rfl)) (hw _ (List.mem_of_getElem? (i := 6) rfl)) (hw _ (List.mem_of_getElem? (i := 22) rfl)) (by decide) eB FB.1.1 (rm4 l Z a0 hw [] o  dA cA sz g1 g2  hB n0 ZB ⟨FB.1, FB.2.1, FB.2.2⟩ ⟨NE.1, NE.2.1, NE.2.2.1, NE.2.2.2.1, NE.2.2.2.2.1, NE.2.2.2.2.2⟩ ) (W := 0) (by decide) (by decide) (by decide) (by decide) (by rw [hml]; rfl) (argsL := []) (rest := []) pd_4 rfl (by rfl) (Nat.le_of_eq rfl) (hb hby at_146) rfl rfl ?_
    intro v1 T1 h1 L1 X1 e1 q1
    obtain ⟨rfl, M1, rfl⟩ := q1
    have N1 := Fr.app NB M1
    refine own_istore (n := 151) X1 hx (hb hby at_149) (l' := #[.val (.int p1), .val (.int p2), .val (.int p3), .val (.int p4), .val (.int p5), .val (.int nn), .val (.int mm), .val (.int ur), .val (.ref o), .val (.int 1), .val (.int (if nn = 0 then (1 : Int32) else 0)), .val (.int (if sz = 0 then (1 : Int32) else 0))]) rfl rfl ?_
    refine own_iload (n := 153) X1 hx (hb hby at_151) rfl rfl ?_
    refine own_ifNo (n := 156) X1 hx (hb hby at_153) (Jvm.Free.XT.i0_eq_f (by decide)) rfl ?_
    refine own_iload (n := 158) X1 hx (hb hby at_156) rfl rfl ?_
    refine own_iload (n := 160) X1 hx (hb hby at_158) rfl rfl ?_
    by_cases c160 : nn = 0
    · refine own_ifNo (n := 163) X1 hx (hb hby at_160) (Jvm.Free.XT.i0_ne_f c160) rfl ?_
      refine own_iconst (n := 164) X1 hx (1 : Int32) (hb hby at_163) rfl rfl ?_
      refine own_goto (n := 168) X1 hx (hb hby at_164) (by decide) (by decide) ?_
      refine own_icmpNo (n := 171) X1 hx (hb hby at_168) (Jvm.Free.XT.ii_ne_f (by rw [if_pos c160])) rfl ?_
      refine own_iload (n := 173) X1 hx (hb hby at_171) rfl rfl ?_
      refine own_iload (n := 175) X1 hx (hb hby at_173) rfl rfl ?_
      refine own_iload (n := 177) X1 hx (hb hby at_175) rfl rfl ?_
      refine own_isub (n := 178) X1 hx (hb hby at_177) rfl ?_
      by_cases c178 : (nn - mm) = 0
      · refine own_ifNo (n := 181) X1 hx (hb hby at_178) (Jvm.Free.XT.i0_ne_f c178) rfl ?_
        refine own_iconst (n := 182) X1 hx (1 : Int32) (hb hby at_181) rfl rfl ?_
        refine own_goto (n := 186) X1 hx (hb hby at_182) (by decide) (by decide) ?_
        refine own_icmpNo (n := 189) X1 hx (hb hby at_186) (Jvm.Free.XT.ii_ne_f (by rw [if_pos (own_inj (by have z := congrArg Int32.toInt c178; have z2 := c_isub nn mm; have z3 := rng32 (nn - mm); omega))])) rfl ?_
        refine own_iconst (n := 190) X1 hx (1 : Int32) (hb hby at_189) rfl rfl ?_
        refine own_goto (n := 194) X1 hx (hb hby at_190) (by decide) (by decide) ?_
        refine own_retN X1 hx lk hret (by simp) (hb hby at_194) (by decide) (by decide) ?_
        rw [e1]
        exact ⟨rfl, N1⟩
      · refine own_ifYes (n := 185) X1 hx (hb hby at_178) (Jvm.Free.XT.i0_ne_t c178) (by decide) (by decide) ?_
        refine own_iconst (n := 186) X1 hx (0 : Int32) (hb hby at_185) rfl rfl ?_
        refine own_icmpNo (n := 189) X1 hx (hb hby at_186) (Jvm.Free.XT.ii_ne_f (by rw [if_neg (fun z => c178 (own_inj (by have z1 := congrArg Int32.toInt z; have z2 := c_isub nn mm; have z3 := rng32 (nn - mm); omega)))])) rfl ?_
        refine own_iconst (n := 190) X1 hx (1 : Int32) (hb hby at_189) rfl rfl ?_
        refine own_goto (n := 194) X1 hx (hb hby at_190) (by decide) (by decide) ?_
        refine own_retN X1 hx lk hret (by simp) (hb hby at_194) (by decide) (by decide) ?_
        rw [e1]
        exact ⟨rfl, N1⟩
    · refine own_ifYes (n := 167) X1 hx (hb hby at_160) (Jvm.Free.XT.i0_ne_t c160) (by decide) (by decide) ?_
      refine own_iconst (n := 168) X1 hx (0 : Int32) (hb hby at_167) rfl rfl ?_
      refine own_icmpNo (n := 171) X1 hx (hb hby at_168) (Jvm.Free.XT.ii_ne_f (by rw [if_neg c160])) rfl ?_
      refine own_iload (n := 173) X1 hx (hb hby at_171) rfl rfl ?_
      refine own_iload (n := 175) X1 hx (hb hby at_173) rfl rfl ?_
      refine own_iload (n := 177) X1 hx (hb hby at_175) rfl rfl ?_
      refine own_isub (n := 178) X1 hx (hb hby at_177) rfl ?_
      by_cases c178 : (nn - mm) = 0
      · refine own_ifNo (n := 181) X1 hx (hb hby at_178) (Jvm.Free.XT.i0_ne_f c178) rfl ?_
        refine own_iconst (n := 182) X1 hx (1 : Int32) (hb hby at_181) rfl rfl ?_
        refine own_goto (n := 186) X1 hx (hb hby at_182) (by decide) (by decide) ?_
        refine own_icmpNo (n := 189) X1 hx (hb hby at_186) (Jvm.Free.XT.ii_ne_f (by rw [if_pos (own_inj (by have z := congrArg Int32.toInt c178; have z2 := c_isub nn mm; have z3 := rng32 (nn - mm); omega))])) rfl ?_
        refine own_iconst (n := 190) X1 hx (1 : Int32) (hb hby at_189) rfl rfl ?_
        refine own_goto (n := 194) X1 hx (hb hby at_190) (by decide) (by decide) ?_
        refine own_retN X1 hx lk hret (by simp) (hb hby at_194) (by decide) (by decide) ?_
        rw [e1]
        exact ⟨rfl, N1⟩
      · refine own_ifYes (n := 185) X1 hx (hb hby at_178) (Jvm.Free.XT.i0_ne_t c178) (by decide) (by decide) ?_
        refine own_iconst (n := 186) X1 hx (0 : Int32) (hb hby at_185) rfl rfl ?_
        refine own_icmpNo (n := 189) X1 hx (hb hby at_186) (Jvm.Free.XT.ii_ne_f (by rw [if_neg (fun z => c178 (own_inj (by have z1 := congrArg Int32.toInt z; have z2 := c_isub nn mm; have z3 := rng32 (nn - mm); omega)))])) rfl ?_
        refine own_iconst (n := 190) X1 hx (1 : Int32) (hb hby at_189) rfl rfl ?_
        refine own_goto (n := 194) X1 hx (hb hby at_190) (by decide) (by decide) ?_
        refine own_retN X1 hx lk hret (by simp) (hb hby at_194) (by decide) (by decide) ?_
        rw [e1]
        exact ⟨rfl, N1⟩
  have blk132 : ∀ (TB : State) (hB : Heap) (lB : List Loc) (nn : Int32) (mm : Int32) (ur : Int32) (o : Addr) (dA : Addr) (cA : Addr) (sz : Int32) (g1 : Nat → Int32) (g2 : Nat → Int32) (k : Nat) (XB : Stand p l e room_1 s m #[(.int p1), (.int p2), (.int p3), (.int p4), (.int p5)] below meth c TB lB (0 + 1 + 2) (0 + 3 + 6)) (eB : TB.heap = hB) (NB : Fr n0 lB) (ZB : n0 ≤ hB.size) (NE : NE3 n0 o dA cA) (FB : CB Z hB o dA cA sz g1 g2) (hsz : sz.toInt = (k : Int)) (hn : 0 ≤ nn.toInt ∧ nn.toInt ≤ 3) (hm : 0 ≤ mm.toInt ∧ mm.toInt ≤ nn.toInt) (hk : (mm.toInt < 2 → (k : Int) = nn.toInt - mm.toInt) ∧ (2 ≤ mm.toInt → (k : Int) = nn.toInt - 2)), Ends p e below s 16 128 (Q0 Z p1 p2 p3 p4 p5  h0 n0) (TB.setTop (mkF m 132 #[.val (.int p1), .val (.int p2), .val (.int p3), .val (.int p4), .val (.int p5), .val (.int nn), .val (.int mm), .val (.int ur), .val (.ref o), .val (.int 1), .val (.int (if nn = 0 then (1 : Int32) else 0)), .unset] [])) := by
    intro TB hB lB nn mm ur o dA cA sz g1 g2 k XB eB NB ZB NE FB hsz hn hm hk
    refine own_iload (n := 134) XB hx (hb hby at_132) rfl rfl ?_
    refine own_iconst (n := 135) XB hx (3 : Int32) (hb hby at_134) rfl rfl ?_
    by_cases c135 : mm < (3 : Int32)
    · refine own_icmpYes (n := 144) XB hx (hb hby at_135) (Jvm.Free.XT.ii_lt_t c135) (by decide) (by decide) ?_
      show Ends p e below s 16 128 (Q0 Z p1 p2 p3 p4 p5  h0 n0) (TB.setTop (mkF m 144 #[.val (.int p1), .val (.int p2), .val (.int p3), .val (.int p4), .val (.int p5), .val (.int nn), .val (.int mm), .val (.int ur), .val (.ref o), .val (.int 1), .val (.int (if nn = 0 then (1 : Int32) else 0)), .unset] []))
      rw [Int32.lt_iff_toInt_lt] at c135
      exact blk144 _ _ _ nn mm ur o dA cA sz g1 g2 k XB eB NB ZB NE FB hsz hn hm (by omega)
    · refine own_icmpNo (n := 138) XB hx (hb hby at_135) (Jvm.Free.XT.ii_lt_f c135) rfl ?_
      rw [Int32.lt_iff_toInt_lt] at c135
      refine own_aload (n := 140) XB hx (hb hby at_138) rfl rfl rfl ?_
      refine own_callV (n := 143) XB hx hZ hown (hw _ (List.mem_of_getElem? (i := 47) rfl)) (hw _ (List.mem_of_getElem? (i := 48) rfl)) (hw _ (List.mem_of_getElem? (i := 50) rfl)) (hw _ (List.mem_of_getElem? (i := 49) rfl)) (hw _ (List.mem_of_getElem? (i := 6) rfl)) (hw _ (List.mem_of_getElem? (i := 51) rfl)) (by decide) eB FB.1.1 (rm10 l Z a0 hw [] o  dA cA sz g1 g2 k hB n0 ZB ⟨FB.1, FB.2.1, FB.2.2⟩ ⟨NE.1, NE.2.1, NE.2.2.1, NE.2.2.2.1, NE.2.2.2.2.1, NE.2.2.2.2.2⟩ hsz (by omega) (by omega)) (W := 0) (by decide) (by decide) (by decide) (by decide) (by rw [hml]; rfl) (argsL := []) (rest := []) pd_10 rfl (by rfl) (Nat.le_of_eq rfl) (hb hby at_140) rfl rfl ?_
      intro v2 T2 h2 L2 X2 e2 q2
      obtain ⟨r2, x2, y2, rfl, M2, K2, F2⟩ := q2
      have N2 := Fr.app NB M2
      have Z2 : n0 ≤ h2.size := Nat.le_trans ZB K2.1
      refine own_pop (n := 144) X2 hx (hb hby at_143) rfl rfl ?_
      show Ends p e below s 16 128 (Q0 Z p1 p2 p3 p4 p5  h0 n0) (T2.setTop (mkF m 144 #[.val (.int p1), .val (.int p2), .val (.int p3), .val (.int p4), .val (.int p5), .val (.int nn), .val (.int mm), .val (.int ur), .val (.ref o), .val (.int 1), .val (.int (if nn = 0 then (1 : Int32) else 0)), .unset] []))
      exact blk144 _ _ _ nn mm ur o dA cA _ _ _ (k - 1) X2 e2 N2 Z2 NE F2 (own_sub1 hsz (by omega)) hn hm (by omega)
  have blk120 : ∀ (TB : State) (hB : Heap) (lB : List Loc) (nn : Int32) (mm : Int32) (ur : Int32) (o : Addr) (dA : Addr) (cA : Addr) (sz : Int32) (g1 : Nat → Int32) (g2 : Nat → Int32) (k : Nat) (XB : Stand p l e room_1 s m #[(.int p1), (.int p2), (.int p3), (.int p4), (.int p5)] below meth c TB lB (0 + 1 + 2) (0 + 3 + 6)) (eB : TB.heap = hB) (NB : Fr n0 lB) (ZB : n0 ≤ hB.size) (NE : NE3 n0 o dA cA) (FB : CB Z hB o dA cA sz g1 g2) (hsz : sz.toInt = (k : Int)) (hn : 0 ≤ nn.toInt ∧ nn.toInt ≤ 3) (hm : 0 ≤ mm.toInt ∧ mm.toInt ≤ nn.toInt) (hk : (mm.toInt < 1 → (k : Int) = nn.toInt - mm.toInt) ∧ (1 ≤ mm.toInt → (k : Int) = nn.toInt - 1)), Ends p e below s 16 128 (Q0 Z p1 p2 p3 p4 p5  h0 n0) (TB.setTop (mkF m 120 #[.val (.int p1), .val (.int p2), .val (.int p3), .val (.int p4), .val (.int p5), .val (.int nn), .val (.int mm), .val (.int ur), .val (.ref o), .val (.int 1), .val (.int (if nn = 0 then (1 : Int32) else 0)), .unset] [])) := by
    intro TB hB lB nn mm ur o dA cA sz g1 g2 k XB eB NB ZB NE FB hsz hn hm hk
    refine own_iload (n := 122) XB hx (hb hby at_120) rfl rfl ?_
    refine own_iconst (n := 123) XB hx (2 : Int32) (hb hby at_122) rfl rfl ?_
    by_cases c123 : mm < (2 : Int32)
    · refine own_icmpYes (n := 132) XB hx (hb hby at_123) (Jvm.Free.XT.ii_lt_t c123) (by decide) (by decide) ?_
      show Ends p e below s 16 128 (Q0 Z p1 p2 p3 p4 p5  h0 n0) (TB.setTop (mkF m 132 #[.val (.int p1), .val (.int p2), .val (.int p3), .val (.int p4), .val (.int p5), .val (.int nn), .val (.int mm), .val (.int ur), .val (.ref o), .val (.int 1), .val (.int (if nn = 0 then (1 : Int32) else 0)), .unset] []))
      rw [Int32.lt_iff_toInt_lt] at c123
      exact blk132 _ _ _ nn mm ur o dA cA sz g1 g2 k XB eB NB ZB NE FB hsz hn hm (by omega)
    · refine own_icmpNo (n := 126) XB hx (hb hby at_123) (Jvm.Free.XT.ii_lt_f c123) rfl ?_
      rw [Int32.lt_iff_toInt_lt] at c123
      refine own_aload (n := 128) XB hx (hb hby at_126) rfl rfl rfl ?_
      refine own_callV (n := 131) XB hx hZ hown (hw _ (List.mem_of_getElem? (i := 47) rfl)) (hw _ (List.mem_of_getElem? (i := 48) rfl)) (hw _ (List.mem_of_getElem? (i := 50) rfl)) (hw _ (List.mem_of_getElem? (i := 49) rfl)) (hw _ (List.mem_of_getElem? (i := 6) rfl)) (hw _ (List.mem_of_getElem? (i := 51) rfl)) (by decide) eB FB.1.1 (rm10 l Z a0 hw [] o  dA cA sz g1 g2 k hB n0 ZB ⟨FB.1, FB.2.1, FB.2.2⟩ ⟨NE.1, NE.2.1, NE.2.2.1, NE.2.2.2.1, NE.2.2.2.2.1, NE.2.2.2.2.2⟩ hsz (by omega) (by omega)) (W := 0) (by decide) (by decide) (by decide) (by decide) (by rw [hml]; rfl) (argsL := []) (rest := []) pd_10 rfl (by rfl) (Nat.le_of_eq rfl) (hb hby at_128) rfl rfl ?_
      intro v3 T3 h3 L3 X3 e3 q3
      obtain ⟨r3, x3, y3, rfl, M3, K3, F3⟩ := q3
      have N3 := Fr.app NB M3
      have Z3 : n0 ≤ h3.size := Nat.le_trans ZB K3.1
      refine own_pop (n := 132) X3 hx (hb hby at_131) rfl rfl ?_
      show Ends p e below s 16 128 (Q0 Z p1 p2 p3 p4 p5  h0 n0) (T3.setTop (mkF m 132 #[.val (.int p1), .val (.int p2), .val (.int p3), .val (.int p4), .val (.int p5), .val (.int nn), .val (.int mm), .val (.int ur), .val (.ref o), .val (.int 1), .val (.int (if nn = 0 then (1 : Int32) else 0)), .unset] []))
      exact blk132 _ _ _ nn mm ur o dA cA _ _ _ (k - 1) X3 e3 N3 Z3 NE F3 (own_sub1 hsz (by omega)) hn hm (by omega)
  have blk94 : ∀ (TB : State) (hB : Heap) (lB : List Loc) (nn : Int32) (mm : Int32) (ur : Int32) (o : Addr) (dA : Addr) (cA : Addr) (sz : Int32) (g1 : Nat → Int32) (g2 : Nat → Int32) (k : Nat) (XB : Stand p l e room_1 s m #[(.int p1), (.int p2), (.int p3), (.int p4), (.int p5)] below meth c TB lB (0 + 1 + 2) (0 + 3 + 6)) (eB : TB.heap = hB) (NB : Fr n0 lB) (ZB : n0 ≤ hB.size) (NE : NE3 n0 o dA cA) (FB : CB Z hB o dA cA sz g1 g2) (hsz : sz.toInt = (k : Int)) (hn : 0 ≤ nn.toInt ∧ nn.toInt ≤ 3) (hm : 0 ≤ mm.toInt ∧ mm.toInt ≤ nn.toInt) (hk : (k : Int) = nn.toInt) (hZ0 : 1 ≤ k → Z0in g2 k), Ends p e below s 16 128 (Q0 Z p1 p2 p3 p4 p5  h0 n0) (TB.setTop (mkF m 94 #[.val (.int p1), .val (.int p2), .val (.int p3), .val (.int p4), .val (.int p5), .val (.int nn), .val (.int mm), .val (.int ur), .val (.ref o), .val (.int 1), .val (.int (if nn = 0 then (1 : Int32) else 0)), .unset] [])) := by
    intro TB hB lB nn mm ur o dA cA sz g1 g2 k XB eB NB ZB NE FB hsz hn hm hk hZ0
    refine own_iload (n := 96) XB hx (hb hby at_94) rfl rfl ?_
    refine own_iconst (n := 97) XB hx (1 : Int32) (hb hby at_96) rfl rfl ?_
    by_cases c97 : mm < (1 : Int32)
    · refine own_icmpYes (n := 120) XB hx (hb hby at_97) (Jvm.Free.XT.ii_lt_t c97) (by decide) (by decide) ?_
      show Ends p e below s 16 128 (Q0 Z p1 p2 p3 p4 p5  h0 n0) (TB.setTop (mkF m 120 #[.val (.int p1), .val (.int p2), .val (.int p3), .val (.int p4), .val (.int p5), .val (.int nn), .val (.int mm), .val (.int ur), .val (.ref o), .val (.int 1), .val (.int (if nn = 0 then (1 : Int32) else 0)), .unset] []))
      rw [Int32.lt_iff_toInt_lt] at c97
      exact blk120 _ _ _ nn mm ur o dA cA sz g1 g2 k XB eB NB ZB NE FB hsz hn hm (by omega)
    · refine own_icmpNo (n := 100) XB hx (hb hby at_97) (Jvm.Free.XT.ii_lt_f c97) rfl ?_
      rw [Int32.lt_iff_toInt_lt] at c97
      obtain ⟨w, hwk, hw0⟩ := hZ0 (by omega)
      refine own_iload (n := 102) XB hx (hb hby at_100) rfl rfl ?_
      by_cases c102 : ur = 0
      · refine own_ifYes (n := 114) XB hx (hb hby at_102) (Jvm.Free.XT.i0_eq_t c102) (by decide) (by decide) ?_
        refine own_aload (n := 116) XB hx (hb hby at_114) rfl rfl rfl ?_
        refine own_callV (n := 119) XB hx hZ hown (hw _ (List.mem_of_getElem? (i := 47) rfl)) (hw _ (List.mem_of_getElem? (i := 48) rfl)) (hw _ (List.mem_of_getElem? (i := 50) rfl)) (hw _ (List.mem_of_getElem? (i := 49) rfl)) (hw _ (List.mem_of_getElem? (i := 6) rfl)) (hw _ (List.mem_of_getElem? (i := 51) rfl)) (by decide) eB FB.1.1 (rm10 l Z a0 hw [] o  dA cA sz g1 g2 k hB n0 ZB ⟨FB.1, FB.2.1, FB.2.2⟩ ⟨NE.1, NE.2.1, NE.2.2.1, NE.2.2.2.1, NE.2.2.2.2.1, NE.2.2.2.2.2⟩ hsz (by omega) (by omega)) (W := 0) (by decide) (by decide) (by decide) (by decide) (by rw [hml]; rfl) (argsL := []) (rest := []) pd_10 rfl (by rfl) (Nat.le_of_eq rfl) (hb hby at_116) rfl rfl ?_
        intro v4 T4 h4 L4 X4 e4 q4
        obtain ⟨r4, x4, y4, rfl, M4, K4, F4⟩ := q4
        have N4 := Fr.app NB M4
        have Z4 : n0 ≤ h4.size := Nat.le_trans ZB K4.1
        refine own_pop (n := 120) X4 hx (hb hby at_119) rfl rfl ?_
        show Ends p e below s 16 128 (Q0 Z p1 p2 p3 p4 p5  h0 n0) (T4.setTop (mkF m 120 #[.val (.int p1), .val (.int p2), .val (.int p3), .val (.int p4), .val (.int p5), .val (.int nn), .val (.int mm), .val (.int ur), .val (.ref o), .val (.int 1), .val (.int (if nn = 0 then (1 : Int32) else 0)), .unset] []))
        exact blk120 _ _ _ nn mm ur o dA cA _ _ _ (k - 1) X4 e4 N4 Z4 NE F4 (own_sub1 hsz (by omega)) hn hm (by omega)
      · refine own_ifNo (n := 105) XB hx (hb hby at_102) (Jvm.Free.XT.i0_eq_f c102) rfl ?_
        refine own_aload (n := 107) XB hx (hb hby at_105) rfl rfl rfl ?_
        refine own_iconst (n := 108) XB hx (0 : Int32) (hb hby at_107) rfl rfl ?_
        refine own_callV (n := 111) XB hx hZ hown (hw _ (List.mem_of_getElem? (i := 34) rfl)) (hw _ (List.mem_of_getElem? (i := 35) rfl)) (hw _ (List.mem_of_getElem? (i := 37) rfl)) (hw _ (List.mem_of_getElem? (i := 36) rfl)) (hw _ (List.mem_of_getElem? (i := 6) rfl)) (hw _ (List.mem_of_getElem? (i := 38) rfl)) (by decide) eB FB.1.1 (rm7 l Z a0 hw [] o (0 : Int32) dA cA sz g1 g2 k hB n0 ZB ⟨FB.1, FB.2.1, FB.2.2⟩ ⟨NE.1, NE.2.1, NE.2.2.1, NE.2.2.2.1, NE.2.2.2.2.1, NE.2.2.2.2.2⟩ hsz (by omega) (by omega) w (by omega) hw0) (W := 0) (by decide) (by decide) (by decide) (by decide) (by rw [hml]; rfl) (argsL := [(.int (0 : Int32))]) (rest := []) pd_7 rfl (by rfl) (Nat.le_of_eq rfl) (hb hby at_108) rfl rfl ?_
        intro v5 T5 h5 L5 X5 e5 q5
        obtain ⟨x5, y5, rfl, M5, K5, F5⟩ := q5
        have N5 := Fr.app NB M5
        have Z5 : n0 ≤ h5.size := Nat.le_trans ZB K5.1
        refine own_goto (n := 120) X5 hx (hb hby at_111) (by decide) (by decide) ?_
        show Ends p e below s 16 128 (Q0 Z p1 p2 p3 p4 p5  h0 n0) (T5.setTop (mkF m 120 #[.val (.int p1), .val (.int p2), .val (.int p3), .val (.int p4), .val (.int p5), .val (.int nn), .val (.int mm), .val (.int ur), .val (.ref o), .val (.int 1), .val (.int (if nn = 0 then (1 : Int32) else 0)), .unset] []))
        exact blk120 _ _ _ nn mm ur o dA cA _ _ _ (k - 1) X5 e5 N5 Z5 NE F5 (own_sub1 hsz (by omega)) hn hm (by omega)
  have blk87 : ∀ (TB : State) (hB : Heap) (lB : List Loc) (nn : Int32) (mm : Int32) (ur : Int32) (o : Addr) (dA : Addr) (cA : Addr) (sz : Int32) (g1 : Nat → Int32) (g2 : Nat → Int32) (k : Nat) (XB : Stand p l e room_1 s m #[(.int p1), (.int p2), (.int p3), (.int p4), (.int p5)] below meth c TB lB (0 + 1 + 2) (0 + 3 + 6)) (eB : TB.heap = hB) (NB : Fr n0 lB) (ZB : n0 ≤ hB.size) (NE : NE3 n0 o dA cA) (FB : CB Z hB o dA cA sz g1 g2) (hsz : sz.toInt = (k : Int)) (hn : 0 ≤ nn.toInt ∧ nn.toInt ≤ 3) (hm : 0 ≤ mm.toInt ∧ mm.toInt ≤ nn.toInt) (hk : (k : Int) = nn.toInt) (hZ0 : 1 ≤ k → Z0in g2 k), Ends p e below s 16 128 (Q0 Z p1 p2 p3 p4 p5  h0 n0) (TB.setTop (mkF m 87 #[.val (.int p1), .val (.int p2), .val (.int p3), .val (.int p4), .val (.int p5), .val (.int nn), .val (.int mm), .val (.int ur), .val (.ref o), .val (.int 1), .unset, .unset] [])) := by
    intro TB hB lB nn mm ur o dA cA sz g1 g2 k XB eB NB ZB NE FB hsz hn hm hk hZ0
    refine own_aload (n := 89) XB hx (hb hby at_87) rfl rfl rfl ?_
    refine own_callV (n := 92) XB hx hZ hown (hw _ (List.mem_of_getElem? (i := 18) rfl)) (hw _ (List.mem_of_getElem? (i := 19) rfl)) (hw _ (List.mem_of_getElem? (i := 21) rfl)) (hw _ (List.mem_of_getElem? (i := 20) rfl)) (hw _ (List.mem_of_getElem? (i := 6) rfl)) (hw _ (List.mem_of_getElem? (i := 22) rfl)) (by decide) eB FB.1.1 (rm4 l Z a0 hw [] o  dA cA sz g1 g2  hB n0 ZB ⟨FB.1, FB.2.1, FB.2.2⟩ ⟨NE.1, NE.2.1, NE.2.2.1, NE.2.2.2.1, NE.2.2.2.2.1, NE.2.2.2.2.2⟩ ) (W := 0) (by decide) (by decide) (by decide) (by decide) (by rw [hml]; rfl) (argsL := []) (rest := []) pd_4 rfl (by rfl) (Nat.le_of_eq rfl) (hb hby at_89) rfl rfl ?_
    intro v6 T6 h6 L6 X6 e6 q6
    obtain ⟨rfl, M6, rfl⟩ := q6
    have N6 := Fr.app NB M6
    refine own_istore (n := 94) X6 hx (hb hby at_92) (l' := #[.val (.int p1), .val (.int p2), .val (.int p3), .val (.int p4), .val (.int p5), .val (.int nn), .val (.int mm), .val (.int ur), .val (.ref o), .val (.int 1), .val (.int (if sz = 0 then (1 : Int32) else 0)), .unset]) rfl rfl ?_
    show Ends p e below s 16 128 (Q0 Z p1 p2 p3 p4 p5  h0 n0) (T6.setTop (mkF m 94 #[.val (.int p1), .val (.int p2), .val (.int p3), .val (.int p4), .val (.int p5), .val (.int nn), .val (.int mm), .val (.int ur), .val (.ref o), .val (.int 1), .val (.int (if sz = 0 then (1 : Int32) else 0)), .unset] []))
    have q1 : (sz = 0) = (nn = 0) := propext ⟨fun z => own_inj (by have := congrArg Int32.toInt z; omega), fun z => own_inj (by have := congrArg Int32.toInt z; omega)⟩
    have q2 : (if sz = 0 then (1 : Int32) else 0) = (if nn = 0 then (1 : Int32) else 0) := by simp only [q1]
    rw [q2]
    exact blk94 _ _ _ nn mm ur o dA cA sz g1 g2 k X6 e6 N6 ZB NE FB hsz hn hm hk hZ0
  have blk73 : ∀ (TB : State) (hB : Heap) (lB : List Loc) (nn : Int32) (mm : Int32) (ur : Int32) (o : Addr) (dA : Addr) (cA : Addr) (sz : Int32) (g1 : Nat → Int32) (g2 : Nat → Int32) (k : Nat) (XB : Stand p l e room_1 s m #[(.int p1), (.int p2), (.int p3), (.int p4), (.int p5)] below meth c TB lB (0 + 1 + 2) (0 + 3 + 6)) (eB : TB.heap = hB) (NB : Fr n0 lB) (ZB : n0 ≤ hB.size) (NE : NE3 n0 o dA cA) (FB : CB Z hB o dA cA sz g1 g2) (hsz : sz.toInt = (k : Int)) (hn : 0 ≤ nn.toInt ∧ nn.toInt ≤ 3) (hm : 0 ≤ mm.toInt ∧ mm.toInt ≤ nn.toInt) (hk : (nn.toInt < 2 → (k : Int) = nn.toInt) ∧ (2 ≤ nn.toInt → k = 2)) (hZ0 : 1 ≤ k → Z0in g2 k), Ends p e below s 16 128 (Q0 Z p1 p2 p3 p4 p5  h0 n0) (TB.setTop (mkF m 73 #[.val (.int p1), .val (.int p2), .val (.int p3), .val (.int p4), .val (.int p5), .val (.int nn), .val (.int mm), .val (.int ur), .val (.ref o), .val (.int 1), .unset, .unset] [])) := by
    intro TB hB lB nn mm ur o dA cA sz g1 g2 k XB eB NB ZB NE FB hsz hn hm hk hZ0
    refine own_iload (n := 75) XB hx (hb hby at_73) rfl rfl ?_
    refine own_iconst (n := 76) XB hx (3 : Int32) (hb hby at_75) rfl rfl ?_
    by_cases c76 : nn < (3 : Int32)
    · refine own_icmpYes (n := 87) XB hx (hb hby at_76) (Jvm.Free.XT.ii_lt_t c76) (by decide) (by decide) ?_
      show Ends p e below s 16 128 (Q0 Z p1 p2 p3 p4 p5  h0 n0) (TB.setTop (mkF m 87 #[.val (.int p1), .val (.int p2), .val (.int p3), .val (.int p4), .val (.int p5), .val (.int nn), .val (.int mm), .val (.int ur), .val (.ref o), .val (.int 1), .unset, .unset] []))
      rw [Int32.lt_iff_toInt_lt] at c76
      exact blk87 _ _ _ nn mm ur o dA cA sz g1 g2 k XB eB NB ZB NE FB hsz hn hm (by omega) hZ0
    · refine own_icmpNo (n := 79) XB hx (hb hby at_76) (Jvm.Free.XT.ii_lt_f c76) rfl ?_
      rw [Int32.lt_iff_toInt_lt] at c76
      refine own_aload (n := 81) XB hx (hb hby at_79) rfl rfl rfl ?_
      refine own_iconst (n := 82) XB hx (2 : Int32) (hb hby at_81) rfl rfl ?_
      refine own_iload (n := 84) XB hx (hb hby at_82) rfl rfl ?_
      refine own_callV (n := 87) XB hx hZ hown (hw _ (List.mem_of_getElem? (i := 25) rfl)) (hw _ (List.mem_of_getElem? (i := 26) rfl)) (hw _ (List.mem_of_getElem? (i := 28) rfl)) (hw _ (List.mem_of_getElem? (i := 27) rfl)) (hw _ (List.mem_of_getElem? (i := 6) rfl)) (hw _ (List.mem_of_getElem? (i := 29) rfl)) (by decide) eB FB.1.1 (rm5 l Z a0 hw [] o (2 : Int32) p5 dA cA sz g1 g2 k hB n0 ZB ⟨FB.1, FB.2.1, FB.2.2⟩ ⟨NE.1, NE.2.1, NE.2.2.1, NE.2.2.2.1, NE.2.2.2.2.1, NE.2.2.2.2.2⟩ hsz (by omega)) (W := 0) (by decide) (by decide) (by decide) (by decide) (by rw [hml]; rfl) (argsL := [(.int (2 : Int32)), (.int p5)]) (rest := []) pd_5 rfl (by rfl) (Nat.le_of_eq rfl) (hb hby at_84) rfl rfl ?_
      intro v7 T7 h7 L7 X7 e7 q7
      obtain ⟨x7, y7, rfl, M7, K7, F7, hH7⟩ := q7
      have N7 := Fr.app NB M7
      have Z7 : n0 ≤ h7.size := Nat.le_trans ZB K7.1
      show Ends p e below s 16 128 (Q0 Z p1 p2 p3 p4 p5  h0 n0) (T7.setTop (mkF m 87 #[.val (.int p1), .val (.int p2), .val (.int p3), .val (.int p4), .val (.int p5), .val (.int nn), .val (.int mm), .val (.int ur), .val (.ref o), .val (.int 1), .unset, .unset] []))
      exact blk87 _ _ _ nn mm ur o dA cA _ _ _ (k + 1) X7 e7 N7 Z7 NE F7 (own_add1 hsz (by omega)) hn hm (by omega) (fun _ => hH7 (by obtain ⟨w, w1, w2⟩ := hZ0 (by omega); exact Or.inl ⟨w, by omega, by omega, w2⟩))
  have blk60 : ∀ (TB : State) (hB : Heap) (lB : List Loc) (nn : Int32) (mm : Int32) (ur : Int32) (o : Addr) (dA : Addr) (cA : Addr) (sz : Int32) (g1 : Nat → Int32) (g2 : Nat → Int32) (k : Nat) (XB : Stand p l e room_1 s m #[(.int p1), (.int p2), (.int p3), (.int p4), (.int p5)] below meth c TB lB (0 + 1 + 2) (0 + 3 + 6)) (eB : TB.heap = hB) (NB : Fr n0 lB) (ZB : n0 ≤ hB.size) (NE : NE3 n0 o dA cA) (FB : CB Z hB o dA cA sz g1 g2) (hsz : sz.toInt = (k : Int)) (hn : 0 ≤ nn.toInt ∧ nn.toInt ≤ 3) (hm : 0 ≤ mm.toInt ∧ mm.toInt ≤ nn.toInt) (hk : (nn.toInt < 1 → (k : Int) = nn.toInt) ∧ (1 ≤ nn.toInt → k = 1)) (hZ0 : 1 ≤ k → Z0in g2 k), Ends p e below s 16 128 (Q0 Z p1 p2 p3 p4 p5  h0 n0) (TB.setTop (mkF m 60 #[.val (.int p1), .val (.int p2), .val (.int p3), .val (.int p4), .val (.int p5), .val (.int nn), .val (.int mm), .val (.int ur), .val (.ref o), .val (.int 1), .unset, .unset] [])) := by
    intro TB hB lB nn mm ur o dA cA sz g1 g2 k XB eB NB ZB NE FB hsz hn hm hk hZ0
    refine own_iload (n := 62) XB hx (hb hby at_60) rfl rfl ?_
    refine own_iconst (n := 63) XB hx (2 : Int32) (hb hby at_62) rfl rfl ?_
    by_cases c63 : nn < (2 : Int32)
    · refine own_icmpYes (n := 73) XB hx (hb hby at_63) (Jvm.Free.XT.ii_lt_t c63) (by decide) (by decide) ?_
      show Ends p e below s 16 128 (Q0 Z p1 p2 p3 p4 p5  h0 n0) (TB.setTop (mkF m 73 #[.val (.int p1), .val (.int p2), .val (.int p3), .val (.int p4), .val (.int p5), .val (.int nn), .val (.int mm), .val (.int ur), .val (.ref o), .val (.int 1), .unset, .unset] []))
      rw [Int32.lt_iff_toInt_lt] at c63
      exact blk73 _ _ _ nn mm ur o dA cA sz g1 g2 k XB eB NB ZB NE FB hsz hn hm (by omega) hZ0
    · refine own_icmpNo (n := 66) XB hx (hb hby at_63) (Jvm.Free.XT.ii_lt_f c63) rfl ?_
      rw [Int32.lt_iff_toInt_lt] at c63
      refine own_aload (n := 68) XB hx (hb hby at_66) rfl rfl rfl ?_
      refine own_iconst (n := 69) XB hx (1 : Int32) (hb hby at_68) rfl rfl ?_
      refine own_iloadN (n := 70) XB hx (hb hby at_69) rfl rfl ?_
      refine own_callV (n := 73) XB hx hZ hown (hw _ (List.mem_of_getElem? (i := 25) rfl)) (hw _ (List.mem_of_getElem? (i := 26) rfl)) (hw _ (List.mem_of_getElem? (i := 28) rfl)) (hw _ (List.mem_of_getElem? (i := 27) rfl)) (hw _ (List.mem_of_getElem? (i := 6) rfl)) (hw _ (List.mem_of_getElem? (i := 29) rfl)) (by decide) eB FB.1.1 (rm5 l Z a0 hw [] o (1 : Int32) p4 dA cA sz g1 g2 k hB n0 ZB ⟨FB.1, FB.2.1, FB.2.2⟩ ⟨NE.1, NE.2.1, NE.2.2.1, NE.2.2.2.1, NE.2.2.2.2.1, NE.2.2.2.2.2⟩ hsz (by omega)) (W := 0) (by decide) (by decide) (by decide) (by decide) (by rw [hml]; rfl) (argsL := [(.int (1 : Int32)), (.int p4)]) (rest := []) pd_5 rfl (by rfl) (Nat.le_of_eq rfl) (hb hby at_70) rfl rfl ?_
      intro v8 T8 h8 L8 X8 e8 q8
      obtain ⟨x8, y8, rfl, M8, K8, F8, hH8⟩ := q8
      have N8 := Fr.app NB M8
      have Z8 : n0 ≤ h8.size := Nat.le_trans ZB K8.1
      show Ends p e below s 16 128 (Q0 Z p1 p2 p3 p4 p5  h0 n0) (T8.setTop (mkF m 73 #[.val (.int p1), .val (.int p2), .val (.int p3), .val (.int p4), .val (.int p5), .val (.int nn), .val (.int mm), .val (.int ur), .val (.ref o), .val (.int 1), .unset, .unset] []))
      exact blk73 _ _ _ nn mm ur o dA cA _ _ _ (k + 1) X8 e8 N8 Z8 NE F8 (own_add1 hsz (by omega)) hn hm (by omega) (fun _ => hH8 (by obtain ⟨w, w1, w2⟩ := hZ0 (by omega); exact Or.inl ⟨w, by omega, by omega, w2⟩))
  have blk47 : ∀ (TB : State) (hB : Heap) (lB : List Loc) (nn : Int32) (mm : Int32) (ur : Int32) (o : Addr) (dA : Addr) (cA : Addr) (sz : Int32) (g1 : Nat → Int32) (g2 : Nat → Int32) (k : Nat) (XB : Stand p l e room_1 s m #[(.int p1), (.int p2), (.int p3), (.int p4), (.int p5)] below meth c TB lB (0 + 1 + 2) (0 + 3 + 6)) (eB : TB.heap = hB) (NB : Fr n0 lB) (ZB : n0 ≤ hB.size) (NE : NE3 n0 o dA cA) (FB : CB Z hB o dA cA sz g1 g2) (hsz : sz.toInt = (k : Int)) (hn : 0 ≤ nn.toInt ∧ nn.toInt ≤ 3) (hm : 0 ≤ mm.toInt ∧ mm.toInt ≤ nn.toInt) (hk : k = 0) (hZ0 : 1 ≤ k → Z0in g2 k), Ends p e below s 16 128 (Q0 Z p1 p2 p3 p4 p5  h0 n0) (TB.setTop (mkF m 47 #[.val (.int p1), .val (.int p2), .val (.int p3), .val (.int p4), .val (.int p5), .val (.int nn), .val (.int mm), .val (.int ur), .val (.ref o), .val (.int 1), .unset, .unset] [])) := by
    intro TB hB lB nn mm ur o dA cA sz g1 g2 k XB eB NB ZB NE FB hsz hn hm hk hZ0
    refine own_iload (n := 49) XB hx (hb hby at_47) rfl rfl ?_
    refine own_iconst (n := 50) XB hx (1 : Int32) (hb hby at_49) rfl rfl ?_
    by_cases c50 : nn < (1 : Int32)
    · refine own_icmpYes (n := 60) XB hx (hb hby at_50) (Jvm.Free.XT.ii_lt_t c50) (by decide) (by decide) ?_
      show Ends p e below s 16 128 (Q0 Z p1 p2 p3 p4 p5  h0 n0) (TB.setTop (mkF m 60 #[.val (.int p1), .val (.int p2), .val (.int p3), .val (.int p4), .val (.int p5), .val (.int nn), .val (.int mm), .val (.int ur), .val (.ref o), .val (.int 1), .unset, .unset] []))
      rw [Int32.lt_iff_toInt_lt] at c50
      exact blk60 _ _ _ nn mm ur o dA cA sz g1 g2 k XB eB NB ZB NE FB hsz hn hm (by omega) hZ0
    · refine own_icmpNo (n := 53) XB hx (hb hby at_50) (Jvm.Free.XT.ii_lt_f c50) rfl ?_
      rw [Int32.lt_iff_toInt_lt] at c50
      refine own_aload (n := 55) XB hx (hb hby at_53) rfl rfl rfl ?_
      refine own_iconst (n := 56) XB hx (0 : Int32) (hb hby at_55) rfl rfl ?_
      refine own_iloadN (n := 57) XB hx (hb hby at_56) rfl rfl ?_
      refine own_callV (n := 60) XB hx hZ hown (hw _ (List.mem_of_getElem? (i := 25) rfl)) (hw _ (List.mem_of_getElem? (i := 26) rfl)) (hw _ (List.mem_of_getElem? (i := 28) rfl)) (hw _ (List.mem_of_getElem? (i := 27) rfl)) (hw _ (List.mem_of_getElem? (i := 6) rfl)) (hw _ (List.mem_of_getElem? (i := 29) rfl)) (by decide) eB FB.1.1 (rm5 l Z a0 hw [] o (0 : Int32) p3 dA cA sz g1 g2 k hB n0 ZB ⟨FB.1, FB.2.1, FB.2.2⟩ ⟨NE.1, NE.2.1, NE.2.2.1, NE.2.2.2.1, NE.2.2.2.2.1, NE.2.2.2.2.2⟩ hsz (by omega)) (W := 0) (by decide) (by decide) (by decide) (by decide) (by rw [hml]; rfl) (argsL := [(.int (0 : Int32)), (.int p3)]) (rest := []) pd_5 rfl (by rfl) (Nat.le_of_eq rfl) (hb hby at_57) rfl rfl ?_
      intro v9 T9 h9 L9 X9 e9 q9
      obtain ⟨x9, y9, rfl, M9, K9, F9, hH9⟩ := q9
      have N9 := Fr.app NB M9
      have Z9 : n0 ≤ h9.size := Nat.le_trans ZB K9.1
      show Ends p e below s 16 128 (Q0 Z p1 p2 p3 p4 p5  h0 n0) (T9.setTop (mkF m 60 #[.val (.int p1), .val (.int p2), .val (.int p3), .val (.int p4), .val (.int p5), .val (.int nn), .val (.int mm), .val (.int ur), .val (.ref o), .val (.int 1), .unset, .unset] []))
      exact blk60 _ _ _ nn mm ur o dA cA _ _ _ (k + 1) X9 e9 N9 Z9 NE F9 (own_add1 hsz (by omega)) hn hm (by omega) (fun _ => hH9 (Or.inr rfl))
  have blk30 : ∀ (TB : State) (hB : Heap) (lB : List Loc) (nn : Int32) (mm : Int32) (ur : Int32) (XB : Stand p l e room_1 s m #[(.int p1), (.int p2), (.int p3), (.int p4), (.int p5)] below meth c TB lB (0) (0)) (eB : TB.heap = hB) (NB : Fr n0 lB) (ZB : n0 ≤ hB.size) (hn : 0 ≤ nn.toInt ∧ nn.toInt ≤ 3) (hm : 0 ≤ mm.toInt ∧ mm.toInt ≤ nn.toInt), Ends p e below s 16 128 (Q0 Z p1 p2 p3 p4 p5  h0 n0) (TB.setTop (mkF m 30 #[.val (.int p1), .val (.int p2), .val (.int p3), .val (.int p4), .val (.int p5), .val (.int nn), .val (.int mm), .val (.int ur), .unset, .unset, .unset, .unset] [])) := by
    intro TB hB lB nn mm ur XB eB NB ZB hn hm
    refine own_newO (n := 33) XB hx hZ hown (hw _ (List.mem_of_getElem? (i := 4) rfl)) (hw _ (List.mem_of_getElem? (i := 5) rfl)) (hw _ (List.mem_of_getElem? (i := 6) rfl)) eB (by decide) (by decide) (hb hby at_30) rfl ?_
    intro T10 h10 b10 X10 e10 g10 E10 A10 D10
    have Z10 : n0 ≤ h10.size := Nat.le_trans ZB E10.1
    have nb_b10 : n0 ≤ b10 := Nat.le_trans ZB (Nat.le_of_eq g10.symm)
    have N10_b10 : CO Z h10 b10 (.null) (.null) (0) := ⟨A10, D10 (Or.inr (hw _ (List.mem_of_getElem? (i := 15) rfl))) (ty := (.array .int)) (by decide), D10 (Or.inr (hw _ (List.mem_of_getElem? (i := 17) rfl))) (ty := (.array .int)) (by decide), D10 (Or.inl (hw _ (List.mem_of_getElem? (i := 24) rfl))) (ty := .int) (by decide)⟩
    refine own_dup (n := 34) X10 hx (hb hby at_33) rfl rfl ?_
    refine own_iconst (n := 35) X10 hx (3 : Int32) (hb hby at_34) rfl rfl ?_
    refine own_callN (n := 38) X10 hx hZ rfl hown (hw _ (List.mem_of_getElem? (i := 7) rfl)) (hw _ (List.mem_of_getElem? (i := 8) rfl)) (hw _ (List.mem_of_getElem? (i := 6) rfl)) (hw _ (List.mem_of_getElem? (i := 9) rfl)) (by decide) e10 (rm2 l Z a0 hw [] b10 (3 : Int32) h10 n0 Z10 N10_b10 nb_b10 rfl) (W := 1) (by decide) (by decide) (by decide) (by decide) (by rw [hml]; rfl) (argsL := [(.int (3 : Int32))]) (rest := [(.ref b10)]) pd_2 rfl (a := b10) (by rfl) (Nat.le_of_eq rfl) (hb hby at_35) rfl rfl ?_
    intro v11 T11 h11 L11 X11 e11 q11
    obtain ⟨d11, c11, rfl, M11, K11, NE11, F11⟩ := q11
    have N11 := Fr.app NB M11
    have Z11 : n0 ≤ h11.size := Nat.le_trans Z10 K11.1
    refine own_astore (n := 40) X11 hx (hb hby at_38) rfl (l' := #[.val (.int p1), .val (.int p2), .val (.int p3), .val (.int p4), .val (.int p5), .val (.int nn), .val (.int mm), .val (.int ur), .val (.ref b10), .unset, .unset, .unset]) rfl rfl ?_
    refine own_aload (n := 42) X11 hx (hb hby at_40) rfl rfl rfl ?_
    refine own_callV (n := 45) X11 hx hZ hown (hw _ (List.mem_of_getElem? (i := 18) rfl)) (hw _ (List.mem_of_getElem? (i := 19) rfl)) (hw _ (List.mem_of_getElem? (i := 21) rfl)) (hw _ (List.mem_of_getElem? (i := 20) rfl)) (hw _ (List.mem_of_getElem? (i := 6) rfl)) (hw _ (List.mem_of_getElem? (i := 22) rfl)) (by decide) e11 F11.1.1 (rm4 l Z a0 hw [] b10  d11 c11 (0) (fun _ => 0) (fun _ => 0)  h11 n0 Z11 ⟨F11.1, F11.2.1, F11.2.2⟩ ⟨NE11.1, NE11.2.1, NE11.2.2.1, NE11.2.2.2.1, NE11.2.2.2.2.1, NE11.2.2.2.2.2⟩ ) (W := 0) (by decide) (by decide) (by decide) (by decide) (by rw [hml]; rfl) (argsL := []) (rest := []) pd_4 rfl (by rfl) (Nat.le_of_eq rfl) (hb hby at_42) rfl rfl ?_
    intro v12 T12 h12 L12 X12 e12 q12
    obtain ⟨rfl, M12, rfl⟩ := q12
    have N12 := Fr.app N11 M12
    refine own_istore (n := 47) X12 hx (hb hby at_45) (l' := #[.val (.int p1), .val (.int p2), .val (.int p3), .val (.int p4), .val (.int p5), .val (.int nn), .val (.int mm), .val (.int ur), .val (.ref b10), .val (.int (if 0 = 0 then (1 : Int32) else 0)), .unset, .unset]) rfl rfl ?_
    show Ends p e below s 16 128 (Q0 Z p1 p2 p3 p4 p5  h0 n0) (T12.setTop (mkF m 47 #[.val (.int p1), .val (.int p2), .val (.int p3), .val (.int p4), .val (.int p5), .val (.int nn), .val (.int mm), .val (.int ur), .val (.ref b10), .val (.int (if 0 = 0 then (1 : Int32) else 0)), .unset, .unset] []))
    exact blk47 _ _ _ nn mm ur b10 d11 c11 (0) (fun _ => 0) (fun _ => 0) (0) X12 e12 N12 Z11 NE11 F11 o0 hn hm rfl (fun z => absurd z (by decide))
  refine own_iloadN (n := 1) X0 hx (hb hby at_0) rfl rfl ?_
  refine own_iconst (n := 2) X0 hx (3 : Int32) (hb hby at_1) rfl rfl ?_
  refine own_iand (n := 3) X0 hx (hb hby at_2) rfl ?_
  refine own_istore (n := 5) X0 hx (hb hby at_3) (l' := #[.val (.int p1), .val (.int p2), .val (.int p3), .val (.int p4), .val (.int p5), .val (.int (p1 &&& (3 : Int32))), .unset, .unset, .unset, .unset, .unset, .unset]) rfl rfl ?_
  show Ends p e below s 16 128 (Q0 Z p1 p2 p3 p4 p5  h0 n0) (s₁.setTop (mkF m 5 #[.val (.int p1), .val (.int p2), .val (.int p3), .val (.int p4), .val (.int p5), .val (.int (p1 &&& (3 : Int32))), .unset, .unset, .unset, .unset, .unset, .unset] []))
  generalize g_nn : (p1 &&& (3 : Int32)) = nn
  refine own_iloadN (n := 6) X0 hx (hb hby at_5) rfl rfl ?_
  refine own_iconst (n := 7) X0 hx (3 : Int32) (hb hby at_6) rfl rfl ?_
  refine own_iand (n := 8) X0 hx (hb hby at_7) rfl ?_
  refine own_iload (n := 10) X0 hx (hb hby at_8) rfl rfl ?_
  refine own_callS (n := 13) X0 hx hZ hown (hw _ (List.mem_of_getElem? (i := 0) rfl)) (hw _ (List.mem_of_getElem? (i := 1) rfl)) (hw _ (List.mem_of_getElem? (i := 2) rfl)) (hw _ (List.mem_of_getElem? (i := 3) rfl)) (by decide) e0 (rm1 l Z a0 hw [] (p2 &&& (3 : Int32)) nn h0 n0 Z0 ) (W := 0) (by decide) (by decide) (by decide) (by decide) (by rw [hml]; rfl) (argsL := [(.int (p2 &&& (3 : Int32))), (.int nn)]) (rest := []) pd_1 rfl (by rfl) (Nat.le_of_eq rfl) (hb hby at_10) rfl rfl ?_
  intro v13 T13 h13 L13 X13 e13 q13
  obtain ⟨rfl, M13, rfl⟩ := q13
  have N13 := Fr.app N0 M13
  refine own_istore (n := 15) X13 hx (hb hby at_13) (l' := #[.val (.int p1), .val (.int p2), .val (.int p3), .val (.int p4), .val (.int p5), .val (.int nn), .val (.int (if nn < (p2 &&& (3 : Int32)) then nn else (p2 &&& (3 : Int32)))), .unset, .unset, .unset, .unset, .unset]) rfl rfl ?_
  show Ends p e below s 16 128 (Q0 Z p1 p2 p3 p4 p5  h0 n0) (T13.setTop (mkF m 15 #[.val (.int p1), .val (.int p2), .val (.int p3), .val (.int p4), .val (.int p5), .val (.int nn), .val (.int (if nn < (p2 &&& (3 : Int32)) then nn else (p2 &&& (3 : Int32)))), .unset, .unset, .unset, .unset, .unset] []))
  generalize g_mm : (if nn < (p2 &&& (3 : Int32)) then nn else (p2 &&& (3 : Int32))) = mm
  refine own_iloadN (n := 16) X13 hx (hb hby at_15) rfl rfl ?_
  refine own_iconst (n := 17) X13 hx (2 : Int32) (hb hby at_16) rfl rfl ?_
  refine own_iushr (n := 18) X13 hx (hb hby at_17) rfl ?_
  refine own_iconst (n := 19) X13 hx (1 : Int32) (hb hby at_18) rfl rfl ?_
  refine own_iand (n := 20) X13 hx (hb hby at_19) rfl ?_
  by_cases c20 : (((p1.toUInt32 >>> ((2 : Int32) &&& 31).toUInt32).toInt32) &&& (1 : Int32)) = 0
  · refine own_ifYes (n := 27) X13 hx (hb hby at_20) (Jvm.Free.XT.i0_eq_t c20) (by decide) (by decide) ?_
    refine own_iconst (n := 28) X13 hx (0 : Int32) (hb hby at_27) rfl rfl ?_
    refine own_istore (n := 30) X13 hx (hb hby at_28) (l' := #[.val (.int p1), .val (.int p2), .val (.int p3), .val (.int p4), .val (.int p5), .val (.int nn), .val (.int mm), .val (.int (0 : Int32)), .unset, .unset, .unset, .unset]) rfl rfl ?_
    show Ends p e below s 16 128 (Q0 Z p1 p2 p3 p4 p5  h0 n0) (T13.setTop (mkF m 30 #[.val (.int p1), .val (.int p2), .val (.int p3), .val (.int p4), .val (.int p5), .val (.int nn), .val (.int mm), .val (.int (0 : Int32)), .unset, .unset, .unset, .unset] []))
    have q1 := c_and p1 3 (by decide)
    have q2 := c_and p2 3 (by decide)
    rw [g_nn] at q1
    exact blk30 _ _ _ nn mm _ X13 e13 N13 Z0 (by omega) (by rw [← g_mm]; split <;> rename_i z <;> rw [Int32.lt_iff_toInt_lt] at z <;> omega)
  · refine own_ifNo (n := 23) X13 hx (hb hby at_20) (Jvm.Free.XT.i0_eq_f c20) rfl ?_
    refine own_iconst (n := 24) X13 hx (1 : Int32) (hb hby at_23) rfl rfl ?_
    refine own_goto (n := 28) X13 hx (hb hby at_24) (by decide) (by decide) ?_
    refine own_istore (n := 30) X13 hx (hb hby at_28) (l' := #[.val (.int p1), .val (.int p2), .val (.int p3), .val (.int p4), .val (.int p5), .val (.int nn), .val (.int mm), .val (.int (1 : Int32)), .unset, .unset, .unset, .unset]) rfl rfl ?_
    show Ends p e below s 16 128 (Q0 Z p1 p2 p3 p4 p5  h0 n0) (T13.setTop (mkF m 30 #[.val (.int p1), .val (.int p2), .val (.int p3), .val (.int p4), .val (.int p5), .val (.int nn), .val (.int mm), .val (.int (1 : Int32)), .unset, .unset, .unset, .unset] []))
    have q1 := c_and p1 3 (by decide)
    have q2 := c_and p2 3 (by decide)
    rw [g_nn] at q1
    exact blk30 _ _ _ nn mm _ X13 e13 N13 Z0 (by omega) (by rw [← g_mm]; split <;> rename_i z <;> rw [Int32.lt_iff_toInt_lt] at z <;> omega)
theorem comes_1 {Post : Tables → Env → Array Value → State → Outcome → State → Prop} (hpost : ∀ tb e args s v u, (limb_1_1.after args s (.returned v) u = true ∧ limb_1_2.after args s (.returned v) u = true ∧ True) → FrameEnd s (.returned v) u (Jvm.fieldLocs frame_1_writes args s ++ Jvm.arrayLocs frame_1_arrays args s ++ Jvm.staticLocs frame_1_statics s) 16 128 → Post tb e args s (.returned v) u) :
    ArmFor flags0 classFile x code maxLocals ret World_1 tables_1 room_1 Calls_1 rest_1 Pre_1 Post := by
  intro l hfl _ _ p e ha hc hk s m args below hf hA hF happ hP
  obtain ⟨hcalls, hrest, hpre⟩ := hP
  obtain ⟨-, -, -, hnamed, -, -, -, hat⟩ := (Spec.applies_iff hf).mp happ
  obtain ⟨hg, hn⟩ := and_e (Cond.before_iff.mp (show (Jvm.Cond.and given_1 narrow_1).before args s = true from hpre))
  obtain ⟨hcount, hg0⟩ := and_e hg
  obtain ⟨hi0, hg1⟩ := and_e hg0
  obtain ⟨hi1, hg2⟩ := and_e hg1
  obtain ⟨hi2, hg3⟩ := and_e hg2
  obtain ⟨hi3, hg4⟩ := and_e hg3
  obtain ⟨w0, w1, w2, w3, w4, rfl⟩ : ∃ w0 w1 w2 w3 w4 : Value, args = #[w0, w1, w2, w3, w4] := by
    have hs : args.size = 5 := by simpa [Cond.value, given_1] using hcount
    obtain ⟨L⟩ := args
    match L, hs with
    | [w0, w1, w2, w3, w4], _ => exact ⟨w0, w1, w2, w3, w4, rfl⟩
  have hw := fun d (hd : d ∈ tables_1) => atoms_spec (ws := Jvm.Cond.code x code maxLocals ret :: tables_1) hat d (List.mem_cons_of_mem _ hd)
  have hfit : Fit s := fun {y c} hc i hi => by
    obtain ⟨ha, rfl⟩ := Array.getElem?_eq_some_iff.mp hc
    have q := List.all_eq_true.mp ((Array.all_eq_true_iff_forall_mem.mp hF) _ (Array.getElem_mem ha)) i (List.mem_range.mpr hi)
    simpa [Array.getElem?_eq_getElem hi] using q
  obtain ⟨i0, j0⟩ := is_v hi0
  obtain rfl : w0 = (.int i0) := Option.some.inj j0
  obtain ⟨i1, j1⟩ := is_v hi1
  obtain rfl : w1 = (.int i1) := Option.some.inj j1
  obtain ⟨i2, j2⟩ := is_v hi2
  obtain rfl : w2 = (.int i2) := Option.some.inj j2
  obtain ⟨i3, j3⟩ := is_v hi3
  obtain rfl : w3 = (.int i3) := Option.some.inj j3
  obtain ⟨i4, j4⟩ := is_v hg4
  obtain rfl : w4 = (.int i4) := Option.some.inj j4
  obtain ⟨n, o, h1, h2, h3, _, L, rfl, ⟨rfl, N⟩, hq⟩ := rm0 l s _ hw tables_1 i0 i1 i2 i3 i4  s.heap s.heap.size (Nat.le_refl _)  p e ha hc hk s m _ below hf ((Spec.applies_iff_loose hf).mp happ).1 ⟨rfl, State.Warmed39.refl s, rfl⟩ trivial
  refine ⟨n, _, h1, h2, h3, hpost _ _ _ _ _ _ ⟨Cond.after_iff.mpr rfl, Cond.after_iff.mpr (eq_i res_at (Term.int_eval (1)) rfl), trivial⟩ ⟨hq.1, hq.2.1, (hq.2.2.sift fun y hy => Or.inr (N y hy)).mono (by decide) (by decide)⟩⟩
theorem main_1_1 : Claimed_1_1 := comes_1 fun _ _ _ _ _ _ h hF => ⟨h.1, hF⟩
theorem main_1_2 : Claimed_1_2 := comes_1 fun _ _ _ _ _ _ h hF => ⟨h.2.1, hF⟩
end Jvm.Pilot.@@N@@
namespace Jvm.Pilot.@@N@@
open Jvm Jvm.ClassFile Sem Op Lib Jvm.Free Jvm.Stand Jvm.Pilot.@@N@@.Jvm.D
/-! MADE BY PROGRAM (witnessworld.py) out of the Statement's table words and the real class files: 10 classes; the members and pool entries that the words name. The judged class is class 1, her method 1. -/
namespace start1
open Jvm.ClassFile
def u (s : String) : CpInfo := .utf8 (stringToUtf16 s)
/-- a pool by its gaps: so many unusable entries, then the entry; so many at the end -/
def gap : Nat → List CpInfo → List CpInfo
  | 0, r => r
  | n + 1, r => .unusable :: gap n r
def poolList (es : List (Nat × CpInfo)) (last : Nat) : List CpInfo := es.foldr (fun e r => gap e.1 (e.2 :: r)) (gap last [])
def pool (es : List (Nat × CpInfo)) (last : Nat) : Array CpInfo := ⟨poolList es last⟩
def fileOf (pool : Array CpInfo) (this : Nat) (attrs : Array Attribute := #[]) (ms : Array MethodInfo := #[]) (fl : Nat := 33) (sup : Nat := 0) (ifs : Array Nat := #[]) (fds : Array FieldInfo := #[]) : ClassFile where
  minorVersion := 0
  majorVersion := 65
  constantPool := pool
  accessFlags := fl
  thisClass := this
  superClass := sup
  interfaces := ifs
  fields := fds
  methods := ms
  attributes := attrs
def plain (name : String) (sup : Option ClassId) : Class where
  name := name
  kind := .ordinary
  loader := none
  accessFlags := 33
  super := sup
  interfaces := #[]
  cf := none
  fields := #[]
  methods := #[]
  instanceTypes := #[]
  staticTypes := #[]
  resolved := #[]
  callSites := []
  init := .initialized
  statics := none
  mirror := none

def pool0 : Array CpInfo := pool [(5, u "<init>"), (0, u "()V"), (1, .class_ 10), (1, u "java/lang/Object")] 113

def k0c0 : Code := { maxStack := 0, maxLocals := 1, code := object_method_1_code, exceptionTable := #[], attributes := #[] }
def k0m0 : Method := { name := "<init>", desc := "()V", sig := { parameters := [], returnType := none }, accessFlags := 1, code := some k0c0 }
/-- java/lang/Object -/
def k0 : Class := { plain "java/lang/Object" none with
  accessFlags := 33
  interfaces := #[]
  cf := some (fileOf pool0 8 #[] #[{ accessFlags := 1, nameIndex := 5, descriptorIndex := 6, attributes := #[] }] 33 0 #[] #[])
  fields := #[]
  methods := #[k0m0]
  instanceTypes := #[]
  staticTypes := #[]
  resolved := Array.replicate 124 none
  statics := none }

def pool1 : Array CpInfo := pool [(2, .class_ 4), (1, u "java/lang/Object"), (0, u "<init>"), (0, u "()V"), (0, .methodref 8 9), (0, .class_ 10), (0, .nameAndType 11 12), (0, u "java/lang/Math"), (0, u "min"), (0, u "(II)I"), (0, .class_ 14), (0, u "com/example/vernier_search/verniersearch/search/ClausesByDoc"), (0, .methodref 13 16), (0, .nameAndType 5 17), (0, u "(I)V"), (0, .methodref 13 19), (0, .nameAndType 20 21), (0, u "isEmpty"), (0, u "()Z"), (0, .methodref 13 23), (0, .nameAndType 24 25), (0, u "add"), (0, u "(II)V"), (0, .methodref 13 27), (0, .nameAndType 28 17), (0, u "remove"), (0, .methodref 13 30), (0, .nameAndType 31 32), (0, u "poll"), (0, u "()I"), (0, .class_ 34), (0, u "com/example/vernier_search/verniersearch/search/ClausesByDocIsEmptyPinLaw"), (2, u "law"), (0, u "(IIIII)Z")] 3

def k1m0 : Method := { name := "<init>", desc := "()V", sig := { parameters := [], returnType := none }, accessFlags := 1, code := none }
def k1c1 : Code := { maxStack := 3, maxLocals := 12, code := code, exceptionTable := #[], attributes := #[] }
def k1m1 : Method := { name := "law", desc := "(IIIII)Z", sig := { parameters := [.int, .int, .int, .int, .int], returnType := some .boolean }, accessFlags := 9, code := some k1c1 }
/-- com/example/vernier_search/verniersearch/search/ClausesByDocIsEmptyPinLaw -/
def k1 : Class := { plain "com/example/vernier_search/verniersearch/search/ClausesByDocIsEmptyPinLaw" (some 0) with
  accessFlags := 49
  interfaces := #[]
  cf := some (fileOf pool1 33 #[] #[{ accessFlags := 1, nameIndex := 5, descriptorIndex := 6, attributes := #[] }, { accessFlags := 9, nameIndex := 37, descriptorIndex := 38, attributes := #[] }] 49 2 #[] #[])
  fields := #[]
  methods := #[k1m0, k1m1]
  instanceTypes := #[]
  staticTypes := #[]
  resolved := Array.replicate 42 none
  statics := none }

def pool2 : Array CpInfo := pool [(1, .class_ 2), (0, u "java/lang/Math"), (1, .class_ 6), (1, u "java/lang/Object"), (0, u "<init>"), (0, u "()V"), (89, .class_ 100), (1, u "java/lang/Math$RandomNumberGeneratorHolder"), (71, u "negativeZeroFloatBits"), (0, u "J"), (2, u "negativeZeroDoubleBits"), (24, u "min"), (43, u "$assertionsDisabled"), (0, u "Z"), (88, u "(II)I"), (2, u "twoToTheDoubleScaleDown"), (0, u "D"), (4, u "twoToTheDoubleScaleUp"), (9, u "E"), (3, u "PI"), (2, u "TAU"), (2, u "DEGREES_TO_RADIANS"), (0, u "RADIANS_TO_DEGREES")] 94

def k2m0 : Method := { name := "<init>", desc := "()V", sig := { parameters := [], returnType := none }, accessFlags := 2, code := none }
def k2c1 : Code := { maxStack := 2, maxLocals := 2, code := jdk_29_method_69_code, exceptionTable := #[], attributes := #[] }
def k2m1 : Method := { name := "min", desc := "(II)I", sig := { parameters := [.int, .int], returnType := some .int }, accessFlags := 9, code := some k2c1 }
/-- java/lang/Math -/
def k2 : Class := { plain "java/lang/Math" (some 0) with
  accessFlags := 49
  interfaces := #[]
  cf := some (fileOf pool2 1 #[.nestMembers #[98]] #[{ accessFlags := 2, nameIndex := 7, descriptorIndex := 8, attributes := #[] }, { accessFlags := 9, nameIndex := 201, descriptorIndex := 335, attributes := #[] }] 49 4 #[] #[{ accessFlags := 25, nameIndex := 354, descriptorIndex := 339, attributes := #[] }, { accessFlags := 25, nameIndex := 358, descriptorIndex := 339, attributes := #[] }, { accessFlags := 25, nameIndex := 361, descriptorIndex := 339, attributes := #[] }, { accessFlags := 26, nameIndex := 364, descriptorIndex := 339, attributes := #[] }, { accessFlags := 26, nameIndex := 365, descriptorIndex := 339, attributes := #[] }, { accessFlags := 26, nameIndex := 172, descriptorIndex := 173, attributes := #[] }, { accessFlags := 26, nameIndex := 176, descriptorIndex := 173, attributes := #[] }, { accessFlags := 8, nameIndex := 344, descriptorIndex := 339, attributes := #[] }, { accessFlags := 8, nameIndex := 338, descriptorIndex := 339, attributes := #[] }, { accessFlags := 4120, nameIndex := 245, descriptorIndex := 246, attributes := #[] }])
  fields := #[{ name := "E", type := .double, accessFlags := 25, slot := 0, constantValue := 0 }, { name := "PI", type := .double, accessFlags := 25, slot := 1, constantValue := 0 }, { name := "TAU", type := .double, accessFlags := 25, slot := 2, constantValue := 0 }, { name := "DEGREES_TO_RADIANS", type := .double, accessFlags := 26, slot := 3, constantValue := 0 }, { name := "RADIANS_TO_DEGREES", type := .double, accessFlags := 26, slot := 4, constantValue := 0 }, { name := "negativeZeroFloatBits", type := .long, accessFlags := 26, slot := 5, constantValue := 0 }, { name := "negativeZeroDoubleBits", type := .long, accessFlags := 26, slot := 6, constantValue := 0 }, { name := "twoToTheDoubleScaleUp", type := .double, accessFlags := 8, slot := 7, constantValue := 0 }, { name := "twoToTheDoubleScaleDown", type := .double, accessFlags := 8, slot := 8, constantValue := 0 }, { name := "$assertionsDisabled", type := .boolean, accessFlags := 4120, slot := 9, constantValue := 0 }]
  methods := #[k2m0, k2m1]
  instanceTypes := #[]
  staticTypes := #[.double, .double, .double, .double, .double, .long, .long, .double, .double, .boolean]
  resolved := Array.replicate 460 none
  statics := none }

def pool3 : Array CpInfo := pool [(1, .methodref 2 3), (0, .class_ 4), (0, .nameAndType 5 6), (0, u "java/lang/Object"), (0, u "<init>"), (0, u "()V"), (0, .fieldref 8 9), (0, .class_ 10), (0, .nameAndType 11 12), (0, u "com/example/vernier_search/verniersearch/search/ClausesByDoc"), (0, u "docs"), (0, u "[I"), (0, .fieldref 8 14), (0, .nameAndType 15 12), (0, u "clauses"), (0, .fieldref 8 17), (0, .nameAndType 18 19), (0, u "size"), (0, u "I"), (0, .methodref 8 21), (0, .nameAndType 22 23), (0, u "siftUp"), (0, u "(III)V"), (0, .methodref 8 25), (0, .nameAndType 26 27), (0, u "removeAt"), (0, u "(I)V"), (0, .methodref 8 29), (0, .nameAndType 30 23), (0, u "siftDown"), (2, u "isEmpty"), (0, u "()Z"), (2, u "()I"), (0, u "add"), (0, u "(II)V"), (0, u "poll"), (0, u "remove")] 2

def k3c0 : Code := { maxStack := 2, maxLocals := 2, code := prog_60_method_1_code, exceptionTable := #[], attributes := #[] }
def k3m0 : Method := { name := "<init>", desc := "(I)V", sig := { parameters := [.int], returnType := none }, accessFlags := 0, code := some k3c0 }
def k3c1 : Code := { maxStack := 1, maxLocals := 1, code := prog_60_method_2_code, exceptionTable := #[], attributes := #[] }
def k3m1 : Method := { name := "isEmpty", desc := "()Z", sig := { parameters := [], returnType := some .boolean }, accessFlags := 0, code := some k3c1 }
def k3c2 : Code := { maxStack := 4, maxLocals := 3, code := prog_60_method_4_code, exceptionTable := #[], attributes := #[] }
def k3m2 : Method := { name := "add", desc := "(II)V", sig := { parameters := [.int, .int], returnType := none }, accessFlags := 0, code := some k3c2 }
def k3c3 : Code := { maxStack := 2, maxLocals := 2, code := prog_60_method_5_code, exceptionTable := #[], attributes := #[] }
def k3m3 : Method := { name := "poll", desc := "()I", sig := { parameters := [], returnType := some .int }, accessFlags := 0, code := some k3c3 }
def k3c4 : Code := { maxStack := 2, maxLocals := 3, code := prog_60_method_6_code, exceptionTable := #[], attributes := #[] }
def k3m4 : Method := { name := "remove", desc := "(I)V", sig := { parameters := [.int], returnType := none }, accessFlags := 0, code := some k3c4 }
def k3c5 : Code := { maxStack := 4, maxLocals := 4, code := prog_60_method_7_code, exceptionTable := #[], attributes := #[] }
def k3m5 : Method := { name := "removeAt", desc := "(I)V", sig := { parameters := [.int], returnType := none }, accessFlags := 2, code := some k3c5 }
def k3c6 : Code := { maxStack := 4, maxLocals := 6, code := prog_60_method_8_code, exceptionTable := #[], attributes := #[] }
def k3m6 : Method := { name := "siftUp", desc := "(III)V", sig := { parameters := [.int, .int, .int], returnType := none }, accessFlags := 2, code := some k3c6 }
def k3c7 : Code := { maxStack := 4, maxLocals := 6, code := prog_60_method_9_code, exceptionTable := #[], attributes := #[] }
def k3m7 : Method := { name := "siftDown", desc := "(III)V", sig := { parameters := [.int, .int, .int], returnType := none }, accessFlags := 2, code := some k3c7 }
/-- com/example/vernier_search/verniersearch/search/ClausesByDoc -/
def k3 : Class := { plain "com/example/vernier_search/verniersearch/search/ClausesByDoc" (some 0) with
  accessFlags := 32
  interfaces := #[]
  cf := some (fileOf pool3 8 #[] #[{ accessFlags := 0, nameIndex := 5, descriptorIndex := 27, attributes := #[] }, { accessFlags := 0, nameIndex := 33, descriptorIndex := 34, attributes := #[] }, { accessFlags := 0, nameIndex := 38, descriptorIndex := 39, attributes := #[] }, { accessFlags := 0, nameIndex := 40, descriptorIndex := 37, attributes := #[] }, { accessFlags := 0, nameIndex := 41, descriptorIndex := 27, attributes := #[] }, { accessFlags := 2, nameIndex := 26, descriptorIndex := 27, attributes := #[] }, { accessFlags := 2, nameIndex := 22, descriptorIndex := 23, attributes := #[] }, { accessFlags := 2, nameIndex := 30, descriptorIndex := 23, attributes := #[] }] 32 2 #[] #[{ accessFlags := 18, nameIndex := 11, descriptorIndex := 12, attributes := #[] }, { accessFlags := 18, nameIndex := 15, descriptorIndex := 12, attributes := #[] }, { accessFlags := 2, nameIndex := 18, descriptorIndex := 19, attributes := #[] }])
  fields := #[{ name := "docs", type := (.array .int), accessFlags := 18, slot := 0, constantValue := 0 }, { name := "clauses", type := (.array .int), accessFlags := 18, slot := 1, constantValue := 0 }, { name := "size", type := .int, accessFlags := 2, slot := 2, constantValue := 0 }]
  methods := #[k3m0, k3m1, k3m2, k3m3, k3m4, k3m5, k3m6, k3m7]
  instanceTypes := #[(.array .int), (.array .int), .int]
  staticTypes := #[]
  resolved := Array.replicate 44 none
  statics := none }

def pool4 : Array CpInfo := pool [(1, u "java/lang/Cloneable"), (0, .class_ 1), (0, u "java/lang/Object"), (0, .class_ 3)] 3

/-- java/lang/Cloneable -/
def k4 : Class := { plain "java/lang/Cloneable" (some 0) with
  accessFlags := 1537
  interfaces := #[]
  cf := some (fileOf pool4 2 #[] #[] 1537 4 #[] #[])
  fields := #[]
  methods := #[]
  instanceTypes := #[]
  staticTypes := #[]
  resolved := Array.replicate 8 none
  statics := none }

def pool5 : Array CpInfo := pool [(1, u "java/io/Serializable"), (0, .class_ 1), (0, u "java/lang/Object"), (0, .class_ 3)] 3

/-- java/io/Serializable -/
def k5 : Class := { plain "java/io/Serializable" (some 0) with
  accessFlags := 1537
  interfaces := #[]
  cf := some (fileOf pool5 2 #[] #[] 1537 4 #[] #[])
  fields := #[]
  methods := #[]
  instanceTypes := #[]
  staticTypes := #[]
  resolved := Array.replicate 8 none
  statics := none }

/-- the primitive byte -/
def k6 : Class := { plain "byte" none with kind := .primitive 'B', accessFlags := 0x411 }
/-- [B -/
def k7 : Class := { plain "[B" (some 0) with kind := .array 6 .byte, interfaces := #[4, 5], accessFlags := 1041 }

/-- the primitive int -/
def k8 : Class := { plain "int" none with kind := .primitive 'I', accessFlags := 0x411 }
/-- [I -/
def k9 : Class := { plain "[I" (some 0) with kind := .array 8 .int, interfaces := #[4, 5], accessFlags := 1041 }

def heap : Heap := #[]
def classes : Array Class := #[k0, k1, k2, k3, k4, k5, k6, k7, k8, k9]
def interned : List (Array UInt16 × Addr) := []
def slotsUsed : Nat := 0
def theMethod : MethodId := ⟨1, 1⟩
def args0 : Array Value := #[.int 5, .int 5, .int 5, .int 5, .int 5]
def aboutOver (below : List Frame) : State where
  vm := { classes := classes, interned := interned.toArray }
  heap := heap
  slotsUsed := slotsUsed
  threads := #[{ frames := .invoking theMethod args0 :: below }]
def below0 : List Frame := [.native { method := ⟨0, 0⟩, args := #[] }]
def about1 : State := aboutOver below0
def p0 : Program := .bare "" "" ""
def e0 : Env := launch0.env 0 0 0
theorem w_frames : about1.frames = Frame.invoking theMethod args0 :: below0 := rfl
set_option maxRecDepth 65536 in
theorem w_args : argsFit about1.vm theMethod args0 = true := by decide +kernel
set_option maxRecDepth 65536 in
theorem w_heap : heapFits about1 = true := by decide +kernel
set_option maxRecDepth 65536 in
theorem w_runnable : about1.curStatus? = some .runnable := by decide +kernel
set_option maxRecDepth 65536 in
theorem w_alone : about1.alone = true := by decide +kernel
set_option maxRecDepth 65536 in
theorem w_named : about1.methodNamed? x = some theMethod := by decide +kernel
set_option maxRecDepth 65536 in
theorem w_hears : about1.hears theMethod below0 = true := by decide +kernel
set_option maxRecDepth 65536 in
theorem w_ripe : about1.ripe theMethod args0 below0 = true := by decide +kernel
theorem w_running : about1.status = .running := rfl
set_option maxRecDepth 65536 in
theorem w_room : about1.hasRoom e0.platform room_1 = true :=
  launch0.hasRoom_least _ room_1 (by decide +kernel) (by decide +kernel) (by decide +kernel) (by decide +kernel) (by decide +kernel) (by decide +kernel)
theorem allAtoms_all (ts : List Jvm.Cond) (a : Array Jvm.Value) (st : Jvm.State) : (allAtoms ts).before a st = ts.all (fun c => c.before a st) := by
  induction ts with
  | nil => rfl
  | cons c t ih =>
    show (Jvm.Cond.and c (allAtoms t)).before a st = _
    rw [Jvm.Cond.before_and, ih, List.all_cons]
def words1 : List Jvm.Cond := Jvm.Cond.code x code maxLocals ret :: tables_1
/-- a 'code' word, met by the world's own term for the bytes: nothing is compared byte by byte -/
theorem code_word {y : MethodName} {bytes : ByteArray} {mx : Nat} {rt : Option FieldType} {a : Array Value} {s : State} {m : MethodId} {meth : Method} {c : Code} (h1 : s.methodNamed? y = some m) (h2 : s.vm.method? m = some meth) (h3 : meth.code = some c) (h4 : c.code = bytes)
    (h5 : (c.maxLocals == mx && c.exceptionTable.isEmpty && decide (c.maxStack ≤ mostOperands) && decide (meth.sig.returnType = rt) && !meth.locks && decide (parseMethodDescriptor y.desc = some meth.sig)) = true) : (Jvm.Cond.code y bytes mx rt).before a s = true := by
  simp only [Bool.and_eq_true, beq_iff_eq, Bool.not_eq_true', decide_eq_true_eq] at h5
  obtain ⟨⟨⟨⟨⟨g1, g2⟩, g3⟩, g4⟩, g5⟩, g6⟩ := h5
  simp [Cond.before, Cond.holds, Cond.value, h1, h2, h3, h4, g1, g2, g3, g4, g5, g6]
def isCode : Jvm.Cond → Bool
  | .code _ _ _ _ => true
  | _ => false
theorem all_split {L : List Jvm.Cond} {P : Jvm.Cond → Bool} (h1 : L.all (fun c => isCode c || P c) = true) (h2 : ∀ c ∈ L.filter isCode, P c = true) : L.all P = true := by
  refine List.all_eq_true.mpr fun c hc => ?_
  have h := List.all_eq_true.mp h1 c hc
  rcases Bool.eq_false_or_eq_true (isCode c) with hi | hi
  · exact h2 c (List.mem_filter.mpr ⟨hc, hi⟩)
  · simpa [hi] using h
set_option maxRecDepth 65536 in
theorem w_c0 : (Jvm.Cond.code x code maxLocals ret).before args0 about1 = true := code_word (m := ⟨1, 1⟩) (meth := k1m1) (c := k1c1) (by decide +kernel) rfl rfl rfl (by decide +kernel)
set_option maxRecDepth 65536 in
theorem w_c1 : (Jvm.Cond.code ({ cls := "java/lang/Math", name := "min", desc := "(II)I" } : Jvm.MethodName) jdk_29_method_69_code (2 : Nat) (Option.some Jvm.ClassFile.FieldType.int)).before args0 about1 = true := code_word (m := ⟨2, 1⟩) (meth := k2m1) (c := k2c1) (by decide +kernel) rfl rfl rfl (by decide +kernel)
set_option maxRecDepth 65536 in
theorem w_c2 : (Jvm.Cond.code ({ cls := "com/example/vernier_search/verniersearch/search/ClausesByDoc", name := "<init>", desc := "(I)V" } : Jvm.MethodName) prog_60_method_1_code (2 : Nat) (Option.none : Option Jvm.ClassFile.FieldType)).before args0 about1 = true := code_word (m := ⟨3, 0⟩) (meth := k3m0) (c := k3c0) (by decide +kernel) rfl rfl rfl (by decide +kernel)
set_option maxRecDepth 65536 in
theorem w_c3 : (Jvm.Cond.code ({ cls := "java/lang/Object", name := "<init>", desc := "()V" } : Jvm.MethodName) object_method_1_code (1 : Nat) (Option.none : Option Jvm.ClassFile.FieldType)).before args0 about1 = true := code_word (m := ⟨0, 0⟩) (meth := k0m0) (c := k0c0) (by decide +kernel) rfl rfl rfl (by decide +kernel)
set_option maxRecDepth 65536 in
theorem w_c4 : (Jvm.Cond.code ({ cls := "com/example/vernier_search/verniersearch/search/ClausesByDoc", name := "isEmpty", desc := "()Z" } : Jvm.MethodName) prog_60_method_2_code (1 : Nat) (Option.some Jvm.ClassFile.FieldType.boolean)).before args0 about1 = true := code_word (m := ⟨3, 1⟩) (meth := k3m1) (c := k3c1) (by decide +kernel) rfl rfl rfl (by decide +kernel)
set_option maxRecDepth 65536 in
theorem w_c5 : (Jvm.Cond.code ({ cls := "com/example/vernier_search/verniersearch/search/ClausesByDoc", name := "add", desc := "(II)V" } : Jvm.MethodName) prog_60_method_4_code (3 : Nat) (Option.none : Option Jvm.ClassFile.FieldType)).before args0 about1 = true := code_word (m := ⟨3, 2⟩) (meth := k3m2) (c := k3c2) (by decide +kernel) rfl rfl rfl (by decide +kernel)
set_option maxRecDepth 65536 in
theorem w_c6 : (Jvm.Cond.code ({ cls := "com/example/vernier_search/verniersearch/search/ClausesByDoc", name := "siftUp", desc := "(III)V" } : Jvm.MethodName) prog_60_method_8_code (6 : Nat) (Option.none : Option Jvm.ClassFile.FieldType)).before args0 about1 = true := code_word (m := ⟨3, 6⟩) (meth := k3m6) (c := k3c6) (by decide +kernel) rfl rfl rfl (by decide +kernel)
set_option maxRecDepth 65536 in
theorem w_c7 : (Jvm.Cond.code ({ cls := "com/example/vernier_search/verniersearch/search/ClausesByDoc", name := "remove", desc := "(I)V" } : Jvm.MethodName) prog_60_method_6_code (3 : Nat) (Option.none : Option Jvm.ClassFile.FieldType)).before args0 about1 = true := code_word (m := ⟨3, 4⟩) (meth := k3m4) (c := k3c4) (by decide +kernel) rfl rfl rfl (by decide +kernel)
set_option maxRecDepth 65536 in
theorem w_c8 : (Jvm.Cond.code ({ cls := "com/example/vernier_search/verniersearch/search/ClausesByDoc", name := "removeAt", desc := "(I)V" } : Jvm.MethodName) prog_60_method_7_code (4 : Nat) (Option.none : Option Jvm.ClassFile.FieldType)).before args0 about1 = true := code_word (m := ⟨3, 5⟩) (meth := k3m5) (c := k3c5) (by decide +kernel) rfl rfl rfl (by decide +kernel)
set_option maxRecDepth 65536 in
theorem w_c9 : (Jvm.Cond.code ({ cls := "com/example/vernier_search/verniersearch/search/ClausesByDoc", name := "siftDown", desc := "(III)V" } : Jvm.MethodName) prog_60_method_9_code (6 : Nat) (Option.none : Option Jvm.ClassFile.FieldType)).before args0 about1 = true := code_word (m := ⟨3, 7⟩) (meth := k3m7) (c := k3c7) (by decide +kernel) rfl rfl rfl (by decide +kernel)
set_option maxRecDepth 65536 in
theorem w_c10 : (Jvm.Cond.code ({ cls := "com/example/vernier_search/verniersearch/search/ClausesByDoc", name := "poll", desc := "()I" } : Jvm.MethodName) prog_60_method_5_code (2 : Nat) (Option.some Jvm.ClassFile.FieldType.int)).before args0 about1 = true := code_word (m := ⟨3, 3⟩) (meth := k3m3) (c := k3c3) (by decide +kernel) rfl rfl rfl (by decide +kernel)
def codes1 : List Jvm.Cond := [Jvm.Cond.code x code maxLocals ret, Jvm.Cond.code ({ cls := "java/lang/Math", name := "min", desc := "(II)I" } : Jvm.MethodName) jdk_29_method_69_code (2 : Nat) (Option.some Jvm.ClassFile.FieldType.int), Jvm.Cond.code ({ cls := "com/example/vernier_search/verniersearch/search/ClausesByDoc", name := "<init>", desc := "(I)V" } : Jvm.MethodName) prog_60_method_1_code (2 : Nat) (Option.none : Option Jvm.ClassFile.FieldType), Jvm.Cond.code ({ cls := "java/lang/Object", name := "<init>", desc := "()V" } : Jvm.MethodName) object_method_1_code (1 : Nat) (Option.none : Option Jvm.ClassFile.FieldType), Jvm.Cond.code ({ cls := "com/example/vernier_search/verniersearch/search/ClausesByDoc", name := "isEmpty", desc := "()Z" } : Jvm.MethodName) prog_60_method_2_code (1 : Nat) (Option.some Jvm.ClassFile.FieldType.boolean), Jvm.Cond.code ({ cls := "com/example/vernier_search/verniersearch/search/ClausesByDoc", name := "add", desc := "(II)V" } : Jvm.MethodName) prog_60_method_4_code (3 : Nat) (Option.none : Option Jvm.ClassFile.FieldType), Jvm.Cond.code ({ cls := "com/example/vernier_search/verniersearch/search/ClausesByDoc", name := "siftUp", desc := "(III)V" } : Jvm.MethodName) prog_60_method_8_code (6 : Nat) (Option.none : Option Jvm.ClassFile.FieldType), Jvm.Cond.code ({ cls := "com/example/vernier_search/verniersearch/search/ClausesByDoc", name := "remove", desc := "(I)V" } : Jvm.MethodName) prog_60_method_6_code (3 : Nat) (Option.none : Option Jvm.ClassFile.FieldType), Jvm.Cond.code ({ cls := "com/example/vernier_search/verniersearch/search/ClausesByDoc", name := "removeAt", desc := "(I)V" } : Jvm.MethodName) prog_60_method_7_code (4 : Nat) (Option.none : Option Jvm.ClassFile.FieldType), Jvm.Cond.code ({ cls := "com/example/vernier_search/verniersearch/search/ClausesByDoc", name := "siftDown", desc := "(III)V" } : Jvm.MethodName) prog_60_method_9_code (6 : Nat) (Option.none : Option Jvm.ClassFile.FieldType), Jvm.Cond.code ({ cls := "com/example/vernier_search/verniersearch/search/ClausesByDoc", name := "poll", desc := "()I" } : Jvm.MethodName) prog_60_method_5_code (2 : Nat) (Option.some Jvm.ClassFile.FieldType.int)]
set_option maxRecDepth 65536 in
theorem codes_eq : words1.filter isCode = codes1 := rfl
theorem w_codes : ∀ c ∈ words1.filter isCode, c.before args0 about1 = true := by
  rw [codes_eq]
  intro c hc
  simp only [codes1, List.mem_cons, List.not_mem_nil, or_false] at hc
  rcases hc with rfl | rfl | rfl | rfl | rfl | rfl | rfl | rfl | rfl | rfl | rfl
  · exact w_c0
  · exact w_c1
  · exact w_c2
  · exact w_c3
  · exact w_c4
  · exact w_c5
  · exact w_c6
  · exact w_c7
  · exact w_c8
  · exact w_c9
  · exact w_c10
set_option maxRecDepth 65536 in
theorem w_t1 : (words1.take 24).all (fun c => isCode c || c.before args0 about1) = true := by decide +kernel
set_option maxRecDepth 65536 in
theorem w_t2 : ((words1.drop 24).take 24).all (fun c => isCode c || c.before args0 about1) = true := by decide +kernel
set_option maxRecDepth 65536 in
theorem w_t3 : ((words1.drop 24).drop 24).all (fun c => isCode c || c.before args0 about1) = true := by decide +kernel
theorem w_tables : (allAtoms (Jvm.Cond.code x code maxLocals ret :: tables_1)).before args0 about1 = true := by
  rw [allAtoms_all]
  show words1.all (fun c => c.before args0 about1) = true
  refine all_split ?_ w_codes
  rw [← List.take_append_drop 24 words1, List.all_append, w_t1, ← List.take_append_drop 24 (words1.drop 24), List.all_append, w_t2, w_t3]
  rfl
set_option maxRecDepth 65536 in
theorem w_case : (Jvm.Cond.and given_1 narrow_1).before args0 about1 = true := by decide +kernel
theorem w_applies : (headSpec (Jvm.Cond.code x code maxLocals ret :: tables_1) room_1).applies x e0.platform about1 = true :=
  (Spec.applies_iff w_frames).mpr ⟨w_running, w_runnable, w_alone, w_named, w_hears, w_ripe, w_room, w_tables⟩
theorem atStart : AtStart classFile x code maxLocals ret World_1 tables_1 room_1 Calls_1 rest_1 Pre_1 launch0 p0 e0 about1 theMethod args0 below0 :=
  ⟨lists_1, trivial, launch0.admits_env _ _ _, launch0.least_env, fairChoices_fair.cas, fairChoices_fair.clock, w_frames, w_args, w_heap, w_applies, trivial, trivial, w_case⟩
end start1
theorem witness_1 : WitnessClaimed_1 := ⟨start1.p0, start1.e0, start1.about1, start1.theMethod, start1.args0, start1.below0, start1.atStart⟩
end Jvm.Pilot.@@N@@
