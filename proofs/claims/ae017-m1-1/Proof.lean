import JvmDerived
import JvmDerived.Pilot.@@N@@Statement
import JvmDerived.Pilot.@@N@@Code
set_option linter.unusedVariables false
set_option linter.unusedSimpArgs false
set_option maxRecDepth 65536
set_option maxHeartbeats 4000000
namespace Jvm.Pilot.@@N@@
open Jvm Jvm.ClassFile Sem Op Lib Jvm.Free Jvm.Stand Jvm.LawKit Jvm.RoadKit Bundle Jvm.Pilot.@@N@@.Jvm.D
section Own
variable {p : Program} {l : Launch} {e : Env} {R : Room} {s : State} {m : MethodId} {args : Array Value} {below : List Frame} {meth : Method} {c : Code} {T : State} {locs : List Loc} {cells slots : Nat} {K J : Nat} {EE : Outcome → State → List Loc → Prop} {Q : Option Value → Heap → List Loc → Prop} {Z : State} {a0 : Array Value} {h : Heap}
/-- from U the run comes to its end, and what it leaves is Q's -/
def Ends (p : Program) (e : Env) (below : List Frame) (EE : Outcome → State → List Loc → Prop) (Q : Option Value → Heap → List Loc → Prop) (U : State) : Prop :=
  ∃ s₂ o, Steps p.tables e below U s₂ ∧ s₂.status = .running ∧ Ended s₂ below o ∧ ∃ v L, o = .returned v ∧ Q v s₂.heap L ∧ EE o s₂ L
/-- the end's frame: tables warmed alone; or strings interned too -/
abbrev EF (s : State) (K J : Nat) : Outcome → State → List Loc → Prop := fun o t L => FrameEnd s o t L K J
abbrev EW (s : State) (K J : Nat) : Outcome → State → List Loc → Prop := fun o t L => ReturnedEndW s o t L K J
theorem Ends.via {A B : State} (h : ∀ t, Steps p.tables e below A t → Steps p.tables e below B t) (k : Ends p e below EE Q A) : Ends p e below EE Q B := by
  obtain ⟨s2, o, h1, h2⟩ := k
  exact ⟨s2, o, h _ h1, h2⟩
theorem Ends.tr {A B : State} (h : Steps p.tables e below B A) (k : Ends p e below EE Q A) : Ends p e below EE Q B := by
  obtain ⟨s2, o, h1, h2⟩ := k
  exact ⟨s2, o, h.trans h1, h2⟩
theorem Ends.cast {g g' : JFrame} (q : g = g') (k : Ends p e below EE Q (T.setTop g')) : Ends p e below EE Q (T.setTop g) := q ▸ k
theorem own_iadd (X : Stand p l e R s m args below meth c T locs cells slots) (hx : p.tables.exec = Jvm.exec) {pc n : Nat} {Ls : Array Slot} {st : List Value} {x y : Int32} (hd : decode c.code pc = .ok (.iadd, 1))  (hn : pc + 1 = n) (k : Ends p e below EE Q (T.setTop (mkF m n Ls (.int (x + y) :: st)))) : Ends p e below EE Q (T.setTop (mkF m pc Ls (.int y :: .int x :: st))) := by
  subst hn
  exact Ends.via (fun t h => XS.iadd X.here hx rfl hd rfl h) k
theorem own_isub (X : Stand p l e R s m args below meth c T locs cells slots) (hx : p.tables.exec = Jvm.exec) {pc n : Nat} {Ls : Array Slot} {st : List Value} {x y : Int32} (hd : decode c.code pc = .ok (.isub, 1))  (hn : pc + 1 = n) (k : Ends p e below EE Q (T.setTop (mkF m n Ls (.int (x - y) :: st)))) : Ends p e below EE Q (T.setTop (mkF m pc Ls (.int y :: .int x :: st))) := by
  subst hn
  exact Ends.via (fun t h => XS.isub X.here hx rfl hd rfl h) k
theorem own_iand (X : Stand p l e R s m args below meth c T locs cells slots) (hx : p.tables.exec = Jvm.exec) {pc n : Nat} {Ls : Array Slot} {st : List Value} {x y : Int32} (hd : decode c.code pc = .ok (.iand, 1))  (hn : pc + 1 = n) (k : Ends p e below EE Q (T.setTop (mkF m n Ls (.int (x &&& y) :: st)))) : Ends p e below EE Q (T.setTop (mkF m pc Ls (.int y :: .int x :: st))) := by
  subst hn
  exact Ends.via (fun t h => XS.iand X.here hx rfl hd rfl h) k
theorem own_iushr (X : Stand p l e R s m args below meth c T locs cells slots) (hx : p.tables.exec = Jvm.exec) {pc n : Nat} {Ls : Array Slot} {st : List Value} {x y : Int32} (hd : decode c.code pc = .ok (.iushr, 1))  (hn : pc + 1 = n) (k : Ends p e below EE Q (T.setTop (mkF m n Ls (.int ((x.toUInt32 >>> (y &&& 31).toUInt32).toInt32) :: st)))) : Ends p e below EE Q (T.setTop (mkF m pc Ls (.int y :: .int x :: st))) := by
  subst hn
  exact Ends.via (fun t h => XS.iushr X.here hx rfl hd rfl h) k
theorem own_dup (X : Stand p l e R s m args below meth c T locs cells slots) (hx : p.tables.exec = Jvm.exec) {pc n : Nat} {Ls : Array Slot} {st : List Value} {x : Value} (hd : decode c.code pc = .ok (.dup, 1)) (hc : x.category = 1) (hn : pc + 1 = n) (k : Ends p e below EE Q (T.setTop (mkF m n Ls (x :: x :: st)))) : Ends p e below EE Q (T.setTop (mkF m pc Ls (x :: st))) := by
  subst hn
  exact Ends.via (fun t h => XS.dup X.here hx rfl hd rfl hc h) k
theorem own_iconst (X : Stand p l e R s m args below meth c T locs cells slots) (hx : p.tables.exec = Jvm.exec) {pc n : Nat} {Ls : Array Slot} {st : List Value} {i : Int} (v : Int32) (hd : decode c.code pc = .ok (.iconst i, 1)) (hv : Int32.ofInt i = v) (hn : pc + 1 = n) (k : Ends p e below EE Q (T.setTop (mkF m n Ls (.int v :: st)))) : Ends p e below EE Q (T.setTop (mkF m pc Ls st)) := by
  subst hn hv
  exact Ends.via (fun t h => XS.iconst X.here hx rfl hd h) k
theorem own_bipush (X : Stand p l e R s m args below meth c T locs cells slots) (hx : p.tables.exec = Jvm.exec) {pc n : Nat} {Ls : Array Slot} {st : List Value} {i : Int} (v : Int32) (hd : decode c.code pc = .ok (.bipush i, 2)) (hv : (Int8.ofInt i).toInt32 = v) (hn : pc + 2 = n) (k : Ends p e below EE Q (T.setTop (mkF m n Ls (.int v :: st)))) : Ends p e below EE Q (T.setTop (mkF m pc Ls st)) := by
  subst hn hv
  exact Ends.via (fun t h => XS.bipush X.here hx rfl hd h) k
theorem own_iload (X : Stand p l e R s m args below meth c T locs cells slots) (hx : p.tables.exec = Jvm.exec) {pc n : Nat} {Ls : Array Slot} {st : List Value} {i : Nat} {v : Int32} (hd : decode c.code pc = .ok (.iload i, 2)) (hl : Ls[i]? = some (.val (.int v))) (hn : pc + 2 = n) (k : Ends p e below EE Q (T.setTop (mkF m n Ls (.int v :: st)))) : Ends p e below EE Q (T.setTop (mkF m pc Ls (st))) := by
  subst hn
  exact Ends.via (fun t h => XS.iload X.here hx rfl hd hl h) k
theorem own_iloadN (X : Stand p l e R s m args below meth c T locs cells slots) (hx : p.tables.exec = Jvm.exec) {pc n : Nat} {Ls : Array Slot} {st : List Value} {i : Fin 4} {v : Int32} (hd : decode c.code pc = .ok (.iload_n i, 1)) (hl : Ls[i.val]? = some (.val (.int v))) (hn : pc + 1 = n) (k : Ends p e below EE Q (T.setTop (mkF m n Ls (.int v :: st)))) : Ends p e below EE Q (T.setTop (mkF m pc Ls (st))) := by
  subst hn
  exact Ends.via (fun t h => XS.iloadN X.here hx rfl hd hl h) k
theorem own_istore (X : Stand p l e R s m args below meth c T locs cells slots) (hx : p.tables.exec = Jvm.exec) {pc n : Nat} {Ls : Array Slot} {st : List Value} {i : Nat} {v : Int32} {l' : Array Slot} (hd : decode c.code pc = .ok (.istore i, 2)) (hl : storeLocals Ls i (.int v) = some l') (hn : pc + 2 = n) (k : Ends p e below EE Q (T.setTop (mkF m n l' (st)))) : Ends p e below EE Q (T.setTop (mkF m pc Ls (.int v :: st))) := by
  subst hn
  exact Ends.via (fun t h => XS.istore X.here hx rfl hd rfl hl h) k
theorem own_istoreN (X : Stand p l e R s m args below meth c T locs cells slots) (hx : p.tables.exec = Jvm.exec) {pc n : Nat} {Ls : Array Slot} {st : List Value} {i : Fin 4} {v : Int32} {l' : Array Slot} (hd : decode c.code pc = .ok (.istore_n i, 1)) (hl : storeLocals Ls i.val (.int v) = some l') (hn : pc + 1 = n) (k : Ends p e below EE Q (T.setTop (mkF m n l' (st)))) : Ends p e below EE Q (T.setTop (mkF m pc Ls (.int v :: st))) := by
  subst hn
  exact Ends.via (fun t h => XS.istoreN X.here hx rfl hd rfl hl h) k
theorem own_aload (X : Stand p l e R s m args below meth c T locs cells slots) (hx : p.tables.exec = Jvm.exec) {pc n : Nat} {Ls : Array Slot} {st : List Value} {i : Nat} {v : Value} (hd : decode c.code pc = .ok (.aload i, 2)) (hl : Ls[i]? = some (.val v)) (hv : v.isRef = true) (hn : pc + 2 = n) (k : Ends p e below EE Q (T.setTop (mkF m n Ls (v :: st)))) : Ends p e below EE Q (T.setTop (mkF m pc Ls (st))) := by
  subst hn
  exact Ends.via (fun t h => XS.aload X.here hx rfl hd hl hv h) k
theorem own_aloadN (X : Stand p l e R s m args below meth c T locs cells slots) (hx : p.tables.exec = Jvm.exec) {pc n : Nat} {Ls : Array Slot} {st : List Value} {i : Fin 4} {v : Value} (hd : decode c.code pc = .ok (.aload_n i, 1)) (hl : Ls[i.val]? = some (.val v)) (hv : v.isRef = true) (hn : pc + 1 = n) (k : Ends p e below EE Q (T.setTop (mkF m n Ls (v :: st)))) : Ends p e below EE Q (T.setTop (mkF m pc Ls (st))) := by
  subst hn
  exact Ends.via (fun t h => XS.aloadN X.here hx rfl hd hl hv h) k
theorem own_astore (X : Stand p l e R s m args below meth c T locs cells slots) (hx : p.tables.exec = Jvm.exec) {pc n : Nat} {Ls : Array Slot} {st : List Value} {i : Nat} {v : Value} {l' : Array Slot} (hd : decode c.code pc = .ok (.astore i, 2)) (hv : v.isRef = true) (hl : storeLocals Ls i v = some l') (hn : pc + 2 = n) (k : Ends p e below EE Q (T.setTop (mkF m n l' (st)))) : Ends p e below EE Q (T.setTop (mkF m pc Ls (v :: st))) := by
  subst hn
  exact Ends.via (fun t h => XS.astore X.here hx rfl hd rfl hv hl h) k
theorem own_goto (X : Stand p l e R s m args below meth c T locs cells slots) (hx : p.tables.exec = Jvm.exec) {pc n : Nat} {Ls : Array Slot} {st : List Value} {o : Int} (hd : decode c.code pc = .ok (.goto o, 3)) (ho : 0 ≤ (pc : Int) + o) (hp : ((pc : Int) + o).toNat = n) (k : Ends p e below EE Q (T.setTop (mkF m n Ls st))) : Ends p e below EE Q (T.setTop (mkF m pc Ls st)) :=
  Ends.via (fun t h => XS.goto X.here hx rfl (pc0 := pc) rfl hd ho hp h) k
theorem own_ifYes (X : Stand p l e R s m args below meth c T locs cells slots) (hx : p.tables.exec = Jvm.exec) {pc n : Nat} {Ls : Array Slot} {st : List Value} {o : Int} {cd : ClassFile.Cond} {x : Int32} (hd : decode c.code pc = .ok (.ifCond cd o, 3)) (hc : ifCond.holds cd x = true) (ho : 0 ≤ (pc : Int) + o) (hp : ((pc : Int) + o).toNat = n) (k : Ends p e below EE Q (T.setTop (mkF m n Ls st))) : Ends p e below EE Q (T.setTop (mkF m pc Ls (.int x :: st))) :=
  Ends.via (fun t h => XS.ifYes X.here hx rfl (pc0 := pc) rfl hd rfl hc ho hp h) k
theorem own_ifNo (X : Stand p l e R s m args below meth c T locs cells slots) (hx : p.tables.exec = Jvm.exec) {pc n : Nat} {Ls : Array Slot} {st : List Value} {o : Int} {cd : ClassFile.Cond} {x : Int32} (hd : decode c.code pc = .ok (.ifCond cd o, 3)) (hc : ifCond.holds cd x = false) (hn : pc + 3 = n) (k : Ends p e below EE Q (T.setTop (mkF m n Ls st))) : Ends p e below EE Q (T.setTop (mkF m pc Ls (.int x :: st))) := by
  subst hn
  exact Ends.via (fun t h => XS.ifNo X.here hx rfl hd rfl hc h) k
theorem own_icmpYes (X : Stand p l e R s m args below meth c T locs cells slots) (hx : p.tables.exec = Jvm.exec) {pc n : Nat} {Ls : Array Slot} {st : List Value} {o : Int} {cd : ClassFile.Cond} {x y : Int32} (hd : decode c.code pc = .ok (.if_icmp cd o, 3)) (hc : if_icmp.holds cd x y = true) (ho : 0 ≤ (pc : Int) + o) (hp : ((pc : Int) + o).toNat = n) (k : Ends p e below EE Q (T.setTop (mkF m n Ls st))) : Ends p e below EE Q (T.setTop (mkF m pc Ls (.int y :: .int x :: st))) :=
  Ends.via (fun t h => XS.icmpYes X.here hx rfl (pc0 := pc) rfl hd rfl hc ho hp h) k
theorem own_icmpNo (X : Stand p l e R s m args below meth c T locs cells slots) (hx : p.tables.exec = Jvm.exec) {pc n : Nat} {Ls : Array Slot} {st : List Value} {o : Int} {cd : ClassFile.Cond} {x y : Int32} (hd : decode c.code pc = .ok (.if_icmp cd o, 3)) (hc : if_icmp.holds cd x y = false) (hn : pc + 3 = n) (k : Ends p e below EE Q (T.setTop (mkF m n Ls st))) : Ends p e below EE Q (T.setTop (mkF m pc Ls (.int y :: .int x :: st))) := by
  subst hn
  exact Ends.via (fun t h => XS.icmpNo X.here hx rfl hd rfl hc h) k
theorem own_retI (X : Stand p l e R s m args below meth c T locs cells slots) (hx : p.tables.exec = Jvm.exec) (lk : meth.locks = false) {pc : Nat} {Ls : Array Slot} {rest : List Value} {z : Int32} (hret : meth.sig.returnType = some .int)  (hd : decode c.code pc = .ok (.ireturn, 1)) (hK : cells ≤ K) (hJ : slots ≤ J) (hq : Q (some (.int z)) T.heap locs) : Ends p e below (EF s K J) Q (T.setTop (mkF m pc Ls (.int z :: rest))) := by
  obtain ⟨fs, hr, hrun, hended, hW, hsame⟩ := X.leave (v := (some (.int z))) (fun h => by rw [hret] at h; cases h) lk
  exact ⟨_, _, retOut X hx (w := .int z) (t := .int) hret rfl (Or.inl ⟨rfl, Or.inl rfl, z, rfl⟩) hd hr, hrun, hended, _, _, rfl, hq, ⟨_, rfl⟩, hW, hsame.mono hK hJ⟩
theorem own_retN (X : Stand p l e R s m args below meth c T locs cells slots) (hx : p.tables.exec = Jvm.exec) (lk : meth.locks = false) {pc : Nat} {Ls : Array Slot} {rest : List Value} {z : Int32} {t : FieldType}  (hret : meth.sig.returnType = some t) (ht : t = .boolean ∨ t = .byte ∨ t = .char ∨ t = .short) (hd : decode c.code pc = .ok (.ireturn, 1)) (hK : cells ≤ K) (hJ : slots ≤ J) (hq : Q (some (.int (nar t z))) T.heap locs) : Ends p e below (EF s K J) Q (T.setTop (mkF m pc Ls (.int z :: rest))) := by
  obtain ⟨fs, hr, hrun, hended, hW, hsame⟩ := X.leave (v := (some (.int (nar t z)))) (fun h => by rw [hret] at h; cases h) lk
  exact ⟨_, _, Jvm.RoadKit.retN X hx hret ht hd hr, hrun, hended, _, _, rfl, hq, ⟨_, rfl⟩, hW, hsame.mono hK hJ⟩
theorem own_retV (X : Stand p l e R s m args below meth c T locs cells slots) (hx : p.tables.exec = Jvm.exec) (lk : meth.locks = false) {pc : Nat} {Ls : Array Slot}  (hret : meth.sig.returnType = none)  (hd : decode c.code pc = .ok (.return_, 1)) (hK : cells ≤ K) (hJ : slots ≤ J) (hq : Q none T.heap locs) : Ends p e below (EF s K J) Q (T.setTop (mkF m pc Ls ([]))) := by
  obtain ⟨fs, hr, hrun, hended, hW, hsame⟩ := X.leave (v := none) (fun h => by rfl) lk
  exact ⟨_, _, X.returnOut hx hret hd hr, hrun, hended, _, _, rfl, hq, ⟨_, rfl⟩, hW, hsame.mono hK hJ⟩
theorem own_callS (X : Stand p l e R s m args below meth c T locs cells slots) (hx : p.tables.exec = Jvm.exec) (hZ : Z.Warmed39 s.vm) {own : String} {index : Nat} {y : MethodName} {bytes : ByteArray} {maxL : Nat} {ret : Option FieldType} (hown : s.vm.findClass own = some m.cls) (wl : (Cond.methodLink own index y).before a0 Z = true) (ws : (Cond.static y).before a0 Z = true) (wz : (Cond.initialized y.cls).before a0 Z = true) (wc : (Cond.code y bytes maxL ret).before a0 Z = true) (hy : y.cls ≠ "java/lang/invoke/MethodHandle" ∧ y.cls ≠ "java/lang/invoke/VarHandle") (eT : T.heap = h)
    {rm : Room} {Qc : Option Value → Heap → List Loc → Prop} {as' : Array Value} (hM : MetFree l y (head1 [Cond.code y bytes maxL ret] rm) (fun a U => a = as' ∧ Z.Warmed39 U.vm ∧ U.heap = h) (fun _ _ _ _ _ => True) (fun _ U o U' => ∃ v L, o = .returned v ∧ Qc v U'.heap L ∧ FrameEnd U o U' L rm.cells rm.slots)) {W : Nat} (hf : rm.frames + 1 ≤ R.frames) (hl : W + (maxL + 11) + rm.locals ≤ R.locals) (hc : cells + rm.cells ≤ R.cells) (hsl : slots + rm.slots ≤ R.slots) {pc n : Nat} {Ls : Array Slot} (hsize : Ls.size = c.maxLocals) {argsL rest : List Value} {ps : List FieldType} {r : Option FieldType} (hpd : parseMethodDescriptor y.desc = some ⟨ps, r⟩) (hlen : argsL.length = ps.length) (has : argsL.toArray = as') (hW : 0 + (rest.map fun v => v.category).sum ≤ W) (hd : decode c.code pc = .ok (.invokestatic index, 3)) (hn : pc + 3 = n) {st : List Value} (hst : st = argsL.reverse ++ rest)
    (k : ∀ v T' h' L', Stand p l e R s m args below meth c T' (locs ++ L') (cells + rm.cells) (slots + rm.slots) → T'.heap = h' → Qc v h' L' → Ends p e below EE Q (T'.setTop (mkF m n Ls (v.toList ++ rest)))) : Ends p e below EE Q (T.setTop (mkF m pc Ls st)) := by
  subst hn
  obtain ⟨v, _, ⟨T18, L18, k18, n18⟩, -, X18, ⟨Lc18, hQ18, l18, y18, z18⟩, st18⟩ := Jvm.LawKit.callS X hx hown (mvT hZ wl) (mvT hZ ws) (mvT hZ wz) (mvT hZ wc) hy (backOf (W := W) hM hZ wc wz hf hl) (g := mkF m pc Ls st) rfl hsize (argsL := argsL) (rest := rest) (lenOf hpd hlen) hst hW hd (fun _ _ => ⟨has, eT, hc, hsl⟩)
  dsimp only [Pt.U, Pt.locs, Pt.cells, Pt.slots] at X18 l18 y18 z18 st18 hQ18
  subst l18 y18 z18
  exact Ends.via (fun t h => st18 t h) (k v T18 _ Lc18 X18 rfl hQ18)
theorem own_callN (X : Stand p l e R s m args below meth c T locs cells slots) (hx : p.tables.exec = Jvm.exec) (hZ : Z.Warmed39 s.vm) {own : String} {index : Nat} {y : MethodName} {bytes : ByteArray} {maxL : Nat} (hy1 : y.name = "<init>") (hown : s.vm.findClass own = some m.cls) (wl : (Cond.methodLink own index y).before a0 Z = true) (wi : (Cond.instanceMethod y).before a0 Z = true) (wz : (Cond.initialized y.cls).before a0 Z = true) (wc : (Cond.code y bytes maxL none).before a0 Z = true) (hy : y.cls ≠ "java/lang/invoke/MethodHandle" ∧ y.cls ≠ "java/lang/invoke/VarHandle") (eT : T.heap = h)
    {rm : Room} {Qc : Option Value → Heap → List Loc → Prop} {as' : Array Value} (hM : MetFree l y (head1 [Cond.code y bytes maxL none] rm) (fun a U => a = as' ∧ Z.Warmed39 U.vm ∧ U.heap = h) (fun _ _ _ _ _ => True) (fun _ U o U' => ∃ v L, o = .returned v ∧ Qc v U'.heap L ∧ FrameEnd U o U' L rm.cells rm.slots)) {W : Nat} (hf : rm.frames + 1 ≤ R.frames) (hl : W + (maxL + 11) + rm.locals ≤ R.locals) (hc : cells + rm.cells ≤ R.cells) (hsl : slots + rm.slots ≤ R.slots) {pc n : Nat} {Ls : Array Slot} (hsize : Ls.size = c.maxLocals) {argsL rest : List Value} {ps : List FieldType} {r : Option FieldType} (hpd : parseMethodDescriptor y.desc = some ⟨ps, r⟩) (hlen : argsL.length = ps.length) {a : Addr} (has : (.ref a :: argsL).toArray = as') (hW : 0 + (rest.map fun v => v.category).sum ≤ W) (hd : decode c.code pc = .ok (.invokespecial index, 3)) (hn : pc + 3 = n) {st : List Value} (hst : st = argsL.reverse ++ .ref a :: rest)
    (k : ∀ v T' h' L', Stand p l e R s m args below meth c T' (locs ++ L') (cells + rm.cells) (slots + rm.slots) → T'.heap = h' → Qc v h' L' → Ends p e below EE Q (T'.setTop (mkF m n Ls (v.toList ++ rest)))) : Ends p e below EE Q (T.setTop (mkF m pc Ls st)) := by
  subst hn
  obtain ⟨v, _, ⟨T18, L18, k18, n18⟩, -, X18, ⟨Lc18, hQ18, l18, y18, z18⟩, st18⟩ := X.specialBack hx hy1 hown (mvT hZ wl) (mvT hZ wi) (mvT hZ wc) hy (backOf (W := W) hM hZ wc wz hf hl) (g := mkF m pc Ls st) rfl hsize (Steps.refl _) (a := a) (argsL := argsL) (rest := rest) (lenOf hpd hlen) hst hW hd (fun _ _ => ⟨has, eT, hc, hsl⟩)
  dsimp only [Pt.U, Pt.locs, Pt.cells, Pt.slots] at X18 l18 y18 z18 st18 hQ18
  subst l18 y18 z18
  exact Ends.tr st18 (k v T18 _ Lc18 X18 rfl hQ18)
theorem own_callV (X : Stand p l e R s m args below meth c T locs cells slots) (hx : p.tables.exec = Jvm.exec) (hZ : Z.Warmed39 s.vm) {own C : String} {index : Nat} {y : MethodName} {bytes : ByteArray} {maxL : Nat} {ret : Option FieldType} (hown : s.vm.findClass own = some m.cls) (wl : (Cond.methodLink own index y).before a0 Z = true) (wd : (Cond.declares y).before a0 Z = true) (wsel : (Cond.selects C y y).before a0 Z = true) (wi : (Cond.instanceMethod y).before a0 Z = true) (wz : (Cond.initialized y.cls).before a0 Z = true) (wc : (Cond.code y bytes maxL ret).before a0 Z = true) (hy : y.cls ≠ "java/lang/invoke/MethodHandle" ∧ y.cls ≠ "java/lang/invoke/VarHandle") (eT : T.heap = h) {a : Addr} (EX : Exa Z h a C)
    {rm : Room} {Qc : Option Value → Heap → List Loc → Prop} {as' : Array Value} (hM : MetFree l y (head1 [Cond.code y bytes maxL ret] rm) (fun a U => a = as' ∧ Z.Warmed39 U.vm ∧ U.heap = h) (fun _ _ _ _ _ => True) (fun _ U o U' => ∃ v L, o = .returned v ∧ Qc v U'.heap L ∧ FrameEnd U o U' L rm.cells rm.slots)) {W : Nat} (hf : rm.frames + 1 ≤ R.frames) (hl : W + (maxL + 11) + rm.locals ≤ R.locals) (hc : cells + rm.cells ≤ R.cells) (hsl : slots + rm.slots ≤ R.slots) {pc n : Nat} {Ls : Array Slot} (hsize : Ls.size = c.maxLocals) {argsL rest : List Value} {ps : List FieldType} {r : Option FieldType} (hpd : parseMethodDescriptor y.desc = some ⟨ps, r⟩) (hlen : argsL.length = ps.length) (has : (.ref a :: argsL).toArray = as') (hW : 0 + (rest.map fun v => v.category).sum ≤ W) (hd : decode c.code pc = .ok (.invokevirtual index, 3)) (hn : pc + 3 = n) {st : List Value} (hst : st = argsL.reverse ++ .ref a :: rest)
    (k : ∀ v T' h' L', Stand p l e R s m args below meth c T' (locs ++ L') (cells + rm.cells) (slots + rm.slots) → T'.heap = h' → Qc v h' L' → Ends p e below EE Q (T'.setTop (mkF m n Ls (v.toList ++ rest)))) : Ends p e below EE Q (T.setTop (mkF m pc Ls st)) := by
  subst hn
  obtain ⟨cq, kq, qa, qb, qc⟩ := isOf hZ eT EX
  obtain ⟨v, _, ⟨T18, L18, k18, n18⟩, -, X18, ⟨Lc18, hQ18, l18, y18, z18⟩, st18⟩ := X.virtualBack hx hown (mvT hZ wl) (mvT hZ wd) (notFace_of_selects (args := #[]) (mvT hZ wsel)) (mvT hZ wsel) (mvT hZ wi) hy (backOf (W := W) hM hZ wc wz hf hl) qa qc (g := mkF m pc Ls st) rfl hsize (Steps.refl _) (argsL := argsL) (rest := rest) (lenOf hpd hlen) hst hW hd (fun _ _ => ⟨has, eT, hc, hsl⟩)
  dsimp only [Pt.U, Pt.locs, Pt.cells, Pt.slots] at X18 l18 y18 z18 st18 hQ18
  subst l18 y18 z18
  exact Ends.tr st18 (k v T18 _ Lc18 X18 rfl hQ18)
theorem own_getF (X : Stand p l e R s m args below meth c T locs cells slots) (hx : p.tables.exec = Jvm.exec) (hZ : Z.Warmed39 s.vm) {own C f d : String} {index : Nat} (hown : s.vm.findClass own = some m.cls) (w : (Cond.fieldLink own index C f d).before a0 Z = true) (eT : T.heap = h) {a : Addr} {v : Value} (F : Fld Z h a C f d v) {pc n : Nat} {Ls : Array Slot} {st : List Value} (hd : decode c.code pc = .ok (.getfield index, 3)) (hn : pc + 3 = n)
    (k : ∀ T', Stand p l e R s m args below meth c T' locs cells slots → T'.heap = h → Ends p e below EE Q (T'.setTop (mkF m n Ls (v :: st)))) : Ends p e below EE Q (T.setTop (mkF m pc Ls (.ref a :: st))) := by
  subst hn
  obtain ⟨T', X', e', st'⟩ := Jvm.RoadKit.getF X hx hZ hown (host := "") (Or.inl w) Via.refl eT F (g := mkF m pc Ls (.ref a :: st)) rfl rfl hd
  exact Ends.via (fun t h => st' t h) (k T' X' e')
theorem own_putF (X : Stand p l e R s m args below meth c T locs cells slots) (hx : p.tables.exec = Jvm.exec) (hZ : Z.Warmed39 s.vm) {own C f d CC : String} {index kk : Nat} {ty : FieldType} (hown : s.vm.findClass own = some m.cls) (w : (Cond.fieldLink own index C f d).before a0 Z = true) (eT : T.heap = h) {a : Addr} {v old : Value} (F : Fld Z h a C f d old) (EX : Exa Z h a CC) (Lw : (Cond.lays CC C f d).before a0 Z = true ∨ ((Cond.laysFinal CC C f d).before a0 Z = true ∧ own = C ∧ meth.name = "<init>")) (wi : (Cond.instantiable CC kk).before a0 Z = true) (hty : parseFieldDescriptor d = some ty) (hnw : narrow ty v = v) (hft : fits ty v = true) {pc n : Nat} {Ls : Array Slot} {st : List Value} (hd : decode c.code pc = .ok (.putfield index, 3)) (hn : pc + 3 = n)
    (k : ∀ T' h', Stand p l e R s m args below meth c T' (locs ++ [⟨a, Jvm.RoadKit.slotOf Z C f d⟩]) cells slots → T'.heap = h' → Wr h h' a (Jvm.RoadKit.slotOf Z C f d) v → Ends p e below EE Q (T'.setTop (mkF m n Ls st))) : Ends p e below EE Q (T.setTop (mkF m pc Ls (v :: .ref a :: st))) := by
  subst hn
  obtain ⟨T', h', X', e', W', st'⟩ := Jvm.RoadKit.putF X hx hZ hown (host := "") (Or.inl w) Via.refl eT F EX Lw wi hty hnw hft (g := mkF m pc Ls (v :: .ref a :: st)) rfl rfl hd
  exact Ends.via (fun t h => st' t h) (k T' h' X' e' W')
theorem own_newO (X : Stand p l e R s m args below meth c T locs cells slots) (hx : p.tables.exec = Jvm.exec) (hZ : Z.Warmed39 s.vm) {own C : String} {index i : Nat} (hown : s.vm.findClass own = some m.cls) (w : (Cond.classLink own index C).before a0 Z = true) (wi : (Cond.instantiable C i).before a0 Z = true) (wz : (Cond.initialized C).before a0 Z = true) (eT : T.heap = h) (hc : cells + 1 ≤ R.cells) (hl : slots + i ≤ R.slots) {pc n : Nat} {Ls : Array Slot} {st : List Value} (hd : decode c.code pc = .ok (.new index, 3)) (hn : pc + 3 = n)
    (k : ∀ T' h' b, Stand p l e R s m args below meth c T' locs (cells + 1) (slots + i) → T'.heap = h' → b = h.size → Ext h h' → Exa Z h' b C → (∀ {O nm d : String} {ty : FieldType}, Laid Z a0 C O nm d → parseFieldDescriptor d = some ty → Fld Z h' b O nm d (defaultValue ty)) → Ends p e below EE Q (T'.setTop (mkF m n Ls (.ref b :: st)))) : Ends p e below EE Q (T.setTop (mkF m pc Ls st)) := by
  subst hn
  obtain ⟨T', h', X', e', E', A', D', -, st'⟩ := Jvm.RoadKit.newO X hx hZ hown w wi wz eT (g := mkF m pc Ls st) rfl hd hc hl
  exact Ends.via (fun t h => st' t h) (k T' h' _ X' e' rfl E' A' D')
theorem own_initO (X : Stand p l e R s m args below meth c T locs cells slots) (hx : p.tables.exec = Jvm.exec) (hZ : Z.Warmed39 s.vm) {own : String} {index : Nat} (hown : s.vm.findClass own = some m.cls) (w1 : (Cond.methodLink own index Lib.objectInit).before a0 Z = true) (w2 : (Cond.instanceMethod Lib.objectInit).before a0 Z = true) (w3 : (Cond.code Lib.objectInit ⟨#[0xb1]⟩ 1 none).before a0 Z = true) (eT : T.heap = h) {a : Addr} {pc n : Nat} {Ls : Array Slot} {st : List Value} (hsize : Ls.size = c.maxLocals) (hd : decode c.code pc = .ok (.invokespecial index, 3)) (hn : pc + 3 = n) (hf : 1 ≤ R.frames) {W : Nat} (hW : 0 + (st.map fun v => v.category).sum ≤ W) (hl : W + 12 ≤ R.locals)
    (k : ∀ T', Stand p l e R s m args below meth c T' locs cells slots → T'.heap = h → Ends p e below EE Q (T'.setTop (mkF m n Ls (st)))) : Ends p e below EE Q (T.setTop (mkF m pc Ls (.ref a :: st))) := by
  subst hn
  obtain ⟨T', X', e', st'⟩ := Jvm.RoadKit.initO X hx hZ hown w1 w2 w3 eT (g := mkF m pc Ls (.ref a :: st)) rfl hsize rfl hd hf (W := W) hW hl
  exact Ends.via (fun t h => st' t h) (k T' X' e')
end Own
def HP (Z : State) (h : Heap) (a : Addr) (v0 : Int32) (v1 : Int32) (v2 : Int32) (v3 : Int32) (v4 : Int32) : Prop := Exa Z h a "com/example/idun/idun/pools/Health" ∧ Fld Z h a "com/example/idun/idun/pools/Health" "fall" "I" (.int v0) ∧ Fld Z h a "com/example/idun/idun/pools/Health" "rise" "I" (.int v1) ∧ Fld Z h a "com/example/idun/idun/pools/Health" "probed" "Z" (.int v2) ∧ Fld Z h a "com/example/idun/idun/pools/Health" "up" "Z" (.int v3) ∧ Fld Z h a "com/example/idun/idun/pools/Health" "against" "I" (.int v4)
theorem HP.ext {Z : State} {h h' : Heap} {a : Addr} {v0 : Int32} {v1 : Int32} {v2 : Int32} {v3 : Int32} {v4 : Int32} (F : HP Z h a v0 v1 v2 v3 v4) (E : Ext h h') : HP Z h' a v0 v1 v2 v3 v4 := ⟨F.1.ext E, F.2.1.ext E, F.2.2.1.ext E, F.2.2.2.1.ext E, F.2.2.2.2.1.ext E, F.2.2.2.2.2.ext E⟩
theorem HP.keep {Z : State} {h h' : Heap} {a : Addr} {v0 : Int32} {v1 : Int32} {v2 : Int32} {v3 : Int32} {v4 : Int32} {ws : List Addr} (F : HP Z h a v0 v1 v2 v3 v4) (K : Keep h h' ws) (q : a ∉ ws) : HP Z h' a v0 v1 v2 v3 v4 := ⟨F.1.keep K, F.2.1.keep K q, F.2.2.1.keep K q, F.2.2.2.1.keep K q, F.2.2.2.2.1.keep K q, F.2.2.2.2.2.keep K q⟩
theorem HP.lt {Z : State} {h : Heap} {a : Addr} {v0 : Int32} {v1 : Int32} {v2 : Int32} {v3 : Int32} {v4 : Int32} (F : HP Z h a v0 v1 v2 v3 v4) : a < h.size := F.1.lt
theorem HP.wrO {Z : State} {h h' : Heap} {a : Addr} {v0 : Int32} {v1 : Int32} {v2 : Int32} {v3 : Int32} {v4 : Int32} {b : Addr} {sl : Nat} {w : Value} (F : HP Z h a v0 v1 v2 v3 v4) (W : Wr h h' b sl w) (q : a ≠ b) : HP Z h' a v0 v1 v2 v3 v4 := ⟨F.1.wr W, F.2.1.other W (Or.inl q), F.2.2.1.other W (Or.inl q), F.2.2.2.1.other W (Or.inl q), F.2.2.2.2.1.other W (Or.inl q), F.2.2.2.2.2.other W (Or.inl q)⟩
theorem HP.set_fall {Z : State} {h h' : Heap} {a : Addr} {v0 : Int32} {v1 : Int32} {v2 : Int32} {v3 : Int32} {v4 : Int32} {w : Int32} {a0 : Array Value} (hw : ∀ d ∈ tables_1, d.before a0 Z = true) (F : HP Z h a v0 v1 v2 v3 v4) (W : Wr h h' a (Jvm.RoadKit.slotOf Z "com/example/idun/idun/pools/Health" "fall" "I") (.int w)) : HP Z h' a w v1 v2 v3 v4 := ⟨F.1.wr W, F.2.1.same W, F.2.2.1.other W (Or.inr (slot_ne (a0 := a0) (Or.inl (hw _ (List.mem_of_getElem? (i := 14) rfl))) (Or.inl (hw _ (List.mem_of_getElem? (i := 12) rfl))) (by decide) (t := .int) (t' := .int) (by decide) (by decide))), F.2.2.2.1.other W (Or.inr (slot_ne (a0 := a0) (Or.inl (hw _ (List.mem_of_getElem? (i := 21) rfl))) (Or.inl (hw _ (List.mem_of_getElem? (i := 12) rfl))) (by decide) (t := .boolean) (t' := .int) (by decide) (by decide))), F.2.2.2.2.1.other W (Or.inr (slot_ne (a0 := a0) (Or.inl (hw _ (List.mem_of_getElem? (i := 10) rfl))) (Or.inl (hw _ (List.mem_of_getElem? (i := 12) rfl))) (by decide) (t := .boolean) (t' := .int) (by decide) (by decide))), F.2.2.2.2.2.other W (Or.inr (slot_ne (a0 := a0) (Or.inl (hw _ (List.mem_of_getElem? (i := 32) rfl))) (Or.inl (hw _ (List.mem_of_getElem? (i := 12) rfl))) (by decide) (t := .int) (t' := .int) (by decide) (by decide)))⟩
theorem HP.set_rise {Z : State} {h h' : Heap} {a : Addr} {v0 : Int32} {v1 : Int32} {v2 : Int32} {v3 : Int32} {v4 : Int32} {w : Int32} {a0 : Array Value} (hw : ∀ d ∈ tables_1, d.before a0 Z = true) (F : HP Z h a v0 v1 v2 v3 v4) (W : Wr h h' a (Jvm.RoadKit.slotOf Z "com/example/idun/idun/pools/Health" "rise" "I") (.int w)) : HP Z h' a v0 w v2 v3 v4 := ⟨F.1.wr W, F.2.1.other W (Or.inr (slot_ne (a0 := a0) (Or.inl (hw _ (List.mem_of_getElem? (i := 12) rfl))) (Or.inl (hw _ (List.mem_of_getElem? (i := 14) rfl))) (by decide) (t := .int) (t' := .int) (by decide) (by decide))), F.2.2.1.same W, F.2.2.2.1.other W (Or.inr (slot_ne (a0 := a0) (Or.inl (hw _ (List.mem_of_getElem? (i := 21) rfl))) (Or.inl (hw _ (List.mem_of_getElem? (i := 14) rfl))) (by decide) (t := .boolean) (t' := .int) (by decide) (by decide))), F.2.2.2.2.1.other W (Or.inr (slot_ne (a0 := a0) (Or.inl (hw _ (List.mem_of_getElem? (i := 10) rfl))) (Or.inl (hw _ (List.mem_of_getElem? (i := 14) rfl))) (by decide) (t := .boolean) (t' := .int) (by decide) (by decide))), F.2.2.2.2.2.other W (Or.inr (slot_ne (a0 := a0) (Or.inl (hw _ (List.mem_of_getElem? (i := 32) rfl))) (Or.inl (hw _ (List.mem_of_getElem? (i := 14) rfl))) (by decide) (t := .int) (t' := .int) (by decide) (by decide)))⟩
theorem HP.set_probed {Z : State} {h h' : Heap} {a : Addr} {v0 : Int32} {v1 : Int32} {v2 : Int32} {v3 : Int32} {v4 : Int32} {w : Int32} {a0 : Array Value} (hw : ∀ d ∈ tables_1, d.before a0 Z = true) (F : HP Z h a v0 v1 v2 v3 v4) (W : Wr h h' a (Jvm.RoadKit.slotOf Z "com/example/idun/idun/pools/Health" "probed" "Z") (.int w)) : HP Z h' a v0 v1 w v3 v4 := ⟨F.1.wr W, F.2.1.other W (Or.inr (slot_ne (a0 := a0) (Or.inl (hw _ (List.mem_of_getElem? (i := 12) rfl))) (Or.inl (hw _ (List.mem_of_getElem? (i := 21) rfl))) (by decide) (t := .int) (t' := .boolean) (by decide) (by decide))), F.2.2.1.other W (Or.inr (slot_ne (a0 := a0) (Or.inl (hw _ (List.mem_of_getElem? (i := 14) rfl))) (Or.inl (hw _ (List.mem_of_getElem? (i := 21) rfl))) (by decide) (t := .int) (t' := .boolean) (by decide) (by decide))), F.2.2.2.1.same W, F.2.2.2.2.1.other W (Or.inr (slot_ne (a0 := a0) (Or.inl (hw _ (List.mem_of_getElem? (i := 10) rfl))) (Or.inl (hw _ (List.mem_of_getElem? (i := 21) rfl))) (by decide) (t := .boolean) (t' := .boolean) (by decide) (by decide))), F.2.2.2.2.2.other W (Or.inr (slot_ne (a0 := a0) (Or.inl (hw _ (List.mem_of_getElem? (i := 32) rfl))) (Or.inl (hw _ (List.mem_of_getElem? (i := 21) rfl))) (by decide) (t := .int) (t' := .boolean) (by decide) (by decide)))⟩
theorem HP.set_up {Z : State} {h h' : Heap} {a : Addr} {v0 : Int32} {v1 : Int32} {v2 : Int32} {v3 : Int32} {v4 : Int32} {w : Int32} {a0 : Array Value} (hw : ∀ d ∈ tables_1, d.before a0 Z = true) (F : HP Z h a v0 v1 v2 v3 v4) (W : Wr h h' a (Jvm.RoadKit.slotOf Z "com/example/idun/idun/pools/Health" "up" "Z") (.int w)) : HP Z h' a v0 v1 v2 w v4 := ⟨F.1.wr W, F.2.1.other W (Or.inr (slot_ne (a0 := a0) (Or.inl (hw _ (List.mem_of_getElem? (i := 12) rfl))) (Or.inl (hw _ (List.mem_of_getElem? (i := 10) rfl))) (by decide) (t := .int) (t' := .boolean) (by decide) (by decide))), F.2.2.1.other W (Or.inr (slot_ne (a0 := a0) (Or.inl (hw _ (List.mem_of_getElem? (i := 14) rfl))) (Or.inl (hw _ (List.mem_of_getElem? (i := 10) rfl))) (by decide) (t := .int) (t' := .boolean) (by decide) (by decide))), F.2.2.2.1.other W (Or.inr (slot_ne (a0 := a0) (Or.inl (hw _ (List.mem_of_getElem? (i := 21) rfl))) (Or.inl (hw _ (List.mem_of_getElem? (i := 10) rfl))) (by decide) (t := .boolean) (t' := .boolean) (by decide) (by decide))), F.2.2.2.2.1.same W, F.2.2.2.2.2.other W (Or.inr (slot_ne (a0 := a0) (Or.inl (hw _ (List.mem_of_getElem? (i := 32) rfl))) (Or.inl (hw _ (List.mem_of_getElem? (i := 10) rfl))) (by decide) (t := .int) (t' := .boolean) (by decide) (by decide)))⟩
theorem HP.set_against {Z : State} {h h' : Heap} {a : Addr} {v0 : Int32} {v1 : Int32} {v2 : Int32} {v3 : Int32} {v4 : Int32} {w : Int32} {a0 : Array Value} (hw : ∀ d ∈ tables_1, d.before a0 Z = true) (F : HP Z h a v0 v1 v2 v3 v4) (W : Wr h h' a (Jvm.RoadKit.slotOf Z "com/example/idun/idun/pools/Health" "against" "I") (.int w)) : HP Z h' a v0 v1 v2 v3 w := ⟨F.1.wr W, F.2.1.other W (Or.inr (slot_ne (a0 := a0) (Or.inl (hw _ (List.mem_of_getElem? (i := 12) rfl))) (Or.inl (hw _ (List.mem_of_getElem? (i := 32) rfl))) (by decide) (t := .int) (t' := .int) (by decide) (by decide))), F.2.2.1.other W (Or.inr (slot_ne (a0 := a0) (Or.inl (hw _ (List.mem_of_getElem? (i := 14) rfl))) (Or.inl (hw _ (List.mem_of_getElem? (i := 32) rfl))) (by decide) (t := .int) (t' := .int) (by decide) (by decide))), F.2.2.2.1.other W (Or.inr (slot_ne (a0 := a0) (Or.inl (hw _ (List.mem_of_getElem? (i := 21) rfl))) (Or.inl (hw _ (List.mem_of_getElem? (i := 32) rfl))) (by decide) (t := .boolean) (t' := .int) (by decide) (by decide))), F.2.2.2.2.1.other W (Or.inr (slot_ne (a0 := a0) (Or.inl (hw _ (List.mem_of_getElem? (i := 10) rfl))) (Or.inl (hw _ (List.mem_of_getElem? (i := 32) rfl))) (by decide) (t := .boolean) (t' := .int) (by decide) (by decide))), F.2.2.2.2.2.same W⟩
def neg (s : Int32) : Int32 := if s = 0 then 1 else 0
def recF (pb q up ag f r : Int32) : Int32 × Int32 × Int32 :=
  if pb = 0 then (if q = 0 then (1, neg up, 0) else (0, up, ag))
  else if q = up then (0, up, 0)
  else if ag + 1 < (if up = 0 then r else f) then (0, up, ag + 1) else (1, neg up, 0)
def INV (s : Int32) (run k j : Int) (u g : Int32) : Prop := (j < k → u = s ∧ g.toInt = run + j) ∧ (k ≤ j → u = neg s ∧ g = 0)
theorem own_inj {a b : Int32} (h : a.toInt = b.toInt) : a = b := Int32.toInt_inj.mp h
theorem own_neg (s : Int32) (hs : s = 0 ∨ s = 1) : neg s ≠ s ∧ (neg s = 0 ∨ neg s = 1) ∧ neg (neg s) = s := by rcases hs with rfl | rfl <;> decide
theorem own_add1 (g : Int32) (h1 : 0 ≤ g.toInt) (h2 : g.toInt ≤ 1000) : (g + 1).toInt = g.toInt + 1 := by
  have := c_iadd g 1
  have r := rng32 (g + 1)
  have o : (1 : Int32).toInt = 1 := rfl
  omega
theorem own_step {s t f r u g r' u' g' q : Int32} {run k j : Int} (hs : s = 0 ∨ s = 1) (ht0 : s = 0 → t = r) (ht1 : ¬ s = 0 → t = f) (hk1 : 1 ≤ k) (hk2 : k = 1 ∨ k = t.toInt - run) (hk3 : t.toInt - run ≤ k) (hr0 : 0 ≤ run) (hr1 : run ≤ 100) (hj0 : 0 ≤ j) (hj1 : j ≤ 100)
    (hq : q = neg s) (hi : INV s run k j u g) (he : recF 1 q u g f r = (r', u', g')) : INV s run k (j + 1) u' g' ∧ (j + 1 = k → r' = 1) ∧ (¬ j + 1 = k → r' = 0) := by
  obtain ⟨n1, n2, n3⟩ := own_neg s hs
  subst hq
  by_cases hjk : j < k
  · obtain ⟨rfl, hg⟩ := hi.1 hjk
    have htt : (if u = 0 then r else f) = t := by
      by_cases z : u = 0
      · rw [if_pos z, ht0 z]
      · rw [if_neg z, ht1 z]
    have hg1 := own_add1 g (by omega) (by omega)
    unfold recF at he
    rw [if_neg (by decide), if_neg n1, htt] at he
    by_cases hl : g + 1 < t
    · rw [if_pos hl] at he
      obtain ⟨rfl, he2⟩ := Prod.mk.inj he
      obtain ⟨rfl, rfl⟩ := Prod.mk.inj he2
      rw [Int32.lt_iff_toInt_lt] at hl
      exact ⟨⟨fun _ => ⟨rfl, by omega⟩, fun _ => by omega⟩, fun _ => by omega, fun _ => rfl⟩
    · rw [if_neg hl] at he
      obtain ⟨rfl, he2⟩ := Prod.mk.inj he
      obtain ⟨rfl, rfl⟩ := Prod.mk.inj he2
      rw [Int32.lt_iff_toInt_lt] at hl
      exact ⟨⟨fun _ => by omega, fun _ => ⟨rfl, rfl⟩⟩, fun _ => rfl, fun _ => by omega⟩
  · obtain ⟨rfl, rfl⟩ := hi.2 (by omega)
    unfold recF at he
    rw [if_neg (by decide), if_pos rfl] at he
    obtain ⟨rfl, he2⟩ := Prod.mk.inj he
    obtain ⟨rfl, rfl⟩ := Prod.mk.inj he2
    exact ⟨⟨fun _ => by omega, fun _ => ⟨rfl, rfl⟩⟩, fun _ => by omega, fun _ => rfl⟩
theorem own_m3 (x : Int32) : 0 ≤ (x &&& (3 : Int32)).toInt ∧ (x &&& (3 : Int32)).toInt ≤ 3 := c_and x 3 (by decide)
theorem own_m31 (x : Int32) : 1 ≤ ((x &&& (3 : Int32)) + (1 : Int32)).toInt ∧ ((x &&& (3 : Int32)) + (1 : Int32)).toInt ≤ 4 := by
  have h := own_m3 x
  have := own_add1 (x &&& 3) h.1 (by omega)
  omega
theorem own_01 {s : Int32} (h : s = 0 ∨ s = 1) : nar .boolean s = s := by rcases h with rfl | rfl <;> rfl
theorem d1_0 : decode prog_36_method_1_code 0 = .ok (.aload_n 0, 1) := by decide +kernel
theorem d1_1 : decode prog_36_method_1_code 1 = .ok (.invokespecial 1, 3) := by decide +kernel
theorem d1_4 : decode prog_36_method_1_code 4 = .ok (.aload_n 0, 1) := by decide +kernel
theorem d1_5 : decode prog_36_method_1_code 5 = .ok (.iconst 1, 1) := by decide +kernel
theorem d1_6 : decode prog_36_method_1_code 6 = .ok (.putfield 7, 3) := by decide +kernel
theorem d1_9 : decode prog_36_method_1_code 9 = .ok (.aload_n 0, 1) := by decide +kernel
theorem d1_10 : decode prog_36_method_1_code 10 = .ok (.iload_n 1, 1) := by decide +kernel
theorem d1_11 : decode prog_36_method_1_code 11 = .ok (.putfield 13, 3) := by decide +kernel
theorem d1_14 : decode prog_36_method_1_code 14 = .ok (.aload_n 0, 1) := by decide +kernel
theorem d1_15 : decode prog_36_method_1_code 15 = .ok (.iload_n 2, 1) := by decide +kernel
theorem d1_16 : decode prog_36_method_1_code 16 = .ok (.putfield 17, 3) := by decide +kernel
theorem d1_19 : decode prog_36_method_1_code 19 = .ok (.return_, 1) := by decide +kernel
theorem pn_1 : plainFor (⟨"com/example/idun/idun/pools/Health", "<init>", "(II)V"⟩ : MethodName) = true := by first | exact plainFor_of_name (by first | (simp [plainName, overriddenIn]; done) | decide +kernel) | decide +kernel
theorem ef_1 (m : MethodId) (a1 : Addr) (p2 : Int32) (p3 : Int32) : entryFrame m #[(.ref a1), (.int p2), (.int p3)] 3 = mkF m 0 #[.val (.ref a1), .val (.int p2), .val (.int p3)] [] := by first | (simp [entryFrame, argsToLocals, Value.category, Array.replicate]; done) | rfl
theorem pd_1 : parseMethodDescriptor "(II)V" = some ⟨[.int, .int], none⟩ := by decide +kernel
def Q1 (Z : State) (a1 : Addr) (p2 : Int32) (p3 : Int32)  (h0 : Heap) (n0 : Nat) (v : Option Value) (h : Heap) (L : List Loc) : Prop := v = none ∧ Fr n0 L ∧ Keep h0 h [a1] ∧ HP Z h a1 p2 p3 0 1 0
theorem rm1 (l : Launch) (Z : State) (a0 : Array Value) (hw : ∀ d ∈ tables_1, d.before a0 Z = true) (ws : List Jvm.Cond) (a1 : Addr) (p2 : Int32) (p3 : Int32)  (h0 : Heap) (n0 : Nat) (Z0 : n0 ≤ h0.size) (F0 : HP Z h0 a1 0 0 0 0 0) (nb : n0 ≤ a1) :
    MetFree l (⟨"com/example/idun/idun/pools/Health", "<init>", "(II)V"⟩ : MethodName) (head1 (Jvm.Cond.code (⟨"com/example/idun/idun/pools/Health", "<init>", "(II)V"⟩ : MethodName) prog_36_method_1_code 3 (none) :: ws) ({ frames := 1, cells := 0, slots := 0, locals := 12 } : Room)) (fun a U => a = #[(.ref a1), (.int p2), (.int p3)] ∧ Z.Warmed39 U.vm ∧ U.heap = h0) (fun _ _ _ _ _ => True) (fun _ U o U' => ∃ v L, o = .returned v ∧ (Q1 Z a1 p2 p3  h0 n0) v U'.heap L ∧ FrameEnd U o U' L ({ frames := 1, cells := 0, slots := 0, locals := 12 } : Room).cells ({ frames := 1, cells := 0, slots := 0, locals := 12 } : Room).slots) := by
  refine MetFree.of_bodySF pn_1 hisR ?_
  intro p e s m args below meth c s₁ Bd hml0 hP hK
  obtain ⟨rfl, hZ, hh⟩ := hP
  have hx := Bd.exec
  have hby := Bd.bytes
  have hml : c.maxLocals = 3 := hml0
  have hown : s.vm.findClass "com/example/idun/idun/pools/Health" = some m.cls := findClass_of_methodNamed Bd.named
  have hnm := (name_of_methodNamed Bd.named Bd.method).1
  have X0 : Stand p l e ({ frames := 1, cells := 0, slots := 0, locals := 12 } : Room) s m #[(.ref a1), (.int p2), (.int p3)] below meth c s₁ [] 0 0 := Stand.of_body Bd
  have e0 : s₁.heap = h0 := by rw [← hh, Bd.state]; rfl
  have N0 := Fr.nil n0
  have lk : meth.locks = false := BodyLoose.notSynchronized Bd
  have hret := Bd.returns
  show Ends p e below (EF s ({ frames := 1, cells := 0, slots := 0, locals := 12 } : Room).cells ({ frames := 1, cells := 0, slots := 0, locals := 12 } : Room).slots) (Q1 Z a1 p2 p3  h0 n0) (s₁.setTop (entryFrame m #[(.ref a1), (.int p2), (.int p3)] 3))
  refine Ends.cast (ef_1 m a1 p2 p3) ?_
  refine own_aloadN (n := 1) X0 hx (hb hby d1_0) rfl rfl rfl ?_
  refine own_initO (n := 4) X0 hx hZ hown (hw _ (List.mem_of_getElem? (i := 6) rfl)) (hw _ (List.mem_of_getElem? (i := 7) rfl)) (hw _ (List.mem_of_getElem? (i := 8) rfl)) e0 (by rw [hml]; rfl) (hb hby d1_1) rfl (by decide) (W := 0) (Nat.le_of_eq rfl) (by decide) ?_
  intro T1 X1 e1
  refine own_aloadN (n := 5) X1 hx (hb hby d1_4) rfl rfl rfl ?_
  refine own_iconst (n := 6) X1 hx (1 : Int32) (hb hby d1_5) rfl rfl ?_
  refine own_putF (n := 9) X1 hx hZ hown (hw _ (List.mem_of_getElem? (i := 9) rfl)) e1 F0.2.2.2.2.1 F0.1 (Or.inl (hw _ (List.mem_of_getElem? (i := 10) rfl))) (hw _ (List.mem_of_getElem? (i := 1) rfl)) (ty := .boolean) (by decide) rfl rfl (hb hby d1_6) rfl ?_
  intro T2 h2 X2 e2 W2
  have N2 := Fr.snoc X2 N0 nb
  have Z2 : n0 ≤ h2.size := Nat.le_trans Z0 (Keep.of_wr W2).1
  have F2_a1 := F0.set_up hw W2
  have K2 : Keep h0 h2 [a1] := (Keep.refl h0 [a1]).wr W2 (Or.inl (List.mem_of_getElem? (i := 0) rfl))
  refine own_aloadN (n := 10) X2 hx (hb hby d1_9) rfl rfl rfl ?_
  refine own_iloadN (n := 11) X2 hx (hb hby d1_10) rfl rfl ?_
  refine own_putF (n := 14) X2 hx hZ hown (hw _ (List.mem_of_getElem? (i := 11) rfl)) e2 F2_a1.2.1 F2_a1.1 (Or.inl (hw _ (List.mem_of_getElem? (i := 12) rfl))) (hw _ (List.mem_of_getElem? (i := 1) rfl)) (ty := .int) (by decide) rfl rfl (hb hby d1_11) rfl ?_
  intro T3 h3 X3 e3 W3
  have N3 := Fr.snoc X3 N2 nb
  have Z3 : n0 ≤ h3.size := Nat.le_trans Z2 (Keep.of_wr W3).1
  have F3_a1 := F2_a1.set_fall hw W3
  have K3 : Keep h0 h3 [a1] := K2.wr W3 (Or.inl (List.mem_of_getElem? (i := 0) rfl))
  refine own_aloadN (n := 15) X3 hx (hb hby d1_14) rfl rfl rfl ?_
  refine own_iloadN (n := 16) X3 hx (hb hby d1_15) rfl rfl ?_
  refine own_putF (n := 19) X3 hx hZ hown (hw _ (List.mem_of_getElem? (i := 13) rfl)) e3 F3_a1.2.2.1 F3_a1.1 (Or.inl (hw _ (List.mem_of_getElem? (i := 14) rfl))) (hw _ (List.mem_of_getElem? (i := 1) rfl)) (ty := .int) (by decide) rfl rfl (hb hby d1_16) rfl ?_
  intro T4 h4 X4 e4 W4
  have N4 := Fr.snoc X4 N3 nb
  have Z4 : n0 ≤ h4.size := Nat.le_trans Z3 (Keep.of_wr W4).1
  have F4_a1 := F3_a1.set_rise hw W4
  have K4 : Keep h0 h4 [a1] := K3.wr W4 (Or.inl (List.mem_of_getElem? (i := 0) rfl))
  refine own_retV X4 hx lk hret (hb hby d1_19) (by decide) (by decide) ?_
  rw [e4]
  exact ⟨rfl, N4, K4, F4_a1⟩
theorem d3_0 : decode prog_36_method_2_code 0 = .ok (.aload_n 0, 1) := by decide +kernel
theorem d3_1 : decode prog_36_method_2_code 1 = .ok (.getfield 20, 3) := by decide +kernel
theorem d3_4 : decode prog_36_method_2_code 4 = .ok (.ifCond .ne 21, 3) := by decide +kernel
theorem d3_7 : decode prog_36_method_2_code 7 = .ok (.aload_n 0, 1) := by decide +kernel
theorem d3_8 : decode prog_36_method_2_code 8 = .ok (.iconst 1, 1) := by decide +kernel
theorem d3_9 : decode prog_36_method_2_code 9 = .ok (.putfield 20, 3) := by decide +kernel
theorem d3_12 : decode prog_36_method_2_code 12 = .ok (.iload_n 1, 1) := by decide +kernel
theorem d3_13 : decode prog_36_method_2_code 13 = .ok (.ifCond .ne 7, 3) := by decide +kernel
theorem d3_16 : decode prog_36_method_2_code 16 = .ok (.iconst 1, 1) := by decide +kernel
theorem d3_17 : decode prog_36_method_2_code 17 = .ok (.goto 4, 3) := by decide +kernel
theorem d3_20 : decode prog_36_method_2_code 20 = .ok (.iconst 0, 1) := by decide +kernel
theorem d3_21 : decode prog_36_method_2_code 21 = .ok (.istore_n 2, 1) := by decide +kernel
theorem d3_22 : decode prog_36_method_2_code 22 = .ok (.goto 62, 3) := by decide +kernel
theorem d3_25 : decode prog_36_method_2_code 25 = .ok (.iload_n 1, 1) := by decide +kernel
theorem d3_26 : decode prog_36_method_2_code 26 = .ok (.aload_n 0, 1) := by decide +kernel
theorem d3_27 : decode prog_36_method_2_code 27 = .ok (.getfield 7, 3) := by decide +kernel
theorem d3_30 : decode prog_36_method_2_code 30 = .ok (.if_icmp .ne 13, 3) := by decide +kernel
theorem d3_33 : decode prog_36_method_2_code 33 = .ok (.aload_n 0, 1) := by decide +kernel
theorem d3_34 : decode prog_36_method_2_code 34 = .ok (.iconst 0, 1) := by decide +kernel
theorem d3_35 : decode prog_36_method_2_code 35 = .ok (.putfield 23, 3) := by decide +kernel
theorem d3_38 : decode prog_36_method_2_code 38 = .ok (.iconst 0, 1) := by decide +kernel
theorem d3_39 : decode prog_36_method_2_code 39 = .ok (.istore_n 2, 1) := by decide +kernel
theorem d3_40 : decode prog_36_method_2_code 40 = .ok (.goto 44, 3) := by decide +kernel
theorem d3_43 : decode prog_36_method_2_code 43 = .ok (.aload_n 0, 1) := by decide +kernel
theorem d3_44 : decode prog_36_method_2_code 44 = .ok (.dup, 1) := by decide +kernel
theorem d3_45 : decode prog_36_method_2_code 45 = .ok (.getfield 23, 3) := by decide +kernel
theorem d3_48 : decode prog_36_method_2_code 48 = .ok (.iconst 1, 1) := by decide +kernel
theorem d3_49 : decode prog_36_method_2_code 49 = .ok (.iadd, 1) := by decide +kernel
theorem d3_50 : decode prog_36_method_2_code 50 = .ok (.putfield 23, 3) := by decide +kernel
theorem d3_53 : decode prog_36_method_2_code 53 = .ok (.aload_n 0, 1) := by decide +kernel
theorem d3_54 : decode prog_36_method_2_code 54 = .ok (.getfield 23, 3) := by decide +kernel
theorem d3_57 : decode prog_36_method_2_code 57 = .ok (.aload_n 0, 1) := by decide +kernel
theorem d3_58 : decode prog_36_method_2_code 58 = .ok (.getfield 7, 3) := by decide +kernel
theorem d3_61 : decode prog_36_method_2_code 61 = .ok (.ifCond .eq 10, 3) := by decide +kernel
theorem d3_64 : decode prog_36_method_2_code 64 = .ok (.aload_n 0, 1) := by decide +kernel
theorem d3_65 : decode prog_36_method_2_code 65 = .ok (.getfield 13, 3) := by decide +kernel
theorem d3_68 : decode prog_36_method_2_code 68 = .ok (.goto 7, 3) := by decide +kernel
theorem d3_71 : decode prog_36_method_2_code 71 = .ok (.aload_n 0, 1) := by decide +kernel
theorem d3_72 : decode prog_36_method_2_code 72 = .ok (.getfield 17, 3) := by decide +kernel
theorem d3_75 : decode prog_36_method_2_code 75 = .ok (.if_icmp .lt 7, 3) := by decide +kernel
theorem d3_78 : decode prog_36_method_2_code 78 = .ok (.iconst 1, 1) := by decide +kernel
theorem d3_79 : decode prog_36_method_2_code 79 = .ok (.goto 4, 3) := by decide +kernel
theorem d3_82 : decode prog_36_method_2_code 82 = .ok (.iconst 0, 1) := by decide +kernel
theorem d3_83 : decode prog_36_method_2_code 83 = .ok (.istore_n 2, 1) := by decide +kernel
theorem d3_84 : decode prog_36_method_2_code 84 = .ok (.iload_n 2, 1) := by decide +kernel
theorem d3_85 : decode prog_36_method_2_code 85 = .ok (.ifCond .eq 24, 3) := by decide +kernel
theorem d3_88 : decode prog_36_method_2_code 88 = .ok (.aload_n 0, 1) := by decide +kernel
theorem d3_89 : decode prog_36_method_2_code 89 = .ok (.aload_n 0, 1) := by decide +kernel
theorem d3_90 : decode prog_36_method_2_code 90 = .ok (.getfield 7, 3) := by decide +kernel
theorem d3_93 : decode prog_36_method_2_code 93 = .ok (.ifCond .ne 7, 3) := by decide +kernel
theorem d3_96 : decode prog_36_method_2_code 96 = .ok (.iconst 1, 1) := by decide +kernel
theorem d3_97 : decode prog_36_method_2_code 97 = .ok (.goto 4, 3) := by decide +kernel
theorem d3_100 : decode prog_36_method_2_code 100 = .ok (.iconst 0, 1) := by decide +kernel
theorem d3_101 : decode prog_36_method_2_code 101 = .ok (.putfield 7, 3) := by decide +kernel
theorem d3_104 : decode prog_36_method_2_code 104 = .ok (.aload_n 0, 1) := by decide +kernel
theorem d3_105 : decode prog_36_method_2_code 105 = .ok (.iconst 0, 1) := by decide +kernel
theorem d3_106 : decode prog_36_method_2_code 106 = .ok (.putfield 23, 3) := by decide +kernel
theorem d3_109 : decode prog_36_method_2_code 109 = .ok (.iload_n 2, 1) := by decide +kernel
theorem d3_110 : decode prog_36_method_2_code 110 = .ok (.ireturn, 1) := by decide +kernel
theorem pn_3 : plainFor (⟨"com/example/idun/idun/pools/Health", "record", "(Z)Z"⟩ : MethodName) = true := by first | exact plainFor_of_name (by first | (simp [plainName, overriddenIn]; done) | decide +kernel) | decide +kernel
theorem ef_3 (m : MethodId) (a1 : Addr) (p2 : Int32) : entryFrame m #[(.ref a1), (.int p2)] 3 = mkF m 0 #[.val (.ref a1), .val (.int p2), .unset] [] := by first | (simp [entryFrame, argsToLocals, Value.category, Array.replicate]; done) | rfl
theorem pd_3 : parseMethodDescriptor "(Z)Z" = some ⟨[.boolean], some .boolean⟩ := by decide +kernel
def Q3 (Z : State) (a1 : Addr) (p2 : Int32) (f : Int32) (r : Int32) (pb : Int32) (up : Int32) (ag : Int32) (h0 : Heap) (n0 : Nat) (v : Option Value) (h : Heap) (L : List Loc) : Prop := ∃ r' u' g', recF pb p2 up ag f r = (r', u', g') ∧ v = some (.int r') ∧ Fr n0 L ∧ Keep h0 h [a1] ∧ HP Z h a1 f r 1 u' g'
theorem rm3 (l : Launch) (Z : State) (a0 : Array Value) (hw : ∀ d ∈ tables_1, d.before a0 Z = true) (ws : List Jvm.Cond) (a1 : Addr) (p2 : Int32) (f : Int32) (r : Int32) (pb : Int32) (up : Int32) (ag : Int32) (h0 : Heap) (n0 : Nat) (Z0 : n0 ≤ h0.size) (F0 : HP Z h0 a1 f r pb up ag) (nb : n0 ≤ a1) (hpb : ¬ pb = 0 → pb = 1) :
    MetFree l (⟨"com/example/idun/idun/pools/Health", "record", "(Z)Z"⟩ : MethodName) (head1 (Jvm.Cond.code (⟨"com/example/idun/idun/pools/Health", "record", "(Z)Z"⟩ : MethodName) prog_36_method_2_code 3 (some .boolean) :: ws) ({ frames := 0, cells := 0, slots := 0, locals := 0 } : Room)) (fun a U => a = #[(.ref a1), (.int p2)] ∧ Z.Warmed39 U.vm ∧ U.heap = h0) (fun _ _ _ _ _ => True) (fun _ U o U' => ∃ v L, o = .returned v ∧ (Q3 Z a1 p2 f r pb up ag h0 n0) v U'.heap L ∧ FrameEnd U o U' L ({ frames := 0, cells := 0, slots := 0, locals := 0 } : Room).cells ({ frames := 0, cells := 0, slots := 0, locals := 0 } : Room).slots) := by
  refine MetFree.of_bodySF pn_3 hisR ?_
  intro p e s m args below meth c s₁ Bd hml0 hP hK
  obtain ⟨rfl, hZ, hh⟩ := hP
  have hx := Bd.exec
  have hby := Bd.bytes
  have hml : c.maxLocals = 3 := hml0
  have hown : s.vm.findClass "com/example/idun/idun/pools/Health" = some m.cls := findClass_of_methodNamed Bd.named
  have hnm := (name_of_methodNamed Bd.named Bd.method).1
  have X0 : Stand p l e ({ frames := 0, cells := 0, slots := 0, locals := 0 } : Room) s m #[(.ref a1), (.int p2)] below meth c s₁ [] 0 0 := Stand.of_body Bd
  have e0 : s₁.heap = h0 := by rw [← hh, Bd.state]; rfl
  have N0 := Fr.nil n0
  have lk : meth.locks = false := BodyLoose.notSynchronized Bd
  have hret := Bd.returns
  show Ends p e below (EF s ({ frames := 0, cells := 0, slots := 0, locals := 0 } : Room).cells ({ frames := 0, cells := 0, slots := 0, locals := 0 } : Room).slots) (Q3 Z a1 p2 f r pb up ag h0 n0) (s₁.setTop (entryFrame m #[(.ref a1), (.int p2)] 3))
  refine Ends.cast (ef_3 m a1 p2) ?_
  refine own_aloadN (n := 1) X0 hx (hb hby d3_0) rfl rfl rfl ?_
  refine own_getF (n := 4) X0 hx hZ hown (hw _ (List.mem_of_getElem? (i := 20) rfl)) e0 F0.2.2.2.1 (hb hby d3_1) rfl ?_
  intro T1 X1 e1
  by_cases c4 : pb = 0
  · refine own_ifNo (n := 7) X1 hx (hb hby d3_4) (Jvm.Free.XT.i0_ne_f c4) rfl ?_
    refine own_aloadN (n := 8) X1 hx (hb hby d3_7) rfl rfl rfl ?_
    refine own_iconst (n := 9) X1 hx (1 : Int32) (hb hby d3_8) rfl rfl ?_
    refine own_putF (n := 12) X1 hx hZ hown (hw _ (List.mem_of_getElem? (i := 20) rfl)) e1 F0.2.2.2.1 F0.1 (Or.inl (hw _ (List.mem_of_getElem? (i := 21) rfl))) (hw _ (List.mem_of_getElem? (i := 1) rfl)) (ty := .boolean) (by decide) rfl rfl (hb hby d3_9) rfl ?_
    intro T2 h2 X2 e2 W2
    have N2 := Fr.snoc X2 N0 nb
    have Z2 : n0 ≤ h2.size := Nat.le_trans Z0 (Keep.of_wr W2).1
    have F2_a1 := F0.set_probed hw W2
    have K2 : Keep h0 h2 [a1] := (Keep.refl h0 [a1]).wr W2 (Or.inl (List.mem_of_getElem? (i := 0) rfl))
    refine own_iloadN (n := 13) X2 hx (hb hby d3_12) rfl rfl ?_
    by_cases c13 : p2 = 0
    · refine own_ifNo (n := 16) X2 hx (hb hby d3_13) (Jvm.Free.XT.i0_ne_f c13) rfl ?_
      refine own_iconst (n := 17) X2 hx (1 : Int32) (hb hby d3_16) rfl rfl ?_
      refine own_goto (n := 21) X2 hx (hb hby d3_17) (by decide) (by decide) ?_
      refine own_istoreN (n := 22) X2 hx (hb hby d3_21) (l' := #[.val (.ref a1), .val (.int p2), .val (.int (1 : Int32))]) rfl rfl ?_
      refine own_goto (n := 84) X2 hx (hb hby d3_22) (by decide) (by decide) ?_
      refine own_iloadN (n := 85) X2 hx (hb hby d3_84) rfl rfl ?_
      refine own_ifNo (n := 88) X2 hx (hb hby d3_85) (Jvm.Free.XT.i0_eq_f (by decide)) rfl ?_
      refine own_aloadN (n := 89) X2 hx (hb hby d3_88) rfl rfl rfl ?_
      refine own_aloadN (n := 90) X2 hx (hb hby d3_89) rfl rfl rfl ?_
      refine own_getF (n := 93) X2 hx hZ hown (hw _ (List.mem_of_getElem? (i := 9) rfl)) e2 F2_a1.2.2.2.2.1 (hb hby d3_90) rfl ?_
      intro T3 X3 e3
      by_cases c93 : up = 0
      · refine own_ifNo (n := 96) X3 hx (hb hby d3_93) (Jvm.Free.XT.i0_ne_f c93) rfl ?_
        refine own_iconst (n := 97) X3 hx (1 : Int32) (hb hby d3_96) rfl rfl ?_
        refine own_goto (n := 101) X3 hx (hb hby d3_97) (by decide) (by decide) ?_
        refine own_putF (n := 104) X3 hx hZ hown (hw _ (List.mem_of_getElem? (i := 9) rfl)) e3 F2_a1.2.2.2.2.1 F2_a1.1 (Or.inl (hw _ (List.mem_of_getElem? (i := 10) rfl))) (hw _ (List.mem_of_getElem? (i := 1) rfl)) (ty := .boolean) (by decide) rfl rfl (hb hby d3_101) rfl ?_
        intro T4 h4 X4 e4 W4
        have N4 := Fr.snoc X4 N2 nb
        have Z4 : n0 ≤ h4.size := Nat.le_trans Z2 (Keep.of_wr W4).1
        have F4_a1 := F2_a1.set_up hw W4
        have K4 : Keep h0 h4 [a1] := K2.wr W4 (Or.inl (List.mem_of_getElem? (i := 0) rfl))
        refine own_aloadN (n := 105) X4 hx (hb hby d3_104) rfl rfl rfl ?_
        refine own_iconst (n := 106) X4 hx (0 : Int32) (hb hby d3_105) rfl rfl ?_
        refine own_putF (n := 109) X4 hx hZ hown (hw _ (List.mem_of_getElem? (i := 31) rfl)) e4 F4_a1.2.2.2.2.2 F4_a1.1 (Or.inl (hw _ (List.mem_of_getElem? (i := 32) rfl))) (hw _ (List.mem_of_getElem? (i := 1) rfl)) (ty := .int) (by decide) rfl rfl (hb hby d3_106) rfl ?_
        intro T5 h5 X5 e5 W5
        have N5 := Fr.snoc X5 N4 nb
        have Z5 : n0 ≤ h5.size := Nat.le_trans Z4 (Keep.of_wr W5).1
        have F5_a1 := F4_a1.set_against hw W5
        have K5 : Keep h0 h5 [a1] := K4.wr W5 (Or.inl (List.mem_of_getElem? (i := 0) rfl))
        refine own_iloadN (n := 110) X5 hx (hb hby d3_109) rfl rfl ?_
        refine own_retN X5 hx lk hret (by simp) (hb hby d3_110) (by decide) (by decide) ?_
        rw [e5]
        refine ⟨(1 : Int32), _, _, ?_, rfl, N5, K5, F5_a1⟩
        simp [recF, neg, c4, c13, c93]
      · refine own_ifYes (n := 100) X3 hx (hb hby d3_93) (Jvm.Free.XT.i0_ne_t c93) (by decide) (by decide) ?_
        refine own_iconst (n := 101) X3 hx (0 : Int32) (hb hby d3_100) rfl rfl ?_
        refine own_putF (n := 104) X3 hx hZ hown (hw _ (List.mem_of_getElem? (i := 9) rfl)) e3 F2_a1.2.2.2.2.1 F2_a1.1 (Or.inl (hw _ (List.mem_of_getElem? (i := 10) rfl))) (hw _ (List.mem_of_getElem? (i := 1) rfl)) (ty := .boolean) (by decide) rfl rfl (hb hby d3_101) rfl ?_
        intro T6 h6 X6 e6 W6
        have N6 := Fr.snoc X6 N2 nb
        have Z6 : n0 ≤ h6.size := Nat.le_trans Z2 (Keep.of_wr W6).1
        have F6_a1 := F2_a1.set_up hw W6
        have K6 : Keep h0 h6 [a1] := K2.wr W6 (Or.inl (List.mem_of_getElem? (i := 0) rfl))
        refine own_aloadN (n := 105) X6 hx (hb hby d3_104) rfl rfl rfl ?_
        refine own_iconst (n := 106) X6 hx (0 : Int32) (hb hby d3_105) rfl rfl ?_
        refine own_putF (n := 109) X6 hx hZ hown (hw _ (List.mem_of_getElem? (i := 31) rfl)) e6 F6_a1.2.2.2.2.2 F6_a1.1 (Or.inl (hw _ (List.mem_of_getElem? (i := 32) rfl))) (hw _ (List.mem_of_getElem? (i := 1) rfl)) (ty := .int) (by decide) rfl rfl (hb hby d3_106) rfl ?_
        intro T7 h7 X7 e7 W7
        have N7 := Fr.snoc X7 N6 nb
        have Z7 : n0 ≤ h7.size := Nat.le_trans Z6 (Keep.of_wr W7).1
        have F7_a1 := F6_a1.set_against hw W7
        have K7 : Keep h0 h7 [a1] := K6.wr W7 (Or.inl (List.mem_of_getElem? (i := 0) rfl))
        refine own_iloadN (n := 110) X7 hx (hb hby d3_109) rfl rfl ?_
        refine own_retN X7 hx lk hret (by simp) (hb hby d3_110) (by decide) (by decide) ?_
        rw [e7]
        refine ⟨(1 : Int32), _, _, ?_, rfl, N7, K7, F7_a1⟩
        simp [recF, neg, c4, c13, c93]
    · refine own_ifYes (n := 20) X2 hx (hb hby d3_13) (Jvm.Free.XT.i0_ne_t c13) (by decide) (by decide) ?_
      refine own_iconst (n := 21) X2 hx (0 : Int32) (hb hby d3_20) rfl rfl ?_
      refine own_istoreN (n := 22) X2 hx (hb hby d3_21) (l' := #[.val (.ref a1), .val (.int p2), .val (.int (0 : Int32))]) rfl rfl ?_
      refine own_goto (n := 84) X2 hx (hb hby d3_22) (by decide) (by decide) ?_
      refine own_iloadN (n := 85) X2 hx (hb hby d3_84) rfl rfl ?_
      refine own_ifYes (n := 109) X2 hx (hb hby d3_85) (Jvm.Free.XT.i0_eq_t rfl) (by decide) (by decide) ?_
      refine own_iloadN (n := 110) X2 hx (hb hby d3_109) rfl rfl ?_
      refine own_retN X2 hx lk hret (by simp) (hb hby d3_110) (by decide) (by decide) ?_
      rw [e2]
      refine ⟨(0 : Int32), _, _, ?_, rfl, N2, K2, F2_a1⟩
      simp [recF, neg, c4, c13]
  · refine own_ifYes (n := 25) X1 hx (hb hby d3_4) (Jvm.Free.XT.i0_ne_t c4) (by decide) (by decide) ?_
    refine own_iloadN (n := 26) X1 hx (hb hby d3_25) rfl rfl ?_
    refine own_aloadN (n := 27) X1 hx (hb hby d3_26) rfl rfl rfl ?_
    refine own_getF (n := 30) X1 hx hZ hown (hw _ (List.mem_of_getElem? (i := 9) rfl)) e1 F0.2.2.2.2.1 (hb hby d3_27) rfl ?_
    intro T8 X8 e8
    by_cases c30 : p2 = up
    · refine own_icmpNo (n := 33) X8 hx (hb hby d3_30) (Jvm.Free.XT.ii_ne_f c30) rfl ?_
      refine own_aloadN (n := 34) X8 hx (hb hby d3_33) rfl rfl rfl ?_
      refine own_iconst (n := 35) X8 hx (0 : Int32) (hb hby d3_34) rfl rfl ?_
      refine own_putF (n := 38) X8 hx hZ hown (hw _ (List.mem_of_getElem? (i := 31) rfl)) e8 F0.2.2.2.2.2 F0.1 (Or.inl (hw _ (List.mem_of_getElem? (i := 32) rfl))) (hw _ (List.mem_of_getElem? (i := 1) rfl)) (ty := .int) (by decide) rfl rfl (hb hby d3_35) rfl ?_
      intro T9 h9 X9 e9 W9
      have N9 := Fr.snoc X9 N0 nb
      have Z9 : n0 ≤ h9.size := Nat.le_trans Z0 (Keep.of_wr W9).1
      have F9_a1 := F0.set_against hw W9
      have K9 : Keep h0 h9 [a1] := (Keep.refl h0 [a1]).wr W9 (Or.inl (List.mem_of_getElem? (i := 0) rfl))
      refine own_iconst (n := 39) X9 hx (0 : Int32) (hb hby d3_38) rfl rfl ?_
      refine own_istoreN (n := 40) X9 hx (hb hby d3_39) (l' := #[.val (.ref a1), .val (.int p2), .val (.int (0 : Int32))]) rfl rfl ?_
      refine own_goto (n := 84) X9 hx (hb hby d3_40) (by decide) (by decide) ?_
      refine own_iloadN (n := 85) X9 hx (hb hby d3_84) rfl rfl ?_
      refine own_ifYes (n := 109) X9 hx (hb hby d3_85) (Jvm.Free.XT.i0_eq_t rfl) (by decide) (by decide) ?_
      refine own_iloadN (n := 110) X9 hx (hb hby d3_109) rfl rfl ?_
      refine own_retN X9 hx lk hret (by simp) (hb hby d3_110) (by decide) (by decide) ?_
      rw [e9]
      have Fz : HP Z h9 a1 f r (1) up (0 : Int32) := by have z := F9_a1; rw [hpb c4] at z; exact z
      refine ⟨(0 : Int32), _, _, ?_, rfl, N9, K9, Fz⟩
      simp [recF, neg, c4, c30]
    · refine own_icmpYes (n := 43) X8 hx (hb hby d3_30) (Jvm.Free.XT.ii_ne_t c30) (by decide) (by decide) ?_
      refine own_aloadN (n := 44) X8 hx (hb hby d3_43) rfl rfl rfl ?_
      refine own_dup (n := 45) X8 hx (hb hby d3_44) rfl rfl ?_
      refine own_getF (n := 48) X8 hx hZ hown (hw _ (List.mem_of_getElem? (i := 31) rfl)) e8 F0.2.2.2.2.2 (hb hby d3_45) rfl ?_
      intro T10 X10 e10
      refine own_iconst (n := 49) X10 hx (1 : Int32) (hb hby d3_48) rfl rfl ?_
      refine own_iadd (n := 50) X10 hx (hb hby d3_49) rfl ?_
      refine own_putF (n := 53) X10 hx hZ hown (hw _ (List.mem_of_getElem? (i := 31) rfl)) e10 F0.2.2.2.2.2 F0.1 (Or.inl (hw _ (List.mem_of_getElem? (i := 32) rfl))) (hw _ (List.mem_of_getElem? (i := 1) rfl)) (ty := .int) (by decide) rfl rfl (hb hby d3_50) rfl ?_
      intro T11 h11 X11 e11 W11
      have N11 := Fr.snoc X11 N0 nb
      have Z11 : n0 ≤ h11.size := Nat.le_trans Z0 (Keep.of_wr W11).1
      have F11_a1 := F0.set_against hw W11
      have K11 : Keep h0 h11 [a1] := (Keep.refl h0 [a1]).wr W11 (Or.inl (List.mem_of_getElem? (i := 0) rfl))
      refine own_aloadN (n := 54) X11 hx (hb hby d3_53) rfl rfl rfl ?_
      refine own_getF (n := 57) X11 hx hZ hown (hw _ (List.mem_of_getElem? (i := 31) rfl)) e11 F11_a1.2.2.2.2.2 (hb hby d3_54) rfl ?_
      intro T12 X12 e12
      refine own_aloadN (n := 58) X12 hx (hb hby d3_57) rfl rfl rfl ?_
      refine own_getF (n := 61) X12 hx hZ hown (hw _ (List.mem_of_getElem? (i := 9) rfl)) e12 F11_a1.2.2.2.2.1 (hb hby d3_58) rfl ?_
      intro T13 X13 e13
      by_cases c61 : up = 0
      · refine own_ifYes (n := 71) X13 hx (hb hby d3_61) (Jvm.Free.XT.i0_eq_t c61) (by decide) (by decide) ?_
        refine own_aloadN (n := 72) X13 hx (hb hby d3_71) rfl rfl rfl ?_
        refine own_getF (n := 75) X13 hx hZ hown (hw _ (List.mem_of_getElem? (i := 13) rfl)) e13 F11_a1.2.2.1 (hb hby d3_72) rfl ?_
        intro T14 X14 e14
        by_cases c75 : (ag + (1 : Int32)) < r
        · refine own_icmpYes (n := 82) X14 hx (hb hby d3_75) (Jvm.Free.XT.ii_lt_t c75) (by decide) (by decide) ?_
          refine own_iconst (n := 83) X14 hx (0 : Int32) (hb hby d3_82) rfl rfl ?_
          refine own_istoreN (n := 84) X14 hx (hb hby d3_83) (l' := #[.val (.ref a1), .val (.int p2), .val (.int (0 : Int32))]) rfl rfl ?_
          refine own_iloadN (n := 85) X14 hx (hb hby d3_84) rfl rfl ?_
          refine own_ifYes (n := 109) X14 hx (hb hby d3_85) (Jvm.Free.XT.i0_eq_t rfl) (by decide) (by decide) ?_
          refine own_iloadN (n := 110) X14 hx (hb hby d3_109) rfl rfl ?_
          refine own_retN X14 hx lk hret (by simp) (hb hby d3_110) (by decide) (by decide) ?_
          rw [e14]
          have c30' := c30
          rw [c61] at c30'
          have Fz : HP Z h11 a1 f r (1) up (ag + (1 : Int32)) := by have z := F11_a1; rw [hpb c4] at z; exact z
          refine ⟨(0 : Int32), _, _, ?_, rfl, N11, K11, Fz⟩
          simp [recF, neg, c4, c30, c61, c75, c30']
        · refine own_icmpNo (n := 78) X14 hx (hb hby d3_75) (Jvm.Free.XT.ii_lt_f c75) rfl ?_
          refine own_iconst (n := 79) X14 hx (1 : Int32) (hb hby d3_78) rfl rfl ?_
          refine own_goto (n := 83) X14 hx (hb hby d3_79) (by decide) (by decide) ?_
          refine own_istoreN (n := 84) X14 hx (hb hby d3_83) (l' := #[.val (.ref a1), .val (.int p2), .val (.int (1 : Int32))]) rfl rfl ?_
          refine own_iloadN (n := 85) X14 hx (hb hby d3_84) rfl rfl ?_
          refine own_ifNo (n := 88) X14 hx (hb hby d3_85) (Jvm.Free.XT.i0_eq_f (by decide)) rfl ?_
          refine own_aloadN (n := 89) X14 hx (hb hby d3_88) rfl rfl rfl ?_
          refine own_aloadN (n := 90) X14 hx (hb hby d3_89) rfl rfl rfl ?_
          refine own_getF (n := 93) X14 hx hZ hown (hw _ (List.mem_of_getElem? (i := 9) rfl)) e14 F11_a1.2.2.2.2.1 (hb hby d3_90) rfl ?_
          intro T15 X15 e15
          refine own_ifNo (n := 96) X15 hx (hb hby d3_93) (Jvm.Free.XT.i0_ne_f c61) rfl ?_
          refine own_iconst (n := 97) X15 hx (1 : Int32) (hb hby d3_96) rfl rfl ?_
          refine own_goto (n := 101) X15 hx (hb hby d3_97) (by decide) (by decide) ?_
          refine own_putF (n := 104) X15 hx hZ hown (hw _ (List.mem_of_getElem? (i := 9) rfl)) e15 F11_a1.2.2.2.2.1 F11_a1.1 (Or.inl (hw _ (List.mem_of_getElem? (i := 10) rfl))) (hw _ (List.mem_of_getElem? (i := 1) rfl)) (ty := .boolean) (by decide) rfl rfl (hb hby d3_101) rfl ?_
          intro T16 h16 X16 e16 W16
          have N16 := Fr.snoc X16 N11 nb
          have Z16 : n0 ≤ h16.size := Nat.le_trans Z11 (Keep.of_wr W16).1
          have F16_a1 := F11_a1.set_up hw W16
          have K16 : Keep h0 h16 [a1] := K11.wr W16 (Or.inl (List.mem_of_getElem? (i := 0) rfl))
          refine own_aloadN (n := 105) X16 hx (hb hby d3_104) rfl rfl rfl ?_
          refine own_iconst (n := 106) X16 hx (0 : Int32) (hb hby d3_105) rfl rfl ?_
          refine own_putF (n := 109) X16 hx hZ hown (hw _ (List.mem_of_getElem? (i := 31) rfl)) e16 F16_a1.2.2.2.2.2 F16_a1.1 (Or.inl (hw _ (List.mem_of_getElem? (i := 32) rfl))) (hw _ (List.mem_of_getElem? (i := 1) rfl)) (ty := .int) (by decide) rfl rfl (hb hby d3_106) rfl ?_
          intro T17 h17 X17 e17 W17
          have N17 := Fr.snoc X17 N16 nb
          have Z17 : n0 ≤ h17.size := Nat.le_trans Z16 (Keep.of_wr W17).1
          have F17_a1 := F16_a1.set_against hw W17
          have K17 : Keep h0 h17 [a1] := K16.wr W17 (Or.inl (List.mem_of_getElem? (i := 0) rfl))
          refine own_iloadN (n := 110) X17 hx (hb hby d3_109) rfl rfl ?_
          refine own_retN X17 hx lk hret (by simp) (hb hby d3_110) (by decide) (by decide) ?_
          rw [e17]
          have c30' := c30
          rw [c61] at c30'
          have Fz : HP Z h17 a1 f r (1) (1 : Int32) (0 : Int32) := by have z := F17_a1; rw [hpb c4] at z; exact z
          refine ⟨(1 : Int32), _, _, ?_, rfl, N17, K17, Fz⟩
          simp [recF, neg, c4, c30, c61, c75, c30']
      · refine own_ifNo (n := 64) X13 hx (hb hby d3_61) (Jvm.Free.XT.i0_eq_f c61) rfl ?_
        refine own_aloadN (n := 65) X13 hx (hb hby d3_64) rfl rfl rfl ?_
        refine own_getF (n := 68) X13 hx hZ hown (hw _ (List.mem_of_getElem? (i := 11) rfl)) e13 F11_a1.2.1 (hb hby d3_65) rfl ?_
        intro T18 X18 e18
        refine own_goto (n := 75) X18 hx (hb hby d3_68) (by decide) (by decide) ?_
        by_cases c75 : (ag + (1 : Int32)) < f
        · refine own_icmpYes (n := 82) X18 hx (hb hby d3_75) (Jvm.Free.XT.ii_lt_t c75) (by decide) (by decide) ?_
          refine own_iconst (n := 83) X18 hx (0 : Int32) (hb hby d3_82) rfl rfl ?_
          refine own_istoreN (n := 84) X18 hx (hb hby d3_83) (l' := #[.val (.ref a1), .val (.int p2), .val (.int (0 : Int32))]) rfl rfl ?_
          refine own_iloadN (n := 85) X18 hx (hb hby d3_84) rfl rfl ?_
          refine own_ifYes (n := 109) X18 hx (hb hby d3_85) (Jvm.Free.XT.i0_eq_t rfl) (by decide) (by decide) ?_
          refine own_iloadN (n := 110) X18 hx (hb hby d3_109) rfl rfl ?_
          refine own_retN X18 hx lk hret (by simp) (hb hby d3_110) (by decide) (by decide) ?_
          rw [e18]
          have Fz : HP Z h11 a1 f r (1) up (ag + (1 : Int32)) := by have z := F11_a1; rw [hpb c4] at z; exact z
          refine ⟨(0 : Int32), _, _, ?_, rfl, N11, K11, Fz⟩
          simp [recF, neg, c4, c30, c61, c75]
        · refine own_icmpNo (n := 78) X18 hx (hb hby d3_75) (Jvm.Free.XT.ii_lt_f c75) rfl ?_
          refine own_iconst (n := 79) X18 hx (1 : Int32) (hb hby d3_78) rfl rfl ?_
          refine own_goto (n := 83) X18 hx (hb hby d3_79) (by decide) (by decide) ?_
          refine own_istoreN (n := 84) X18 hx (hb hby d3_83) (l' := #[.val (.ref a1), .val (.int p2), .val (.int (1 : Int32))]) rfl rfl ?_
          refine own_iloadN (n := 85) X18 hx (hb hby d3_84) rfl rfl ?_
          refine own_ifNo (n := 88) X18 hx (hb hby d3_85) (Jvm.Free.XT.i0_eq_f (by decide)) rfl ?_
          refine own_aloadN (n := 89) X18 hx (hb hby d3_88) rfl rfl rfl ?_
          refine own_aloadN (n := 90) X18 hx (hb hby d3_89) rfl rfl rfl ?_
          refine own_getF (n := 93) X18 hx hZ hown (hw _ (List.mem_of_getElem? (i := 9) rfl)) e18 F11_a1.2.2.2.2.1 (hb hby d3_90) rfl ?_
          intro T19 X19 e19
          refine own_ifYes (n := 100) X19 hx (hb hby d3_93) (Jvm.Free.XT.i0_ne_t c61) (by decide) (by decide) ?_
          refine own_iconst (n := 101) X19 hx (0 : Int32) (hb hby d3_100) rfl rfl ?_
          refine own_putF (n := 104) X19 hx hZ hown (hw _ (List.mem_of_getElem? (i := 9) rfl)) e19 F11_a1.2.2.2.2.1 F11_a1.1 (Or.inl (hw _ (List.mem_of_getElem? (i := 10) rfl))) (hw _ (List.mem_of_getElem? (i := 1) rfl)) (ty := .boolean) (by decide) rfl rfl (hb hby d3_101) rfl ?_
          intro T20 h20 X20 e20 W20
          have N20 := Fr.snoc X20 N11 nb
          have Z20 : n0 ≤ h20.size := Nat.le_trans Z11 (Keep.of_wr W20).1
          have F20_a1 := F11_a1.set_up hw W20
          have K20 : Keep h0 h20 [a1] := K11.wr W20 (Or.inl (List.mem_of_getElem? (i := 0) rfl))
          refine own_aloadN (n := 105) X20 hx (hb hby d3_104) rfl rfl rfl ?_
          refine own_iconst (n := 106) X20 hx (0 : Int32) (hb hby d3_105) rfl rfl ?_
          refine own_putF (n := 109) X20 hx hZ hown (hw _ (List.mem_of_getElem? (i := 31) rfl)) e20 F20_a1.2.2.2.2.2 F20_a1.1 (Or.inl (hw _ (List.mem_of_getElem? (i := 32) rfl))) (hw _ (List.mem_of_getElem? (i := 1) rfl)) (ty := .int) (by decide) rfl rfl (hb hby d3_106) rfl ?_
          intro T21 h21 X21 e21 W21
          have N21 := Fr.snoc X21 N20 nb
          have Z21 : n0 ≤ h21.size := Nat.le_trans Z20 (Keep.of_wr W21).1
          have F21_a1 := F20_a1.set_against hw W21
          have K21 : Keep h0 h21 [a1] := K20.wr W21 (Or.inl (List.mem_of_getElem? (i := 0) rfl))
          refine own_iloadN (n := 110) X21 hx (hb hby d3_109) rfl rfl ?_
          refine own_retN X21 hx lk hret (by simp) (hb hby d3_110) (by decide) (by decide) ?_
          rw [e21]
          have Fz : HP Z h21 a1 f r (1) (0 : Int32) (0 : Int32) := by have z := F21_a1; rw [hpb c4] at z; exact z
          refine ⟨(1 : Int32), _, _, ?_, rfl, N21, K21, Fz⟩
          simp [recF, neg, c4, c30, c61, c75]
theorem d4_0 : decode jdk_29_method_65_code 0 = .ok (.iload_n 0, 1) := by decide +kernel
theorem d4_1 : decode jdk_29_method_65_code 1 = .ok (.iload_n 1, 1) := by decide +kernel
theorem d4_2 : decode jdk_29_method_65_code 2 = .ok (.if_icmp .lt 7, 3) := by decide +kernel
theorem d4_5 : decode jdk_29_method_65_code 5 = .ok (.iload_n 0, 1) := by decide +kernel
theorem d4_6 : decode jdk_29_method_65_code 6 = .ok (.goto 4, 3) := by decide +kernel
theorem d4_9 : decode jdk_29_method_65_code 9 = .ok (.iload_n 1, 1) := by decide +kernel
theorem d4_10 : decode jdk_29_method_65_code 10 = .ok (.ireturn, 1) := by decide +kernel
theorem pn_4 : plainFor (⟨"java/lang/Math", "max", "(II)I"⟩ : MethodName) = true := by first | exact plainFor_of_name (by first | (simp [plainName, overriddenIn]; done) | decide +kernel) | decide +kernel
theorem ef_4 (m : MethodId) (p1 : Int32) (p2 : Int32) : entryFrame m #[(.int p1), (.int p2)] 2 = mkF m 0 #[.val (.int p1), .val (.int p2)] [] := by first | (simp [entryFrame, argsToLocals, Value.category, Array.replicate]; done) | rfl
theorem pd_4 : parseMethodDescriptor "(II)I" = some ⟨[.int, .int], some .int⟩ := by decide +kernel
def Q4 (Z : State) (p1 : Int32) (p2 : Int32)  (h0 : Heap) (n0 : Nat) (v : Option Value) (h : Heap) (L : List Loc) : Prop := v = some (.int (if p1 < p2 then p2 else p1)) ∧ Fr n0 L ∧ h0 = h
theorem rm4 (l : Launch) (Z : State) (a0 : Array Value) (hw : ∀ d ∈ tables_1, d.before a0 Z = true) (ws : List Jvm.Cond) (p1 : Int32) (p2 : Int32)  (h0 : Heap) (n0 : Nat) (Z0 : n0 ≤ h0.size)  :
    MetFree l (⟨"java/lang/Math", "max", "(II)I"⟩ : MethodName) (head1 (Jvm.Cond.code (⟨"java/lang/Math", "max", "(II)I"⟩ : MethodName) jdk_29_method_65_code 2 (some .int) :: ws) ({ frames := 0, cells := 0, slots := 0, locals := 0 } : Room)) (fun a U => a = #[(.int p1), (.int p2)] ∧ Z.Warmed39 U.vm ∧ U.heap = h0) (fun _ _ _ _ _ => True) (fun _ U o U' => ∃ v L, o = .returned v ∧ (Q4 Z p1 p2  h0 n0) v U'.heap L ∧ FrameEnd U o U' L ({ frames := 0, cells := 0, slots := 0, locals := 0 } : Room).cells ({ frames := 0, cells := 0, slots := 0, locals := 0 } : Room).slots) := by
  refine MetFree.of_bodySF pn_4 hisR ?_
  intro p e s m args below meth c s₁ Bd hml0 hP hK
  obtain ⟨rfl, hZ, hh⟩ := hP
  have hx := Bd.exec
  have hby := Bd.bytes
  have hml : c.maxLocals = 2 := hml0
  have hown : s.vm.findClass "java/lang/Math" = some m.cls := findClass_of_methodNamed Bd.named
  have hnm := (name_of_methodNamed Bd.named Bd.method).1
  have X0 : Stand p l e ({ frames := 0, cells := 0, slots := 0, locals := 0 } : Room) s m #[(.int p1), (.int p2)] below meth c s₁ [] 0 0 := Stand.of_body Bd
  have e0 : s₁.heap = h0 := by rw [← hh, Bd.state]; rfl
  have N0 := Fr.nil n0
  have lk : meth.locks = false := BodyLoose.notSynchronized Bd
  have hret := Bd.returns
  show Ends p e below (EF s ({ frames := 0, cells := 0, slots := 0, locals := 0 } : Room).cells ({ frames := 0, cells := 0, slots := 0, locals := 0 } : Room).slots) (Q4 Z p1 p2  h0 n0) (s₁.setTop (entryFrame m #[(.int p1), (.int p2)] 2))
  refine Ends.cast (ef_4 m p1 p2) ?_
  refine own_iloadN (n := 1) X0 hx (hb hby d4_0) rfl rfl ?_
  refine own_iloadN (n := 2) X0 hx (hb hby d4_1) rfl rfl ?_
  by_cases c2 : p1 < p2
  · refine own_icmpYes (n := 9) X0 hx (hb hby d4_2) (Jvm.Free.XT.ii_lt_t c2) (by decide) (by decide) ?_
    refine own_iloadN (n := 10) X0 hx (hb hby d4_9) rfl rfl ?_
    refine own_retI X0 hx lk hret (hb hby d4_10) (by decide) (by decide) ?_
    rw [e0]
    exact ⟨by rw [if_pos c2], N0, rfl⟩
  · refine own_icmpNo (n := 5) X0 hx (hb hby d4_2) (Jvm.Free.XT.ii_lt_f c2) rfl ?_
    refine own_iloadN (n := 6) X0 hx (hb hby d4_5) rfl rfl ?_
    refine own_goto (n := 10) X0 hx (hb hby d4_6) (by decide) (by decide) ?_
    refine own_retI X0 hx lk hret (hb hby d4_10) (by decide) (by decide) ?_
    rw [e0]
    exact ⟨by rw [if_neg c2], N0, rfl⟩
theorem d5_0 : decode prog_36_method_4_code 0 = .ok (.aload_n 0, 1) := by decide +kernel
theorem d5_1 : decode prog_36_method_4_code 1 = .ok (.getfield 7, 3) := by decide +kernel
theorem d5_4 : decode prog_36_method_4_code 4 = .ok (.ireturn, 1) := by decide +kernel
theorem pn_5 : plainFor (⟨"com/example/idun/idun/pools/Health", "isUp", "()Z"⟩ : MethodName) = true := by first | exact plainFor_of_name (by first | (simp [plainName, overriddenIn]; done) | decide +kernel) | decide +kernel
theorem ef_5 (m : MethodId) (a1 : Addr) : entryFrame m #[(.ref a1)] 1 = mkF m 0 #[.val (.ref a1)] [] := by first | (simp [entryFrame, argsToLocals, Value.category, Array.replicate]; done) | rfl
theorem pd_5 : parseMethodDescriptor "()Z" = some ⟨[], some .boolean⟩ := by decide +kernel
def Q5 (Z : State) (a1 : Addr) (f : Int32) (r : Int32) (pb : Int32) (up : Int32) (ag : Int32) (h0 : Heap) (n0 : Nat) (v : Option Value) (h : Heap) (L : List Loc) : Prop := v = some (.int up) ∧ Fr n0 L ∧ h0 = h
theorem rm5 (l : Launch) (Z : State) (a0 : Array Value) (hw : ∀ d ∈ tables_1, d.before a0 Z = true) (ws : List Jvm.Cond) (a1 : Addr) (f : Int32) (r : Int32) (pb : Int32) (up : Int32) (ag : Int32) (h0 : Heap) (n0 : Nat) (Z0 : n0 ≤ h0.size) (F0 : HP Z h0 a1 f r pb up ag) (hu : up = 0 ∨ up = 1) :
    MetFree l (⟨"com/example/idun/idun/pools/Health", "isUp", "()Z"⟩ : MethodName) (head1 (Jvm.Cond.code (⟨"com/example/idun/idun/pools/Health", "isUp", "()Z"⟩ : MethodName) prog_36_method_4_code 1 (some .boolean) :: ws) ({ frames := 0, cells := 0, slots := 0, locals := 0 } : Room)) (fun a U => a = #[(.ref a1)] ∧ Z.Warmed39 U.vm ∧ U.heap = h0) (fun _ _ _ _ _ => True) (fun _ U o U' => ∃ v L, o = .returned v ∧ (Q5 Z a1 f r pb up ag h0 n0) v U'.heap L ∧ FrameEnd U o U' L ({ frames := 0, cells := 0, slots := 0, locals := 0 } : Room).cells ({ frames := 0, cells := 0, slots := 0, locals := 0 } : Room).slots) := by
  refine MetFree.of_bodySF pn_5 hisR ?_
  intro p e s m args below meth c s₁ Bd hml0 hP hK
  obtain ⟨rfl, hZ, hh⟩ := hP
  have hx := Bd.exec
  have hby := Bd.bytes
  have hml : c.maxLocals = 1 := hml0
  have hown : s.vm.findClass "com/example/idun/idun/pools/Health" = some m.cls := findClass_of_methodNamed Bd.named
  have hnm := (name_of_methodNamed Bd.named Bd.method).1
  have X0 : Stand p l e ({ frames := 0, cells := 0, slots := 0, locals := 0 } : Room) s m #[(.ref a1)] below meth c s₁ [] 0 0 := Stand.of_body Bd
  have e0 : s₁.heap = h0 := by rw [← hh, Bd.state]; rfl
  have N0 := Fr.nil n0
  have lk : meth.locks = false := BodyLoose.notSynchronized Bd
  have hret := Bd.returns
  show Ends p e below (EF s ({ frames := 0, cells := 0, slots := 0, locals := 0 } : Room).cells ({ frames := 0, cells := 0, slots := 0, locals := 0 } : Room).slots) (Q5 Z a1 f r pb up ag h0 n0) (s₁.setTop (entryFrame m #[(.ref a1)] 1))
  refine Ends.cast (ef_5 m a1) ?_
  refine own_aloadN (n := 1) X0 hx (hb hby d5_0) rfl rfl rfl ?_
  refine own_getF (n := 4) X0 hx hZ hown (hw _ (List.mem_of_getElem? (i := 9) rfl)) e0 F0.2.2.2.2.1 (hb hby d5_1) rfl ?_
  intro T1 X1 e1
  refine own_retN X1 hx lk hret (by simp) (hb hby d5_4) (by decide) (by decide) ?_
  rw [e1]
  exact ⟨by rw [own_01 hu], N0, rfl⟩
theorem d6_0 : decode prog_36_method_3_code 0 = .ok (.aload_n 0, 1) := by decide +kernel
theorem d6_1 : decode prog_36_method_3_code 1 = .ok (.iload_n 1, 1) := by decide +kernel
theorem d6_2 : decode prog_36_method_3_code 2 = .ok (.putfield 13, 3) := by decide +kernel
theorem d6_5 : decode prog_36_method_3_code 5 = .ok (.aload_n 0, 1) := by decide +kernel
theorem d6_6 : decode prog_36_method_3_code 6 = .ok (.iload_n 2, 1) := by decide +kernel
theorem d6_7 : decode prog_36_method_3_code 7 = .ok (.putfield 17, 3) := by decide +kernel
theorem d6_10 : decode prog_36_method_3_code 10 = .ok (.return_, 1) := by decide +kernel
theorem pn_6 : plainFor (⟨"com/example/idun/idun/pools/Health", "thresholds", "(II)V"⟩ : MethodName) = true := by first | exact plainFor_of_name (by first | (simp [plainName, overriddenIn]; done) | decide +kernel) | decide +kernel
theorem ef_6 (m : MethodId) (a1 : Addr) (p2 : Int32) (p3 : Int32) : entryFrame m #[(.ref a1), (.int p2), (.int p3)] 3 = mkF m 0 #[.val (.ref a1), .val (.int p2), .val (.int p3)] [] := by first | (simp [entryFrame, argsToLocals, Value.category, Array.replicate]; done) | rfl
theorem pd_6 : parseMethodDescriptor "(II)V" = some ⟨[.int, .int], none⟩ := by decide +kernel
def Q6 (Z : State) (a1 : Addr) (p2 : Int32) (p3 : Int32) (f : Int32) (r : Int32) (pb : Int32) (up : Int32) (ag : Int32) (h0 : Heap) (n0 : Nat) (v : Option Value) (h : Heap) (L : List Loc) : Prop := v = none ∧ Fr n0 L ∧ Keep h0 h [a1] ∧ HP Z h a1 p2 p3 pb up ag
theorem rm6 (l : Launch) (Z : State) (a0 : Array Value) (hw : ∀ d ∈ tables_1, d.before a0 Z = true) (ws : List Jvm.Cond) (a1 : Addr) (p2 : Int32) (p3 : Int32) (f : Int32) (r : Int32) (pb : Int32) (up : Int32) (ag : Int32) (h0 : Heap) (n0 : Nat) (Z0 : n0 ≤ h0.size) (F0 : HP Z h0 a1 f r pb up ag) (nb : n0 ≤ a1) :
    MetFree l (⟨"com/example/idun/idun/pools/Health", "thresholds", "(II)V"⟩ : MethodName) (head1 (Jvm.Cond.code (⟨"com/example/idun/idun/pools/Health", "thresholds", "(II)V"⟩ : MethodName) prog_36_method_3_code 3 (none) :: ws) ({ frames := 0, cells := 0, slots := 0, locals := 0 } : Room)) (fun a U => a = #[(.ref a1), (.int p2), (.int p3)] ∧ Z.Warmed39 U.vm ∧ U.heap = h0) (fun _ _ _ _ _ => True) (fun _ U o U' => ∃ v L, o = .returned v ∧ (Q6 Z a1 p2 p3 f r pb up ag h0 n0) v U'.heap L ∧ FrameEnd U o U' L ({ frames := 0, cells := 0, slots := 0, locals := 0 } : Room).cells ({ frames := 0, cells := 0, slots := 0, locals := 0 } : Room).slots) := by
  refine MetFree.of_bodySF pn_6 hisR ?_
  intro p e s m args below meth c s₁ Bd hml0 hP hK
  obtain ⟨rfl, hZ, hh⟩ := hP
  have hx := Bd.exec
  have hby := Bd.bytes
  have hml : c.maxLocals = 3 := hml0
  have hown : s.vm.findClass "com/example/idun/idun/pools/Health" = some m.cls := findClass_of_methodNamed Bd.named
  have hnm := (name_of_methodNamed Bd.named Bd.method).1
  have X0 : Stand p l e ({ frames := 0, cells := 0, slots := 0, locals := 0 } : Room) s m #[(.ref a1), (.int p2), (.int p3)] below meth c s₁ [] 0 0 := Stand.of_body Bd
  have e0 : s₁.heap = h0 := by rw [← hh, Bd.state]; rfl
  have N0 := Fr.nil n0
  have lk : meth.locks = false := BodyLoose.notSynchronized Bd
  have hret := Bd.returns
  show Ends p e below (EF s ({ frames := 0, cells := 0, slots := 0, locals := 0 } : Room).cells ({ frames := 0, cells := 0, slots := 0, locals := 0 } : Room).slots) (Q6 Z a1 p2 p3 f r pb up ag h0 n0) (s₁.setTop (entryFrame m #[(.ref a1), (.int p2), (.int p3)] 3))
  refine Ends.cast (ef_6 m a1 p2 p3) ?_
  refine own_aloadN (n := 1) X0 hx (hb hby d6_0) rfl rfl rfl ?_
  refine own_iloadN (n := 2) X0 hx (hb hby d6_1) rfl rfl ?_
  refine own_putF (n := 5) X0 hx hZ hown (hw _ (List.mem_of_getElem? (i := 11) rfl)) e0 F0.2.1 F0.1 (Or.inl (hw _ (List.mem_of_getElem? (i := 12) rfl))) (hw _ (List.mem_of_getElem? (i := 1) rfl)) (ty := .int) (by decide) rfl rfl (hb hby d6_2) rfl ?_
  intro T1 h1 X1 e1 W1
  have N1 := Fr.snoc X1 N0 nb
  have Z1 : n0 ≤ h1.size := Nat.le_trans Z0 (Keep.of_wr W1).1
  have F1_a1 := F0.set_fall hw W1
  have K1 : Keep h0 h1 [a1] := (Keep.refl h0 [a1]).wr W1 (Or.inl (List.mem_of_getElem? (i := 0) rfl))
  refine own_aloadN (n := 6) X1 hx (hb hby d6_5) rfl rfl rfl ?_
  refine own_iloadN (n := 7) X1 hx (hb hby d6_6) rfl rfl ?_
  refine own_putF (n := 10) X1 hx hZ hown (hw _ (List.mem_of_getElem? (i := 13) rfl)) e1 F1_a1.2.2.1 F1_a1.1 (Or.inl (hw _ (List.mem_of_getElem? (i := 14) rfl))) (hw _ (List.mem_of_getElem? (i := 1) rfl)) (ty := .int) (by decide) rfl rfl (hb hby d6_7) rfl ?_
  intro T2 h2 X2 e2 W2
  have N2 := Fr.snoc X2 N1 nb
  have Z2 : n0 ≤ h2.size := Nat.le_trans Z1 (Keep.of_wr W2).1
  have F2_a1 := F1_a1.set_rise hw W2
  have K2 : Keep h0 h2 [a1] := K1.wr W2 (Or.inl (List.mem_of_getElem? (i := 0) rfl))
  refine own_retV X2 hx lk hret (hb hby d6_10) (by decide) (by decide) ?_
  rw [e2]
  exact ⟨rfl, N2, K2, F2_a1⟩
theorem pn_0 : plainFor x = true := by first | exact plainFor_of_name (by first | (simp [plainName, overriddenIn]; done) | decide +kernel) | decide +kernel
theorem ef_0 (m : MethodId) (p1 : Int32) (p2 : Int32) (p3 : Int32) (p4 : Int32) : entryFrame m #[(.int p1), (.int p2), (.int p3), (.int p4)] maxLocals = mkF m 0 #[.val (.int p1), .val (.int p2), .val (.int p3), .val (.int p4), .unset, .unset, .unset, .unset, .unset, .unset, .unset, .unset, .unset, .unset, .unset, .unset, .unset, .unset, .unset, .unset, .unset, .unset, .unset] [] := by first | (simp [entryFrame, argsToLocals, Value.category, Array.replicate, maxLocals]; done) | rfl
def Q0 (Z : State) (p1 : Int32) (p2 : Int32) (p3 : Int32) (p4 : Int32)  (h0 : Heap) (n0 : Nat) (v : Option Value) (h : Heap) (L : List Loc) : Prop := v = some (.int 1) ∧ Fr n0 L
theorem rm0 (l : Launch) (Z : State) (a0 : Array Value) (hw : ∀ d ∈ tables_1, d.before a0 Z = true) (ws : List Jvm.Cond) (p1 : Int32) (p2 : Int32) (p3 : Int32) (p4 : Int32)  (h0 : Heap) (n0 : Nat) (Z0 : n0 ≤ h0.size)  :
    MetFree l x (head1 (Jvm.Cond.code x code maxLocals ret :: ws) room_1) (fun a U => a = #[(.int p1), (.int p2), (.int p3), (.int p4)] ∧ Z.Warmed39 U.vm ∧ U.heap = h0) (fun _ _ _ _ _ => True) (fun _ U o U' => ∃ v L, o = .returned v ∧ (Q0 Z p1 p2 p3 p4  h0 n0) v U'.heap L ∧ FrameEnd U o U' L 16 128) := by
  refine MetFree.of_bodySF pn_0 hisR ?_
  intro p e s m args below meth c s₁ Bd hml0 hP hK
  obtain ⟨rfl, hZ, hh⟩ := hP
  have hx := Bd.exec
  have hby := Bd.bytes
  have hml : c.maxLocals = 23 := hml0
  have hown : s.vm.findClass "com/example/idun/idun/pools/HealthRecordPinLaw" = some m.cls := findClass_of_methodNamed Bd.named
  have hnm := (name_of_methodNamed Bd.named Bd.method).1
  have X0 : Stand p l e room_1 s m #[(.int p1), (.int p2), (.int p3), (.int p4)] below meth c s₁ [] 0 0 := Stand.of_body Bd
  have e0 : s₁.heap = h0 := by rw [← hh, Bd.state]; rfl
  have N0 := Fr.nil n0
  have lk : meth.locks = false := BodyLoose.notSynchronized Bd
  have hret := Bd.returns
  show Ends p e below (EF s 16 128) (Q0 Z p1 p2 p3 p4  h0 n0) (s₁.setTop (entryFrame m #[(.int p1), (.int p2), (.int p3), (.int p4)] maxLocals))
  refine Ends.cast (ef_0 m p1 p2 p3 p4) ?_
  have o0 : (0 : Int32).toInt = 0 := rfl
  have o1 : (1 : Int32).toInt = 1 := rfl
  have o2 : (2 : Int32).toInt = 2 := rfl
  have o3 : (3 : Int32).toInt = 3 := rfl
  have blk576 : ∀ (TB : State) (hB : Heap) (lB : List Loc) (f : Int32) (r : Int32) (f2 : Int32) (r2 : Int32) (sv : Int32) (x : Int32) (re : Int32) (rt : Int32) (y : Int32) (b : Addr) (t0 : Int32) (fl : Int32) (s1 : Int32) (run : Int32) (t1 : Int32) (kS : Int32) (F : Int32) (R : Int32) (u : Int32) (g : Int32) (XB : Stand p l e room_1 s m #[(.int p1), (.int p2), (.int p3), (.int p4)] below meth c TB lB (0 + 1) (0 + 5)) (eB : TB.heap = hB) (NB : Fr n0 lB) (ZB : n0 ≤ hB.size) (nb : n0 ≤ b) (FB : HP Z hB b F R 1 u g) (hu : u = 0 ∨ u = 1), Ends p e below (EF s 16 128) (Q0 Z p1 p2 p3 p4  h0 n0) (TB.setTop (mkF m 576 #[.val (.int p1), .val (.int p2), .val (.int p3), .val (.int p4), .val (.int f), .val (.int r), .val (.int f2), .val (.int r2), .val (.int sv), .val (.int x), .val (.int re), .val (.int rt), .val (.int y), .val (.ref b), .val (.int 1), .val (.int sv), .val (.int t0), .val (.int fl), .val (.int s1), .val (.int run), .val (.int t1), .val (.int kS), .val (.int u)] [])) := by
    intro TB hB lB f r f2 r2 sv x re rt y b t0 fl s1 run t1 kS F R u g XB eB NB ZB nb FB hu
    refine own_iload (n := 578) XB hx (hb hby at_576) rfl rfl ?_
    refine own_aload (n := 580) XB hx (hb hby at_578) rfl rfl rfl ?_
    refine own_callV (n := 583) XB hx hZ hown (hw _ (List.mem_of_getElem? (i := 26) rfl)) (hw _ (List.mem_of_getElem? (i := 27) rfl)) (hw _ (List.mem_of_getElem? (i := 29) rfl)) (hw _ (List.mem_of_getElem? (i := 28) rfl)) (hw _ (List.mem_of_getElem? (i := 2) rfl)) (hw _ (List.mem_of_getElem? (i := 30) rfl)) (by decide) eB FB.1 (rm5 l Z a0 hw [] b F R (1) u g hB n0 ZB FB hu) (W := 1) (by decide) (by decide) (by decide) (by decide) (by rw [hml]; rfl) (argsL := []) (rest := [(.int 1)]) pd_5 rfl (by rfl) (Nat.le_of_eq rfl) (hb hby at_580) rfl rfl ?_
    intro v1 T1 h1 L1 X1 e1 q1
    obtain ⟨rfl, M1, rfl⟩ := q1
    have N1 := Fr.app NB M1
    refine own_iload (n := 585) X1 hx (hb hby at_583) rfl rfl ?_
    refine own_icmpNo (n := 588) X1 hx (hb hby at_585) (Jvm.Free.XT.ii_ne_f rfl) rfl ?_
    refine own_iconst (n := 589) X1 hx (1 : Int32) (hb hby at_588) rfl rfl ?_
    refine own_goto (n := 593) X1 hx (hb hby at_589) (by decide) (by decide) ?_
    refine own_iand (n := 594) X1 hx (hb hby at_593) rfl ?_
    refine own_istore (n := 596) X1 hx (hb hby at_594) (l' := #[.val (.int p1), .val (.int p2), .val (.int p3), .val (.int p4), .val (.int f), .val (.int r), .val (.int f2), .val (.int r2), .val (.int sv), .val (.int x), .val (.int re), .val (.int rt), .val (.int y), .val (.ref b), .val (.int (1 &&& (1 : Int32))), .val (.int sv), .val (.int t0), .val (.int fl), .val (.int s1), .val (.int run), .val (.int t1), .val (.int kS), .val (.int u)]) rfl rfl ?_
    refine own_iload (n := 598) X1 hx (hb hby at_596) rfl rfl ?_
    refine own_retN X1 hx lk hret (by simp) (hb hby at_598) (by decide) (by decide) ?_
    rw [e1]
    exact ⟨rfl, N1⟩
  have blk552 : ∀ (TB : State) (hB : Heap) (lB : List Loc) (f : Int32) (r : Int32) (f2 : Int32) (r2 : Int32) (sv : Int32) (x : Int32) (re : Int32) (rt : Int32) (y : Int32) (b : Addr) (t0 : Int32) (fl : Int32) (s1 : Int32) (run : Int32) (t1 : Int32) (kS : Int32) (F : Int32) (R : Int32) (u : Int32) (g : Int32) (XB : Stand p l e room_1 s m #[(.int p1), (.int p2), (.int p3), (.int p4)] below meth c TB lB (0 + 1) (0 + 5)) (eB : TB.heap = hB) (NB : Fr n0 lB) (ZB : n0 ≤ hB.size) (nb : n0 ≤ b) (hs1 : s1 = 0 ∨ s1 = 1) (ht0 : s1 = 0 → t1 = R) (ht1 : ¬ s1 = 0 → t1 = F) (hk1 : 1 ≤ kS.toInt) (hk2 : kS.toInt = 1 ∨ kS.toInt = t1.toInt - run.toInt) (hk3 : t1.toInt - run.toInt ≤ kS.toInt) (hrun : 0 ≤ run.toInt ∧ run.toInt ≤ 3) (hy_ : 0 ≤ y.toInt ∧ y.toInt ≤ 3) (FB : HP Z hB b F R 1 u g) (hi : INV s1 run.toInt kS.toInt y.toInt u g), Ends p e below (EF s 16 128) (Q0 Z p1 p2 p3 p4  h0 n0) (TB.setTop (mkF m 552 #[.val (.int p1), .val (.int p2), .val (.int p3), .val (.int p4), .val (.int f), .val (.int r), .val (.int f2), .val (.int r2), .val (.int sv), .val (.int x), .val (.int re), .val (.int rt), .val (.int y), .val (.ref b), .val (.int 1), .val (.int sv), .val (.int t0), .val (.int fl), .val (.int s1), .val (.int run), .val (.int t1), .val (.int kS), .unset] [])) := by
    intro TB hB lB f r f2 r2 sv x re rt y b t0 fl s1 run t1 kS F R u g XB eB NB ZB nb hs1 ht0 ht1 hk1 hk2 hk3 hrun hy_ FB hi
    refine own_iload (n := 554) XB hx (hb hby at_552) rfl rfl ?_
    refine own_iload (n := 556) XB hx (hb hby at_554) rfl rfl ?_
    by_cases c556 : y < kS
    · refine own_icmpYes (n := 572) XB hx (hb hby at_556) (Jvm.Free.XT.ii_lt_t c556) (by decide) (by decide) ?_
      refine own_iload (n := 574) XB hx (hb hby at_572) rfl rfl ?_
      refine own_istore (n := 576) XB hx (hb hby at_574) (l' := #[.val (.int p1), .val (.int p2), .val (.int p3), .val (.int p4), .val (.int f), .val (.int r), .val (.int f2), .val (.int r2), .val (.int sv), .val (.int x), .val (.int re), .val (.int rt), .val (.int y), .val (.ref b), .val (.int 1), .val (.int sv), .val (.int t0), .val (.int fl), .val (.int s1), .val (.int run), .val (.int t1), .val (.int kS), .val (.int s1)]) rfl rfl ?_
      show Ends p e below (EF s 16 128) (Q0 Z p1 p2 p3 p4  h0 n0) (TB.setTop (mkF m 576 #[.val (.int p1), .val (.int p2), .val (.int p3), .val (.int p4), .val (.int f), .val (.int r), .val (.int f2), .val (.int r2), .val (.int sv), .val (.int x), .val (.int re), .val (.int rt), .val (.int y), .val (.ref b), .val (.int 1), .val (.int sv), .val (.int t0), .val (.int fl), .val (.int s1), .val (.int run), .val (.int t1), .val (.int kS), .val (.int s1)] []))
      rw [Int32.lt_iff_toInt_lt] at c556
      have e1 := (hi.1 c556).1
      rw [e1] at FB
      exact blk576 _ _ _ f r f2 r2 sv x re rt y b t0 fl s1 run t1 kS F R s1 g XB eB NB ZB nb FB hs1
    · refine own_icmpNo (n := 559) XB hx (hb hby at_556) (Jvm.Free.XT.ii_lt_f c556) rfl ?_
      refine own_iload (n := 561) XB hx (hb hby at_559) rfl rfl ?_
      by_cases c561 : s1 = 0
      · refine own_ifNo (n := 564) XB hx (hb hby at_561) (Jvm.Free.XT.i0_ne_f c561) rfl ?_
        refine own_iconst (n := 565) XB hx (1 : Int32) (hb hby at_564) rfl rfl ?_
        refine own_goto (n := 574) XB hx (hb hby at_565) (by decide) (by decide) ?_
        refine own_istore (n := 576) XB hx (hb hby at_574) (l' := #[.val (.int p1), .val (.int p2), .val (.int p3), .val (.int p4), .val (.int f), .val (.int r), .val (.int f2), .val (.int r2), .val (.int sv), .val (.int x), .val (.int re), .val (.int rt), .val (.int y), .val (.ref b), .val (.int 1), .val (.int sv), .val (.int t0), .val (.int fl), .val (.int s1), .val (.int run), .val (.int t1), .val (.int kS), .val (.int (1 : Int32))]) rfl rfl ?_
        show Ends p e below (EF s 16 128) (Q0 Z p1 p2 p3 p4  h0 n0) (TB.setTop (mkF m 576 #[.val (.int p1), .val (.int p2), .val (.int p3), .val (.int p4), .val (.int f), .val (.int r), .val (.int f2), .val (.int r2), .val (.int sv), .val (.int x), .val (.int re), .val (.int rt), .val (.int y), .val (.ref b), .val (.int 1), .val (.int sv), .val (.int t0), .val (.int fl), .val (.int s1), .val (.int run), .val (.int t1), .val (.int kS), .val (.int (1 : Int32))] []))
        rw [Int32.lt_iff_toInt_lt] at c556
        have e1 := (hi.2 (by omega)).1
        rw [show neg s1 = (1 : Int32) from by simp [neg, c561]] at e1
        subst e1
        exact blk576 _ _ _ f r f2 r2 sv x re rt y b t0 fl s1 run t1 kS F R (1 : Int32) g XB eB NB ZB nb FB (Or.inr rfl)
      · refine own_ifYes (n := 568) XB hx (hb hby at_561) (Jvm.Free.XT.i0_ne_t c561) (by decide) (by decide) ?_
        refine own_iconst (n := 569) XB hx (0 : Int32) (hb hby at_568) rfl rfl ?_
        refine own_goto (n := 574) XB hx (hb hby at_569) (by decide) (by decide) ?_
        refine own_istore (n := 576) XB hx (hb hby at_574) (l' := #[.val (.int p1), .val (.int p2), .val (.int p3), .val (.int p4), .val (.int f), .val (.int r), .val (.int f2), .val (.int r2), .val (.int sv), .val (.int x), .val (.int re), .val (.int rt), .val (.int y), .val (.ref b), .val (.int 1), .val (.int sv), .val (.int t0), .val (.int fl), .val (.int s1), .val (.int run), .val (.int t1), .val (.int kS), .val (.int (0 : Int32))]) rfl rfl ?_
        show Ends p e below (EF s 16 128) (Q0 Z p1 p2 p3 p4  h0 n0) (TB.setTop (mkF m 576 #[.val (.int p1), .val (.int p2), .val (.int p3), .val (.int p4), .val (.int f), .val (.int r), .val (.int f2), .val (.int r2), .val (.int sv), .val (.int x), .val (.int re), .val (.int rt), .val (.int y), .val (.ref b), .val (.int 1), .val (.int sv), .val (.int t0), .val (.int fl), .val (.int s1), .val (.int run), .val (.int t1), .val (.int kS), .val (.int (0 : Int32))] []))
        rw [Int32.lt_iff_toInt_lt] at c556
        have e1 := (hi.2 (by omega)).1
        rw [show neg s1 = (0 : Int32) from by simp [neg, c561]] at e1
        subst e1
        exact blk576 _ _ _ f r f2 r2 sv x re rt y b t0 fl s1 run t1 kS F R (0 : Int32) g XB eB NB ZB nb FB (Or.inl rfl)
  have blk507 : ∀ (TB : State) (hB : Heap) (lB : List Loc) (f : Int32) (r : Int32) (f2 : Int32) (r2 : Int32) (sv : Int32) (x : Int32) (re : Int32) (rt : Int32) (y : Int32) (b : Addr) (t0 : Int32) (fl : Int32) (s1 : Int32) (run : Int32) (t1 : Int32) (kS : Int32) (F : Int32) (R : Int32) (u : Int32) (g : Int32) (j : Int) (XB : Stand p l e room_1 s m #[(.int p1), (.int p2), (.int p3), (.int p4)] below meth c TB lB (0 + 1) (0 + 5)) (eB : TB.heap = hB) (NB : Fr n0 lB) (ZB : n0 ≤ hB.size) (nb : n0 ≤ b) (hs1 : s1 = 0 ∨ s1 = 1) (ht0 : s1 = 0 → t1 = R) (ht1 : ¬ s1 = 0 → t1 = F) (hk1 : 1 ≤ kS.toInt) (hk2 : kS.toInt = 1 ∨ kS.toInt = t1.toInt - run.toInt) (hk3 : t1.toInt - run.toInt ≤ kS.toInt) (hrun : 0 ≤ run.toInt ∧ run.toInt ≤ 3) (hy_ : 0 ≤ y.toInt ∧ y.toInt ≤ 3) (FB : HP Z hB b F R 1 u g) (hi : INV s1 run.toInt kS.toInt j u g) (hj : (y.toInt < 2 → j = y.toInt) ∧ (2 ≤ y.toInt → j = 2)), Ends p e below (EF s 16 128) (Q0 Z p1 p2 p3 p4  h0 n0) (TB.setTop (mkF m 507 #[.val (.int p1), .val (.int p2), .val (.int p3), .val (.int p4), .val (.int f), .val (.int r), .val (.int f2), .val (.int r2), .val (.int sv), .val (.int x), .val (.int re), .val (.int rt), .val (.int y), .val (.ref b), .val (.int 1), .val (.int sv), .val (.int t0), .val (.int fl), .val (.int s1), .val (.int run), .val (.int t1), .val (.int kS), .unset] [])) := by
    intro TB hB lB f r f2 r2 sv x re rt y b t0 fl s1 run t1 kS F R u g j XB eB NB ZB nb hs1 ht0 ht1 hk1 hk2 hk3 hrun hy_ FB hi hj
    refine own_iload (n := 509) XB hx (hb hby at_507) rfl rfl ?_
    refine own_iconst (n := 510) XB hx (3 : Int32) (hb hby at_509) rfl rfl ?_
    by_cases c510 : y < (3 : Int32)
    · refine own_icmpYes (n := 552) XB hx (hb hby at_510) (Jvm.Free.XT.ii_lt_t c510) (by decide) (by decide) ?_
      show Ends p e below (EF s 16 128) (Q0 Z p1 p2 p3 p4  h0 n0) (TB.setTop (mkF m 552 #[.val (.int p1), .val (.int p2), .val (.int p3), .val (.int p4), .val (.int f), .val (.int r), .val (.int f2), .val (.int r2), .val (.int sv), .val (.int x), .val (.int re), .val (.int rt), .val (.int y), .val (.ref b), .val (.int 1), .val (.int sv), .val (.int t0), .val (.int fl), .val (.int s1), .val (.int run), .val (.int t1), .val (.int kS), .unset] []))
      rw [Int32.lt_iff_toInt_lt] at c510
      have hjy : j = y.toInt := by omega
      exact blk552 _ _ _ f r f2 r2 sv x re rt y b t0 fl s1 run t1 kS F R u g XB eB NB ZB nb hs1 ht0 ht1 hk1 hk2 hk3 hrun hy_ FB (hjy ▸ hi)
    · refine own_icmpNo (n := 513) XB hx (hb hby at_510) (Jvm.Free.XT.ii_lt_f c510) rfl ?_
      refine own_iload (n := 515) XB hx (hb hby at_513) rfl rfl ?_
      refine own_aload (n := 517) XB hx (hb hby at_515) rfl rfl rfl ?_
      refine own_iload (n := 519) XB hx (hb hby at_517) rfl rfl ?_
      by_cases c519 : s1 = 0
      · refine own_ifNo (n := 522) XB hx (hb hby at_519) (Jvm.Free.XT.i0_ne_f c519) rfl ?_
        refine own_iconst (n := 523) XB hx (1 : Int32) (hb hby at_522) rfl rfl ?_
        refine own_goto (n := 527) XB hx (hb hby at_523) (by decide) (by decide) ?_
        refine own_callV (n := 530) XB hx hZ hown (hw _ (List.mem_of_getElem? (i := 15) rfl)) (hw _ (List.mem_of_getElem? (i := 16) rfl)) (hw _ (List.mem_of_getElem? (i := 18) rfl)) (hw _ (List.mem_of_getElem? (i := 17) rfl)) (hw _ (List.mem_of_getElem? (i := 2) rfl)) (hw _ (List.mem_of_getElem? (i := 19) rfl)) (by decide) eB FB.1 (rm3 l Z a0 hw [] b (1 : Int32) F R (1) u g hB n0 ZB FB nb (by decide)) (W := 1) (by decide) (by decide) (by decide) (by decide) (by rw [hml]; rfl) (argsL := [(.int (1 : Int32))]) (rest := [(.int 1)]) pd_3 rfl (by rfl) (Nat.le_of_eq rfl) (hb hby at_527) rfl rfl ?_
        intro v2 T2 h2 L2 X2 e2 q2
        obtain ⟨rv2, u2, g2, re2, rfl, M2, K2, F2⟩ := q2
        have N2 := Fr.app NB M2
        have Z2 : n0 ≤ h2.size := Nat.le_trans ZB K2.1
        rw [Int32.lt_iff_toInt_lt] at c510
        have sp2 := own_step (s := s1) (t := t1) (run := run.toInt) (k := kS.toInt) (j := j) hs1 ht0 ht1 hk1 hk2 hk3 hrun.1 (by omega) (by omega) (by omega) (q := (1 : Int32)) (by simp [neg, c519]) hi re2
        refine own_iload (n := 532) X2 hx (hb hby at_530) rfl rfl ?_
        refine own_iconst (n := 533) X2 hx (3 : Int32) (hb hby at_532) rfl rfl ?_
        by_cases c533 : kS = (3 : Int32)
        · refine own_icmpNo (n := 536) X2 hx (hb hby at_533) (Jvm.Free.XT.ii_ne_f c533) rfl ?_
          refine own_iconst (n := 537) X2 hx (1 : Int32) (hb hby at_536) rfl rfl ?_
          refine own_goto (n := 541) X2 hx (hb hby at_537) (by decide) (by decide) ?_
          refine own_icmpNo (n := 544) X2 hx (hb hby at_541) (Jvm.Free.XT.ii_ne_f (sp2.2.1 (by rw [c533]; omega))) rfl ?_
          refine own_iconst (n := 545) X2 hx (1 : Int32) (hb hby at_544) rfl rfl ?_
          refine own_goto (n := 549) X2 hx (hb hby at_545) (by decide) (by decide) ?_
          refine own_iand (n := 550) X2 hx (hb hby at_549) rfl ?_
          refine own_istore (n := 552) X2 hx (hb hby at_550) (l' := #[.val (.int p1), .val (.int p2), .val (.int p3), .val (.int p4), .val (.int f), .val (.int r), .val (.int f2), .val (.int r2), .val (.int sv), .val (.int x), .val (.int re), .val (.int rt), .val (.int y), .val (.ref b), .val (.int (1 &&& (1 : Int32))), .val (.int sv), .val (.int t0), .val (.int fl), .val (.int s1), .val (.int run), .val (.int t1), .val (.int kS), .unset]) rfl rfl ?_
          show Ends p e below (EF s 16 128) (Q0 Z p1 p2 p3 p4  h0 n0) (T2.setTop (mkF m 552 #[.val (.int p1), .val (.int p2), .val (.int p3), .val (.int p4), .val (.int f), .val (.int r), .val (.int f2), .val (.int r2), .val (.int sv), .val (.int x), .val (.int re), .val (.int rt), .val (.int y), .val (.ref b), .val (.int (1 &&& (1 : Int32))), .val (.int sv), .val (.int t0), .val (.int fl), .val (.int s1), .val (.int run), .val (.int t1), .val (.int kS), .unset] []))
          have hjy : (j + 1) = y.toInt := by omega
          exact blk552 _ _ _ f r f2 r2 sv x re rt y b t0 fl s1 run t1 kS F R u2 g2 X2 e2 N2 Z2 nb hs1 ht0 ht1 hk1 hk2 hk3 hrun hy_ F2 (hjy ▸ sp2.1)
        · refine own_icmpYes (n := 540) X2 hx (hb hby at_533) (Jvm.Free.XT.ii_ne_t c533) (by decide) (by decide) ?_
          refine own_iconst (n := 541) X2 hx (0 : Int32) (hb hby at_540) rfl rfl ?_
          refine own_icmpNo (n := 544) X2 hx (hb hby at_541) (Jvm.Free.XT.ii_ne_f (sp2.2.2 (fun z => c533 (own_inj (by omega))))) rfl ?_
          refine own_iconst (n := 545) X2 hx (1 : Int32) (hb hby at_544) rfl rfl ?_
          refine own_goto (n := 549) X2 hx (hb hby at_545) (by decide) (by decide) ?_
          refine own_iand (n := 550) X2 hx (hb hby at_549) rfl ?_
          refine own_istore (n := 552) X2 hx (hb hby at_550) (l' := #[.val (.int p1), .val (.int p2), .val (.int p3), .val (.int p4), .val (.int f), .val (.int r), .val (.int f2), .val (.int r2), .val (.int sv), .val (.int x), .val (.int re), .val (.int rt), .val (.int y), .val (.ref b), .val (.int (1 &&& (1 : Int32))), .val (.int sv), .val (.int t0), .val (.int fl), .val (.int s1), .val (.int run), .val (.int t1), .val (.int kS), .unset]) rfl rfl ?_
          show Ends p e below (EF s 16 128) (Q0 Z p1 p2 p3 p4  h0 n0) (T2.setTop (mkF m 552 #[.val (.int p1), .val (.int p2), .val (.int p3), .val (.int p4), .val (.int f), .val (.int r), .val (.int f2), .val (.int r2), .val (.int sv), .val (.int x), .val (.int re), .val (.int rt), .val (.int y), .val (.ref b), .val (.int (1 &&& (1 : Int32))), .val (.int sv), .val (.int t0), .val (.int fl), .val (.int s1), .val (.int run), .val (.int t1), .val (.int kS), .unset] []))
          have hjy : (j + 1) = y.toInt := by omega
          exact blk552 _ _ _ f r f2 r2 sv x re rt y b t0 fl s1 run t1 kS F R u2 g2 X2 e2 N2 Z2 nb hs1 ht0 ht1 hk1 hk2 hk3 hrun hy_ F2 (hjy ▸ sp2.1)
      · refine own_ifYes (n := 526) XB hx (hb hby at_519) (Jvm.Free.XT.i0_ne_t c519) (by decide) (by decide) ?_
        refine own_iconst (n := 527) XB hx (0 : Int32) (hb hby at_526) rfl rfl ?_
        refine own_callV (n := 530) XB hx hZ hown (hw _ (List.mem_of_getElem? (i := 15) rfl)) (hw _ (List.mem_of_getElem? (i := 16) rfl)) (hw _ (List.mem_of_getElem? (i := 18) rfl)) (hw _ (List.mem_of_getElem? (i := 17) rfl)) (hw _ (List.mem_of_getElem? (i := 2) rfl)) (hw _ (List.mem_of_getElem? (i := 19) rfl)) (by decide) eB FB.1 (rm3 l Z a0 hw [] b (0 : Int32) F R (1) u g hB n0 ZB FB nb (by decide)) (W := 1) (by decide) (by decide) (by decide) (by decide) (by rw [hml]; rfl) (argsL := [(.int (0 : Int32))]) (rest := [(.int 1)]) pd_3 rfl (by rfl) (Nat.le_of_eq rfl) (hb hby at_527) rfl rfl ?_
        intro v3 T3 h3 L3 X3 e3 q3
        obtain ⟨rv3, u3, g3, re3, rfl, M3, K3, F3⟩ := q3
        have N3 := Fr.app NB M3
        have Z3 : n0 ≤ h3.size := Nat.le_trans ZB K3.1
        rw [Int32.lt_iff_toInt_lt] at c510
        have sp3 := own_step (s := s1) (t := t1) (run := run.toInt) (k := kS.toInt) (j := j) hs1 ht0 ht1 hk1 hk2 hk3 hrun.1 (by omega) (by omega) (by omega) (q := (0 : Int32)) (by simp [neg, c519]) hi re3
        refine own_iload (n := 532) X3 hx (hb hby at_530) rfl rfl ?_
        refine own_iconst (n := 533) X3 hx (3 : Int32) (hb hby at_532) rfl rfl ?_
        by_cases c533 : kS = (3 : Int32)
        · refine own_icmpNo (n := 536) X3 hx (hb hby at_533) (Jvm.Free.XT.ii_ne_f c533) rfl ?_
          refine own_iconst (n := 537) X3 hx (1 : Int32) (hb hby at_536) rfl rfl ?_
          refine own_goto (n := 541) X3 hx (hb hby at_537) (by decide) (by decide) ?_
          refine own_icmpNo (n := 544) X3 hx (hb hby at_541) (Jvm.Free.XT.ii_ne_f (sp3.2.1 (by rw [c533]; omega))) rfl ?_
          refine own_iconst (n := 545) X3 hx (1 : Int32) (hb hby at_544) rfl rfl ?_
          refine own_goto (n := 549) X3 hx (hb hby at_545) (by decide) (by decide) ?_
          refine own_iand (n := 550) X3 hx (hb hby at_549) rfl ?_
          refine own_istore (n := 552) X3 hx (hb hby at_550) (l' := #[.val (.int p1), .val (.int p2), .val (.int p3), .val (.int p4), .val (.int f), .val (.int r), .val (.int f2), .val (.int r2), .val (.int sv), .val (.int x), .val (.int re), .val (.int rt), .val (.int y), .val (.ref b), .val (.int (1 &&& (1 : Int32))), .val (.int sv), .val (.int t0), .val (.int fl), .val (.int s1), .val (.int run), .val (.int t1), .val (.int kS), .unset]) rfl rfl ?_
          show Ends p e below (EF s 16 128) (Q0 Z p1 p2 p3 p4  h0 n0) (T3.setTop (mkF m 552 #[.val (.int p1), .val (.int p2), .val (.int p3), .val (.int p4), .val (.int f), .val (.int r), .val (.int f2), .val (.int r2), .val (.int sv), .val (.int x), .val (.int re), .val (.int rt), .val (.int y), .val (.ref b), .val (.int (1 &&& (1 : Int32))), .val (.int sv), .val (.int t0), .val (.int fl), .val (.int s1), .val (.int run), .val (.int t1), .val (.int kS), .unset] []))
          have hjy : (j + 1) = y.toInt := by omega
          exact blk552 _ _ _ f r f2 r2 sv x re rt y b t0 fl s1 run t1 kS F R u3 g3 X3 e3 N3 Z3 nb hs1 ht0 ht1 hk1 hk2 hk3 hrun hy_ F3 (hjy ▸ sp3.1)
        · refine own_icmpYes (n := 540) X3 hx (hb hby at_533) (Jvm.Free.XT.ii_ne_t c533) (by decide) (by decide) ?_
          refine own_iconst (n := 541) X3 hx (0 : Int32) (hb hby at_540) rfl rfl ?_
          refine own_icmpNo (n := 544) X3 hx (hb hby at_541) (Jvm.Free.XT.ii_ne_f (sp3.2.2 (fun z => c533 (own_inj (by omega))))) rfl ?_
          refine own_iconst (n := 545) X3 hx (1 : Int32) (hb hby at_544) rfl rfl ?_
          refine own_goto (n := 549) X3 hx (hb hby at_545) (by decide) (by decide) ?_
          refine own_iand (n := 550) X3 hx (hb hby at_549) rfl ?_
          refine own_istore (n := 552) X3 hx (hb hby at_550) (l' := #[.val (.int p1), .val (.int p2), .val (.int p3), .val (.int p4), .val (.int f), .val (.int r), .val (.int f2), .val (.int r2), .val (.int sv), .val (.int x), .val (.int re), .val (.int rt), .val (.int y), .val (.ref b), .val (.int (1 &&& (1 : Int32))), .val (.int sv), .val (.int t0), .val (.int fl), .val (.int s1), .val (.int run), .val (.int t1), .val (.int kS), .unset]) rfl rfl ?_
          show Ends p e below (EF s 16 128) (Q0 Z p1 p2 p3 p4  h0 n0) (T3.setTop (mkF m 552 #[.val (.int p1), .val (.int p2), .val (.int p3), .val (.int p4), .val (.int f), .val (.int r), .val (.int f2), .val (.int r2), .val (.int sv), .val (.int x), .val (.int re), .val (.int rt), .val (.int y), .val (.ref b), .val (.int (1 &&& (1 : Int32))), .val (.int sv), .val (.int t0), .val (.int fl), .val (.int s1), .val (.int run), .val (.int t1), .val (.int kS), .unset] []))
          have hjy : (j + 1) = y.toInt := by omega
          exact blk552 _ _ _ f r f2 r2 sv x re rt y b t0 fl s1 run t1 kS F R u3 g3 X3 e3 N3 Z3 nb hs1 ht0 ht1 hk1 hk2 hk3 hrun hy_ F3 (hjy ▸ sp3.1)
  have blk462 : ∀ (TB : State) (hB : Heap) (lB : List Loc) (f : Int32) (r : Int32) (f2 : Int32) (r2 : Int32) (sv : Int32) (x : Int32) (re : Int32) (rt : Int32) (y : Int32) (b : Addr) (t0 : Int32) (fl : Int32) (s1 : Int32) (run : Int32) (t1 : Int32) (kS : Int32) (F : Int32) (R : Int32) (u : Int32) (g : Int32) (j : Int) (XB : Stand p l e room_1 s m #[(.int p1), (.int p2), (.int p3), (.int p4)] below meth c TB lB (0 + 1) (0 + 5)) (eB : TB.heap = hB) (NB : Fr n0 lB) (ZB : n0 ≤ hB.size) (nb : n0 ≤ b) (hs1 : s1 = 0 ∨ s1 = 1) (ht0 : s1 = 0 → t1 = R) (ht1 : ¬ s1 = 0 → t1 = F) (hk1 : 1 ≤ kS.toInt) (hk2 : kS.toInt = 1 ∨ kS.toInt = t1.toInt - run.toInt) (hk3 : t1.toInt - run.toInt ≤ kS.toInt) (hrun : 0 ≤ run.toInt ∧ run.toInt ≤ 3) (hy_ : 0 ≤ y.toInt ∧ y.toInt ≤ 3) (FB : HP Z hB b F R 1 u g) (hi : INV s1 run.toInt kS.toInt j u g) (hj : (y.toInt < 1 → j = y.toInt) ∧ (1 ≤ y.toInt → j = 1)), Ends p e below (EF s 16 128) (Q0 Z p1 p2 p3 p4  h0 n0) (TB.setTop (mkF m 462 #[.val (.int p1), .val (.int p2), .val (.int p3), .val (.int p4), .val (.int f), .val (.int r), .val (.int f2), .val (.int r2), .val (.int sv), .val (.int x), .val (.int re), .val (.int rt), .val (.int y), .val (.ref b), .val (.int 1), .val (.int sv), .val (.int t0), .val (.int fl), .val (.int s1), .val (.int run), .val (.int t1), .val (.int kS), .unset] [])) := by
    intro TB hB lB f r f2 r2 sv x re rt y b t0 fl s1 run t1 kS F R u g j XB eB NB ZB nb hs1 ht0 ht1 hk1 hk2 hk3 hrun hy_ FB hi hj
    refine own_iload (n := 464) XB hx (hb hby at_462) rfl rfl ?_
    refine own_iconst (n := 465) XB hx (2 : Int32) (hb hby at_464) rfl rfl ?_
    by_cases c465 : y < (2 : Int32)
    · refine own_icmpYes (n := 507) XB hx (hb hby at_465) (Jvm.Free.XT.ii_lt_t c465) (by decide) (by decide) ?_
      show Ends p e below (EF s 16 128) (Q0 Z p1 p2 p3 p4  h0 n0) (TB.setTop (mkF m 507 #[.val (.int p1), .val (.int p2), .val (.int p3), .val (.int p4), .val (.int f), .val (.int r), .val (.int f2), .val (.int r2), .val (.int sv), .val (.int x), .val (.int re), .val (.int rt), .val (.int y), .val (.ref b), .val (.int 1), .val (.int sv), .val (.int t0), .val (.int fl), .val (.int s1), .val (.int run), .val (.int t1), .val (.int kS), .unset] []))
      rw [Int32.lt_iff_toInt_lt] at c465
      exact blk507 _ _ _ f r f2 r2 sv x re rt y b t0 fl s1 run t1 kS F R u g j XB eB NB ZB nb hs1 ht0 ht1 hk1 hk2 hk3 hrun hy_ FB hi (by omega)
    · refine own_icmpNo (n := 468) XB hx (hb hby at_465) (Jvm.Free.XT.ii_lt_f c465) rfl ?_
      refine own_iload (n := 470) XB hx (hb hby at_468) rfl rfl ?_
      refine own_aload (n := 472) XB hx (hb hby at_470) rfl rfl rfl ?_
      refine own_iload (n := 474) XB hx (hb hby at_472) rfl rfl ?_
      by_cases c474 : s1 = 0
      · refine own_ifNo (n := 477) XB hx (hb hby at_474) (Jvm.Free.XT.i0_ne_f c474) rfl ?_
        refine own_iconst (n := 478) XB hx (1 : Int32) (hb hby at_477) rfl rfl ?_
        refine own_goto (n := 482) XB hx (hb hby at_478) (by decide) (by decide) ?_
        refine own_callV (n := 485) XB hx hZ hown (hw _ (List.mem_of_getElem? (i := 15) rfl)) (hw _ (List.mem_of_getElem? (i := 16) rfl)) (hw _ (List.mem_of_getElem? (i := 18) rfl)) (hw _ (List.mem_of_getElem? (i := 17) rfl)) (hw _ (List.mem_of_getElem? (i := 2) rfl)) (hw _ (List.mem_of_getElem? (i := 19) rfl)) (by decide) eB FB.1 (rm3 l Z a0 hw [] b (1 : Int32) F R (1) u g hB n0 ZB FB nb (by decide)) (W := 1) (by decide) (by decide) (by decide) (by decide) (by rw [hml]; rfl) (argsL := [(.int (1 : Int32))]) (rest := [(.int 1)]) pd_3 rfl (by rfl) (Nat.le_of_eq rfl) (hb hby at_482) rfl rfl ?_
        intro v4 T4 h4 L4 X4 e4 q4
        obtain ⟨rv4, u4, g4, re4, rfl, M4, K4, F4⟩ := q4
        have N4 := Fr.app NB M4
        have Z4 : n0 ≤ h4.size := Nat.le_trans ZB K4.1
        rw [Int32.lt_iff_toInt_lt] at c465
        have sp4 := own_step (s := s1) (t := t1) (run := run.toInt) (k := kS.toInt) (j := j) hs1 ht0 ht1 hk1 hk2 hk3 hrun.1 (by omega) (by omega) (by omega) (q := (1 : Int32)) (by simp [neg, c474]) hi re4
        refine own_iload (n := 487) X4 hx (hb hby at_485) rfl rfl ?_
        refine own_iconst (n := 488) X4 hx (2 : Int32) (hb hby at_487) rfl rfl ?_
        by_cases c488 : kS = (2 : Int32)
        · refine own_icmpNo (n := 491) X4 hx (hb hby at_488) (Jvm.Free.XT.ii_ne_f c488) rfl ?_
          refine own_iconst (n := 492) X4 hx (1 : Int32) (hb hby at_491) rfl rfl ?_
          refine own_goto (n := 496) X4 hx (hb hby at_492) (by decide) (by decide) ?_
          refine own_icmpNo (n := 499) X4 hx (hb hby at_496) (Jvm.Free.XT.ii_ne_f (sp4.2.1 (by rw [c488]; omega))) rfl ?_
          refine own_iconst (n := 500) X4 hx (1 : Int32) (hb hby at_499) rfl rfl ?_
          refine own_goto (n := 504) X4 hx (hb hby at_500) (by decide) (by decide) ?_
          refine own_iand (n := 505) X4 hx (hb hby at_504) rfl ?_
          refine own_istore (n := 507) X4 hx (hb hby at_505) (l' := #[.val (.int p1), .val (.int p2), .val (.int p3), .val (.int p4), .val (.int f), .val (.int r), .val (.int f2), .val (.int r2), .val (.int sv), .val (.int x), .val (.int re), .val (.int rt), .val (.int y), .val (.ref b), .val (.int (1 &&& (1 : Int32))), .val (.int sv), .val (.int t0), .val (.int fl), .val (.int s1), .val (.int run), .val (.int t1), .val (.int kS), .unset]) rfl rfl ?_
          show Ends p e below (EF s 16 128) (Q0 Z p1 p2 p3 p4  h0 n0) (T4.setTop (mkF m 507 #[.val (.int p1), .val (.int p2), .val (.int p3), .val (.int p4), .val (.int f), .val (.int r), .val (.int f2), .val (.int r2), .val (.int sv), .val (.int x), .val (.int re), .val (.int rt), .val (.int y), .val (.ref b), .val (.int (1 &&& (1 : Int32))), .val (.int sv), .val (.int t0), .val (.int fl), .val (.int s1), .val (.int run), .val (.int t1), .val (.int kS), .unset] []))
          exact blk507 _ _ _ f r f2 r2 sv x re rt y b t0 fl s1 run t1 kS F R u4 g4 (j + 1) X4 e4 N4 Z4 nb hs1 ht0 ht1 hk1 hk2 hk3 hrun hy_ F4 sp4.1 (by omega)
        · refine own_icmpYes (n := 495) X4 hx (hb hby at_488) (Jvm.Free.XT.ii_ne_t c488) (by decide) (by decide) ?_
          refine own_iconst (n := 496) X4 hx (0 : Int32) (hb hby at_495) rfl rfl ?_
          refine own_icmpNo (n := 499) X4 hx (hb hby at_496) (Jvm.Free.XT.ii_ne_f (sp4.2.2 (fun z => c488 (own_inj (by omega))))) rfl ?_
          refine own_iconst (n := 500) X4 hx (1 : Int32) (hb hby at_499) rfl rfl ?_
          refine own_goto (n := 504) X4 hx (hb hby at_500) (by decide) (by decide) ?_
          refine own_iand (n := 505) X4 hx (hb hby at_504) rfl ?_
          refine own_istore (n := 507) X4 hx (hb hby at_505) (l' := #[.val (.int p1), .val (.int p2), .val (.int p3), .val (.int p4), .val (.int f), .val (.int r), .val (.int f2), .val (.int r2), .val (.int sv), .val (.int x), .val (.int re), .val (.int rt), .val (.int y), .val (.ref b), .val (.int (1 &&& (1 : Int32))), .val (.int sv), .val (.int t0), .val (.int fl), .val (.int s1), .val (.int run), .val (.int t1), .val (.int kS), .unset]) rfl rfl ?_
          show Ends p e below (EF s 16 128) (Q0 Z p1 p2 p3 p4  h0 n0) (T4.setTop (mkF m 507 #[.val (.int p1), .val (.int p2), .val (.int p3), .val (.int p4), .val (.int f), .val (.int r), .val (.int f2), .val (.int r2), .val (.int sv), .val (.int x), .val (.int re), .val (.int rt), .val (.int y), .val (.ref b), .val (.int (1 &&& (1 : Int32))), .val (.int sv), .val (.int t0), .val (.int fl), .val (.int s1), .val (.int run), .val (.int t1), .val (.int kS), .unset] []))
          exact blk507 _ _ _ f r f2 r2 sv x re rt y b t0 fl s1 run t1 kS F R u4 g4 (j + 1) X4 e4 N4 Z4 nb hs1 ht0 ht1 hk1 hk2 hk3 hrun hy_ F4 sp4.1 (by omega)
      · refine own_ifYes (n := 481) XB hx (hb hby at_474) (Jvm.Free.XT.i0_ne_t c474) (by decide) (by decide) ?_
        refine own_iconst (n := 482) XB hx (0 : Int32) (hb hby at_481) rfl rfl ?_
        refine own_callV (n := 485) XB hx hZ hown (hw _ (List.mem_of_getElem? (i := 15) rfl)) (hw _ (List.mem_of_getElem? (i := 16) rfl)) (hw _ (List.mem_of_getElem? (i := 18) rfl)) (hw _ (List.mem_of_getElem? (i := 17) rfl)) (hw _ (List.mem_of_getElem? (i := 2) rfl)) (hw _ (List.mem_of_getElem? (i := 19) rfl)) (by decide) eB FB.1 (rm3 l Z a0 hw [] b (0 : Int32) F R (1) u g hB n0 ZB FB nb (by decide)) (W := 1) (by decide) (by decide) (by decide) (by decide) (by rw [hml]; rfl) (argsL := [(.int (0 : Int32))]) (rest := [(.int 1)]) pd_3 rfl (by rfl) (Nat.le_of_eq rfl) (hb hby at_482) rfl rfl ?_
        intro v5 T5 h5 L5 X5 e5 q5
        obtain ⟨rv5, u5, g5, re5, rfl, M5, K5, F5⟩ := q5
        have N5 := Fr.app NB M5
        have Z5 : n0 ≤ h5.size := Nat.le_trans ZB K5.1
        rw [Int32.lt_iff_toInt_lt] at c465
        have sp5 := own_step (s := s1) (t := t1) (run := run.toInt) (k := kS.toInt) (j := j) hs1 ht0 ht1 hk1 hk2 hk3 hrun.1 (by omega) (by omega) (by omega) (q := (0 : Int32)) (by simp [neg, c474]) hi re5
        refine own_iload (n := 487) X5 hx (hb hby at_485) rfl rfl ?_
        refine own_iconst (n := 488) X5 hx (2 : Int32) (hb hby at_487) rfl rfl ?_
        by_cases c488 : kS = (2 : Int32)
        · refine own_icmpNo (n := 491) X5 hx (hb hby at_488) (Jvm.Free.XT.ii_ne_f c488) rfl ?_
          refine own_iconst (n := 492) X5 hx (1 : Int32) (hb hby at_491) rfl rfl ?_
          refine own_goto (n := 496) X5 hx (hb hby at_492) (by decide) (by decide) ?_
          refine own_icmpNo (n := 499) X5 hx (hb hby at_496) (Jvm.Free.XT.ii_ne_f (sp5.2.1 (by rw [c488]; omega))) rfl ?_
          refine own_iconst (n := 500) X5 hx (1 : Int32) (hb hby at_499) rfl rfl ?_
          refine own_goto (n := 504) X5 hx (hb hby at_500) (by decide) (by decide) ?_
          refine own_iand (n := 505) X5 hx (hb hby at_504) rfl ?_
          refine own_istore (n := 507) X5 hx (hb hby at_505) (l' := #[.val (.int p1), .val (.int p2), .val (.int p3), .val (.int p4), .val (.int f), .val (.int r), .val (.int f2), .val (.int r2), .val (.int sv), .val (.int x), .val (.int re), .val (.int rt), .val (.int y), .val (.ref b), .val (.int (1 &&& (1 : Int32))), .val (.int sv), .val (.int t0), .val (.int fl), .val (.int s1), .val (.int run), .val (.int t1), .val (.int kS), .unset]) rfl rfl ?_
          show Ends p e below (EF s 16 128) (Q0 Z p1 p2 p3 p4  h0 n0) (T5.setTop (mkF m 507 #[.val (.int p1), .val (.int p2), .val (.int p3), .val (.int p4), .val (.int f), .val (.int r), .val (.int f2), .val (.int r2), .val (.int sv), .val (.int x), .val (.int re), .val (.int rt), .val (.int y), .val (.ref b), .val (.int (1 &&& (1 : Int32))), .val (.int sv), .val (.int t0), .val (.int fl), .val (.int s1), .val (.int run), .val (.int t1), .val (.int kS), .unset] []))
          exact blk507 _ _ _ f r f2 r2 sv x re rt y b t0 fl s1 run t1 kS F R u5 g5 (j + 1) X5 e5 N5 Z5 nb hs1 ht0 ht1 hk1 hk2 hk3 hrun hy_ F5 sp5.1 (by omega)
        · refine own_icmpYes (n := 495) X5 hx (hb hby at_488) (Jvm.Free.XT.ii_ne_t c488) (by decide) (by decide) ?_
          refine own_iconst (n := 496) X5 hx (0 : Int32) (hb hby at_495) rfl rfl ?_
          refine own_icmpNo (n := 499) X5 hx (hb hby at_496) (Jvm.Free.XT.ii_ne_f (sp5.2.2 (fun z => c488 (own_inj (by omega))))) rfl ?_
          refine own_iconst (n := 500) X5 hx (1 : Int32) (hb hby at_499) rfl rfl ?_
          refine own_goto (n := 504) X5 hx (hb hby at_500) (by decide) (by decide) ?_
          refine own_iand (n := 505) X5 hx (hb hby at_504) rfl ?_
          refine own_istore (n := 507) X5 hx (hb hby at_505) (l' := #[.val (.int p1), .val (.int p2), .val (.int p3), .val (.int p4), .val (.int f), .val (.int r), .val (.int f2), .val (.int r2), .val (.int sv), .val (.int x), .val (.int re), .val (.int rt), .val (.int y), .val (.ref b), .val (.int (1 &&& (1 : Int32))), .val (.int sv), .val (.int t0), .val (.int fl), .val (.int s1), .val (.int run), .val (.int t1), .val (.int kS), .unset]) rfl rfl ?_
          show Ends p e below (EF s 16 128) (Q0 Z p1 p2 p3 p4  h0 n0) (T5.setTop (mkF m 507 #[.val (.int p1), .val (.int p2), .val (.int p3), .val (.int p4), .val (.int f), .val (.int r), .val (.int f2), .val (.int r2), .val (.int sv), .val (.int x), .val (.int re), .val (.int rt), .val (.int y), .val (.ref b), .val (.int (1 &&& (1 : Int32))), .val (.int sv), .val (.int t0), .val (.int fl), .val (.int s1), .val (.int run), .val (.int t1), .val (.int kS), .unset] []))
          exact blk507 _ _ _ f r f2 r2 sv x re rt y b t0 fl s1 run t1 kS F R u5 g5 (j + 1) X5 e5 N5 Z5 nb hs1 ht0 ht1 hk1 hk2 hk3 hrun hy_ F5 sp5.1 (by omega)
  have blk417 : ∀ (TB : State) (hB : Heap) (lB : List Loc) (f : Int32) (r : Int32) (f2 : Int32) (r2 : Int32) (sv : Int32) (x : Int32) (re : Int32) (rt : Int32) (y : Int32) (b : Addr) (t0 : Int32) (fl : Int32) (s1 : Int32) (run : Int32) (t1 : Int32) (kS : Int32) (F : Int32) (R : Int32) (u : Int32) (g : Int32) (j : Int) (XB : Stand p l e room_1 s m #[(.int p1), (.int p2), (.int p3), (.int p4)] below meth c TB lB (0 + 1) (0 + 5)) (eB : TB.heap = hB) (NB : Fr n0 lB) (ZB : n0 ≤ hB.size) (nb : n0 ≤ b) (hs1 : s1 = 0 ∨ s1 = 1) (ht0 : s1 = 0 → t1 = R) (ht1 : ¬ s1 = 0 → t1 = F) (hk1 : 1 ≤ kS.toInt) (hk2 : kS.toInt = 1 ∨ kS.toInt = t1.toInt - run.toInt) (hk3 : t1.toInt - run.toInt ≤ kS.toInt) (hrun : 0 ≤ run.toInt ∧ run.toInt ≤ 3) (hy_ : 0 ≤ y.toInt ∧ y.toInt ≤ 3) (FB : HP Z hB b F R 1 u g) (hi : INV s1 run.toInt kS.toInt j u g) (hj : j = 0), Ends p e below (EF s 16 128) (Q0 Z p1 p2 p3 p4  h0 n0) (TB.setTop (mkF m 417 #[.val (.int p1), .val (.int p2), .val (.int p3), .val (.int p4), .val (.int f), .val (.int r), .val (.int f2), .val (.int r2), .val (.int sv), .val (.int x), .val (.int re), .val (.int rt), .val (.int y), .val (.ref b), .val (.int 1), .val (.int sv), .val (.int t0), .val (.int fl), .val (.int s1), .val (.int run), .val (.int t1), .val (.int kS), .unset] [])) := by
    intro TB hB lB f r f2 r2 sv x re rt y b t0 fl s1 run t1 kS F R u g j XB eB NB ZB nb hs1 ht0 ht1 hk1 hk2 hk3 hrun hy_ FB hi hj
    refine own_iload (n := 419) XB hx (hb hby at_417) rfl rfl ?_
    refine own_iconst (n := 420) XB hx (1 : Int32) (hb hby at_419) rfl rfl ?_
    by_cases c420 : y < (1 : Int32)
    · refine own_icmpYes (n := 462) XB hx (hb hby at_420) (Jvm.Free.XT.ii_lt_t c420) (by decide) (by decide) ?_
      show Ends p e below (EF s 16 128) (Q0 Z p1 p2 p3 p4  h0 n0) (TB.setTop (mkF m 462 #[.val (.int p1), .val (.int p2), .val (.int p3), .val (.int p4), .val (.int f), .val (.int r), .val (.int f2), .val (.int r2), .val (.int sv), .val (.int x), .val (.int re), .val (.int rt), .val (.int y), .val (.ref b), .val (.int 1), .val (.int sv), .val (.int t0), .val (.int fl), .val (.int s1), .val (.int run), .val (.int t1), .val (.int kS), .unset] []))
      rw [Int32.lt_iff_toInt_lt] at c420
      exact blk462 _ _ _ f r f2 r2 sv x re rt y b t0 fl s1 run t1 kS F R u g j XB eB NB ZB nb hs1 ht0 ht1 hk1 hk2 hk3 hrun hy_ FB hi (by omega)
    · refine own_icmpNo (n := 423) XB hx (hb hby at_420) (Jvm.Free.XT.ii_lt_f c420) rfl ?_
      refine own_iload (n := 425) XB hx (hb hby at_423) rfl rfl ?_
      refine own_aload (n := 427) XB hx (hb hby at_425) rfl rfl rfl ?_
      refine own_iload (n := 429) XB hx (hb hby at_427) rfl rfl ?_
      by_cases c429 : s1 = 0
      · refine own_ifNo (n := 432) XB hx (hb hby at_429) (Jvm.Free.XT.i0_ne_f c429) rfl ?_
        refine own_iconst (n := 433) XB hx (1 : Int32) (hb hby at_432) rfl rfl ?_
        refine own_goto (n := 437) XB hx (hb hby at_433) (by decide) (by decide) ?_
        refine own_callV (n := 440) XB hx hZ hown (hw _ (List.mem_of_getElem? (i := 15) rfl)) (hw _ (List.mem_of_getElem? (i := 16) rfl)) (hw _ (List.mem_of_getElem? (i := 18) rfl)) (hw _ (List.mem_of_getElem? (i := 17) rfl)) (hw _ (List.mem_of_getElem? (i := 2) rfl)) (hw _ (List.mem_of_getElem? (i := 19) rfl)) (by decide) eB FB.1 (rm3 l Z a0 hw [] b (1 : Int32) F R (1) u g hB n0 ZB FB nb (by decide)) (W := 1) (by decide) (by decide) (by decide) (by decide) (by rw [hml]; rfl) (argsL := [(.int (1 : Int32))]) (rest := [(.int 1)]) pd_3 rfl (by rfl) (Nat.le_of_eq rfl) (hb hby at_437) rfl rfl ?_
        intro v6 T6 h6 L6 X6 e6 q6
        obtain ⟨rv6, u6, g6, re6, rfl, M6, K6, F6⟩ := q6
        have N6 := Fr.app NB M6
        have Z6 : n0 ≤ h6.size := Nat.le_trans ZB K6.1
        rw [Int32.lt_iff_toInt_lt] at c420
        have sp6 := own_step (s := s1) (t := t1) (run := run.toInt) (k := kS.toInt) (j := j) hs1 ht0 ht1 hk1 hk2 hk3 hrun.1 (by omega) (by omega) (by omega) (q := (1 : Int32)) (by simp [neg, c429]) hi re6
        refine own_iload (n := 442) X6 hx (hb hby at_440) rfl rfl ?_
        refine own_iconst (n := 443) X6 hx (1 : Int32) (hb hby at_442) rfl rfl ?_
        by_cases c443 : kS = (1 : Int32)
        · refine own_icmpNo (n := 446) X6 hx (hb hby at_443) (Jvm.Free.XT.ii_ne_f c443) rfl ?_
          refine own_iconst (n := 447) X6 hx (1 : Int32) (hb hby at_446) rfl rfl ?_
          refine own_goto (n := 451) X6 hx (hb hby at_447) (by decide) (by decide) ?_
          refine own_icmpNo (n := 454) X6 hx (hb hby at_451) (Jvm.Free.XT.ii_ne_f (sp6.2.1 (by rw [c443]; omega))) rfl ?_
          refine own_iconst (n := 455) X6 hx (1 : Int32) (hb hby at_454) rfl rfl ?_
          refine own_goto (n := 459) X6 hx (hb hby at_455) (by decide) (by decide) ?_
          refine own_iand (n := 460) X6 hx (hb hby at_459) rfl ?_
          refine own_istore (n := 462) X6 hx (hb hby at_460) (l' := #[.val (.int p1), .val (.int p2), .val (.int p3), .val (.int p4), .val (.int f), .val (.int r), .val (.int f2), .val (.int r2), .val (.int sv), .val (.int x), .val (.int re), .val (.int rt), .val (.int y), .val (.ref b), .val (.int (1 &&& (1 : Int32))), .val (.int sv), .val (.int t0), .val (.int fl), .val (.int s1), .val (.int run), .val (.int t1), .val (.int kS), .unset]) rfl rfl ?_
          show Ends p e below (EF s 16 128) (Q0 Z p1 p2 p3 p4  h0 n0) (T6.setTop (mkF m 462 #[.val (.int p1), .val (.int p2), .val (.int p3), .val (.int p4), .val (.int f), .val (.int r), .val (.int f2), .val (.int r2), .val (.int sv), .val (.int x), .val (.int re), .val (.int rt), .val (.int y), .val (.ref b), .val (.int (1 &&& (1 : Int32))), .val (.int sv), .val (.int t0), .val (.int fl), .val (.int s1), .val (.int run), .val (.int t1), .val (.int kS), .unset] []))
          exact blk462 _ _ _ f r f2 r2 sv x re rt y b t0 fl s1 run t1 kS F R u6 g6 (j + 1) X6 e6 N6 Z6 nb hs1 ht0 ht1 hk1 hk2 hk3 hrun hy_ F6 sp6.1 (by omega)
        · refine own_icmpYes (n := 450) X6 hx (hb hby at_443) (Jvm.Free.XT.ii_ne_t c443) (by decide) (by decide) ?_
          refine own_iconst (n := 451) X6 hx (0 : Int32) (hb hby at_450) rfl rfl ?_
          refine own_icmpNo (n := 454) X6 hx (hb hby at_451) (Jvm.Free.XT.ii_ne_f (sp6.2.2 (fun z => c443 (own_inj (by omega))))) rfl ?_
          refine own_iconst (n := 455) X6 hx (1 : Int32) (hb hby at_454) rfl rfl ?_
          refine own_goto (n := 459) X6 hx (hb hby at_455) (by decide) (by decide) ?_
          refine own_iand (n := 460) X6 hx (hb hby at_459) rfl ?_
          refine own_istore (n := 462) X6 hx (hb hby at_460) (l' := #[.val (.int p1), .val (.int p2), .val (.int p3), .val (.int p4), .val (.int f), .val (.int r), .val (.int f2), .val (.int r2), .val (.int sv), .val (.int x), .val (.int re), .val (.int rt), .val (.int y), .val (.ref b), .val (.int (1 &&& (1 : Int32))), .val (.int sv), .val (.int t0), .val (.int fl), .val (.int s1), .val (.int run), .val (.int t1), .val (.int kS), .unset]) rfl rfl ?_
          show Ends p e below (EF s 16 128) (Q0 Z p1 p2 p3 p4  h0 n0) (T6.setTop (mkF m 462 #[.val (.int p1), .val (.int p2), .val (.int p3), .val (.int p4), .val (.int f), .val (.int r), .val (.int f2), .val (.int r2), .val (.int sv), .val (.int x), .val (.int re), .val (.int rt), .val (.int y), .val (.ref b), .val (.int (1 &&& (1 : Int32))), .val (.int sv), .val (.int t0), .val (.int fl), .val (.int s1), .val (.int run), .val (.int t1), .val (.int kS), .unset] []))
          exact blk462 _ _ _ f r f2 r2 sv x re rt y b t0 fl s1 run t1 kS F R u6 g6 (j + 1) X6 e6 N6 Z6 nb hs1 ht0 ht1 hk1 hk2 hk3 hrun hy_ F6 sp6.1 (by omega)
      · refine own_ifYes (n := 436) XB hx (hb hby at_429) (Jvm.Free.XT.i0_ne_t c429) (by decide) (by decide) ?_
        refine own_iconst (n := 437) XB hx (0 : Int32) (hb hby at_436) rfl rfl ?_
        refine own_callV (n := 440) XB hx hZ hown (hw _ (List.mem_of_getElem? (i := 15) rfl)) (hw _ (List.mem_of_getElem? (i := 16) rfl)) (hw _ (List.mem_of_getElem? (i := 18) rfl)) (hw _ (List.mem_of_getElem? (i := 17) rfl)) (hw _ (List.mem_of_getElem? (i := 2) rfl)) (hw _ (List.mem_of_getElem? (i := 19) rfl)) (by decide) eB FB.1 (rm3 l Z a0 hw [] b (0 : Int32) F R (1) u g hB n0 ZB FB nb (by decide)) (W := 1) (by decide) (by decide) (by decide) (by decide) (by rw [hml]; rfl) (argsL := [(.int (0 : Int32))]) (rest := [(.int 1)]) pd_3 rfl (by rfl) (Nat.le_of_eq rfl) (hb hby at_437) rfl rfl ?_
        intro v7 T7 h7 L7 X7 e7 q7
        obtain ⟨rv7, u7, g7, re7, rfl, M7, K7, F7⟩ := q7
        have N7 := Fr.app NB M7
        have Z7 : n0 ≤ h7.size := Nat.le_trans ZB K7.1
        rw [Int32.lt_iff_toInt_lt] at c420
        have sp7 := own_step (s := s1) (t := t1) (run := run.toInt) (k := kS.toInt) (j := j) hs1 ht0 ht1 hk1 hk2 hk3 hrun.1 (by omega) (by omega) (by omega) (q := (0 : Int32)) (by simp [neg, c429]) hi re7
        refine own_iload (n := 442) X7 hx (hb hby at_440) rfl rfl ?_
        refine own_iconst (n := 443) X7 hx (1 : Int32) (hb hby at_442) rfl rfl ?_
        by_cases c443 : kS = (1 : Int32)
        · refine own_icmpNo (n := 446) X7 hx (hb hby at_443) (Jvm.Free.XT.ii_ne_f c443) rfl ?_
          refine own_iconst (n := 447) X7 hx (1 : Int32) (hb hby at_446) rfl rfl ?_
          refine own_goto (n := 451) X7 hx (hb hby at_447) (by decide) (by decide) ?_
          refine own_icmpNo (n := 454) X7 hx (hb hby at_451) (Jvm.Free.XT.ii_ne_f (sp7.2.1 (by rw [c443]; omega))) rfl ?_
          refine own_iconst (n := 455) X7 hx (1 : Int32) (hb hby at_454) rfl rfl ?_
          refine own_goto (n := 459) X7 hx (hb hby at_455) (by decide) (by decide) ?_
          refine own_iand (n := 460) X7 hx (hb hby at_459) rfl ?_
          refine own_istore (n := 462) X7 hx (hb hby at_460) (l' := #[.val (.int p1), .val (.int p2), .val (.int p3), .val (.int p4), .val (.int f), .val (.int r), .val (.int f2), .val (.int r2), .val (.int sv), .val (.int x), .val (.int re), .val (.int rt), .val (.int y), .val (.ref b), .val (.int (1 &&& (1 : Int32))), .val (.int sv), .val (.int t0), .val (.int fl), .val (.int s1), .val (.int run), .val (.int t1), .val (.int kS), .unset]) rfl rfl ?_
          show Ends p e below (EF s 16 128) (Q0 Z p1 p2 p3 p4  h0 n0) (T7.setTop (mkF m 462 #[.val (.int p1), .val (.int p2), .val (.int p3), .val (.int p4), .val (.int f), .val (.int r), .val (.int f2), .val (.int r2), .val (.int sv), .val (.int x), .val (.int re), .val (.int rt), .val (.int y), .val (.ref b), .val (.int (1 &&& (1 : Int32))), .val (.int sv), .val (.int t0), .val (.int fl), .val (.int s1), .val (.int run), .val (.int t1), .val (.int kS), .unset] []))
          exact blk462 _ _ _ f r f2 r2 sv x re rt y b t0 fl s1 run t1 kS F R u7 g7 (j + 1) X7 e7 N7 Z7 nb hs1 ht0 ht1 hk1 hk2 hk3 hrun hy_ F7 sp7.1 (by omega)
        · refine own_icmpYes (n := 450) X7 hx (hb hby at_443) (Jvm.Free.XT.ii_ne_t c443) (by decide) (by decide) ?_
          refine own_iconst (n := 451) X7 hx (0 : Int32) (hb hby at_450) rfl rfl ?_
          refine own_icmpNo (n := 454) X7 hx (hb hby at_451) (Jvm.Free.XT.ii_ne_f (sp7.2.2 (fun z => c443 (own_inj (by omega))))) rfl ?_
          refine own_iconst (n := 455) X7 hx (1 : Int32) (hb hby at_454) rfl rfl ?_
          refine own_goto (n := 459) X7 hx (hb hby at_455) (by decide) (by decide) ?_
          refine own_iand (n := 460) X7 hx (hb hby at_459) rfl ?_
          refine own_istore (n := 462) X7 hx (hb hby at_460) (l' := #[.val (.int p1), .val (.int p2), .val (.int p3), .val (.int p4), .val (.int f), .val (.int r), .val (.int f2), .val (.int r2), .val (.int sv), .val (.int x), .val (.int re), .val (.int rt), .val (.int y), .val (.ref b), .val (.int (1 &&& (1 : Int32))), .val (.int sv), .val (.int t0), .val (.int fl), .val (.int s1), .val (.int run), .val (.int t1), .val (.int kS), .unset]) rfl rfl ?_
          show Ends p e below (EF s 16 128) (Q0 Z p1 p2 p3 p4  h0 n0) (T7.setTop (mkF m 462 #[.val (.int p1), .val (.int p2), .val (.int p3), .val (.int p4), .val (.int f), .val (.int r), .val (.int f2), .val (.int r2), .val (.int sv), .val (.int x), .val (.int re), .val (.int rt), .val (.int y), .val (.ref b), .val (.int (1 &&& (1 : Int32))), .val (.int sv), .val (.int t0), .val (.int fl), .val (.int s1), .val (.int run), .val (.int t1), .val (.int kS), .unset] []))
          exact blk462 _ _ _ f r f2 r2 sv x re rt y b t0 fl s1 run t1 kS F R u7 g7 (j + 1) X7 e7 N7 Z7 nb hs1 ht0 ht1 hk1 hk2 hk3 hrun hy_ F7 sp7.1 (by omega)
  have blk406 : ∀ (TB : State) (hB : Heap) (lB : List Loc) (f : Int32) (r : Int32) (f2 : Int32) (r2 : Int32) (sv : Int32) (x : Int32) (re : Int32) (rt : Int32) (y : Int32) (b : Addr) (t0 : Int32) (fl : Int32) (s1 : Int32) (run : Int32) (t1 : Int32) (F : Int32) (R : Int32) (XB : Stand p l e room_1 s m #[(.int p1), (.int p2), (.int p3), (.int p4)] below meth c TB lB (0 + 1) (0 + 5)) (eB : TB.heap = hB) (NB : Fr n0 lB) (ZB : n0 ≤ hB.size) (nb : n0 ≤ b) (hs1 : s1 = 0 ∨ s1 = 1) (ht0 : s1 = 0 → t1 = R) (ht1 : ¬ s1 = 0 → t1 = F) (htt : 1 ≤ t1.toInt ∧ t1.toInt ≤ 4) (hrun : 0 ≤ run.toInt ∧ run.toInt ≤ 3) (hy_ : 0 ≤ y.toInt ∧ y.toInt ≤ 3) (FB : HP Z hB b F R 1 s1 run), Ends p e below (EF s 16 128) (Q0 Z p1 p2 p3 p4  h0 n0) (TB.setTop (mkF m 406 #[.val (.int p1), .val (.int p2), .val (.int p3), .val (.int p4), .val (.int f), .val (.int r), .val (.int f2), .val (.int r2), .val (.int sv), .val (.int x), .val (.int re), .val (.int rt), .val (.int y), .val (.ref b), .val (.int 1), .val (.int sv), .val (.int t0), .val (.int fl), .val (.int s1), .val (.int run), .val (.int t1), .unset, .unset] [])) := by
    intro TB hB lB f r f2 r2 sv x re rt y b t0 fl s1 run t1 F R XB eB NB ZB nb hs1 ht0 ht1 htt hrun hy_ FB
    refine own_iconst (n := 407) XB hx (1 : Int32) (hb hby at_406) rfl rfl ?_
    refine own_iload (n := 409) XB hx (hb hby at_407) rfl rfl ?_
    refine own_iload (n := 411) XB hx (hb hby at_409) rfl rfl ?_
    refine own_isub (n := 412) XB hx (hb hby at_411) rfl ?_
    refine own_callS (n := 415) XB hx hZ hown (hw _ (List.mem_of_getElem? (i := 22) rfl)) (hw _ (List.mem_of_getElem? (i := 23) rfl)) (hw _ (List.mem_of_getElem? (i := 24) rfl)) (hw _ (List.mem_of_getElem? (i := 25) rfl)) (by decide) eB (rm4 l Z a0 hw [] (1 : Int32) (t1 - run) hB n0 ZB ) (W := 0) (by decide) (by decide) (by decide) (by decide) (by rw [hml]; rfl) (argsL := [(.int (1 : Int32)), (.int (t1 - run))]) (rest := []) pd_4 rfl (by rfl) (Nat.le_of_eq rfl) (hb hby at_412) rfl rfl ?_
    intro v8 T8 h8 L8 X8 e8 q8
    obtain ⟨rfl, M8, rfl⟩ := q8
    have N8 := Fr.app NB M8
    refine own_istore (n := 417) X8 hx (hb hby at_415) (l' := #[.val (.int p1), .val (.int p2), .val (.int p3), .val (.int p4), .val (.int f), .val (.int r), .val (.int f2), .val (.int r2), .val (.int sv), .val (.int x), .val (.int re), .val (.int rt), .val (.int y), .val (.ref b), .val (.int 1), .val (.int sv), .val (.int t0), .val (.int fl), .val (.int s1), .val (.int run), .val (.int t1), .val (.int (if (1 : Int32) < (t1 - run) then (t1 - run) else (1 : Int32))), .unset]) rfl rfl ?_
    show Ends p e below (EF s 16 128) (Q0 Z p1 p2 p3 p4  h0 n0) (T8.setTop (mkF m 417 #[.val (.int p1), .val (.int p2), .val (.int p3), .val (.int p4), .val (.int f), .val (.int r), .val (.int f2), .val (.int r2), .val (.int sv), .val (.int x), .val (.int re), .val (.int rt), .val (.int y), .val (.ref b), .val (.int 1), .val (.int sv), .val (.int t0), .val (.int fl), .val (.int s1), .val (.int run), .val (.int t1), .val (.int (if (1 : Int32) < (t1 - run) then (t1 - run) else (1 : Int32))), .unset] []))
    generalize g_kS : (if (1 : Int32) < (t1 - run) then (t1 - run) else (1 : Int32)) = kS
    show Ends p e below (EF s 16 128) (Q0 Z p1 p2 p3 p4  h0 n0) (T8.setTop (mkF m 417 #[.val (.int p1), .val (.int p2), .val (.int p3), .val (.int p4), .val (.int f), .val (.int r), .val (.int f2), .val (.int r2), .val (.int sv), .val (.int x), .val (.int re), .val (.int rt), .val (.int y), .val (.ref b), .val (.int 1), .val (.int sv), .val (.int t0), .val (.int fl), .val (.int s1), .val (.int run), .val (.int t1), .val (.int kS), .unset] []))
    have hd := c_isub t1 run
    have hd2 := rng32 (t1 - run)
    have hkk : (kS.toInt = 1 ∧ (t1 - run).toInt ≤ 1) ∨ (kS = t1 - run ∧ 1 < (t1 - run).toInt) := by
      rw [← g_kS]
      by_cases z : (1 : Int32) < t1 - run
      · rw [if_pos z]; rw [Int32.lt_iff_toInt_lt] at z; exact Or.inr ⟨rfl, z⟩
      · rw [if_neg z]; rw [Int32.lt_iff_toInt_lt] at z; exact Or.inl ⟨rfl, by omega⟩
    have hk1 : 1 ≤ kS.toInt := by rcases hkk with ⟨q, _⟩ | ⟨rfl, q⟩ <;> omega
    have hk2 : kS.toInt = 1 ∨ kS.toInt = t1.toInt - run.toInt := by rcases hkk with ⟨q, _⟩ | ⟨rfl, q⟩ <;> omega
    have hk3 : t1.toInt - run.toInt ≤ kS.toInt := by rcases hkk with ⟨q, _⟩ | ⟨rfl, q⟩ <;> omega
    exact blk417 _ _ _ f r f2 r2 sv x re rt y b t0 fl s1 run t1 kS F R s1 run (0) X8 e8 N8 ZB nb hs1 ht0 ht1 hk1 hk2 hk3 hrun hy_ FB (⟨fun _ => ⟨rfl, by omega⟩, fun _ => by omega⟩) rfl
  have blk361 : ∀ (TB : State) (hB : Heap) (lB : List Loc) (f : Int32) (r : Int32) (f2 : Int32) (r2 : Int32) (sv : Int32) (x : Int32) (re : Int32) (rt : Int32) (y : Int32) (b : Addr) (t0 : Int32) (fl : Int32) (s1 : Int32) (run : Int32) (XB : Stand p l e room_1 s m #[(.int p1), (.int p2), (.int p3), (.int p4)] below meth c TB lB (0 + 1) (0 + 5)) (eB : TB.heap = hB) (NB : Fr n0 lB) (ZB : n0 ≤ hB.size) (nb : n0 ≤ b) (hf : 1 ≤ f.toInt ∧ f.toInt ≤ 4) (hr : 1 ≤ r.toInt ∧ r.toInt ≤ 4) (hf2 : 1 ≤ f2.toInt ∧ f2.toInt ≤ 4) (hr2 : 1 ≤ r2.toInt ∧ r2.toInt ≤ 4) (hs : sv = 0 ∨ sv = 1) (hx_ : 0 ≤ x.toInt ∧ x.toInt ≤ 3) (hy_ : 0 ≤ y.toInt ∧ y.toInt ≤ 3) (hs1 : s1 = 0 ∨ s1 = 1) (hrun : 0 ≤ run.toInt ∧ run.toInt ≤ 3) (FB : HP Z hB b f r 1 s1 run), Ends p e below (EF s 16 128) (Q0 Z p1 p2 p3 p4  h0 n0) (TB.setTop (mkF m 361 #[.val (.int p1), .val (.int p2), .val (.int p3), .val (.int p4), .val (.int f), .val (.int r), .val (.int f2), .val (.int r2), .val (.int sv), .val (.int x), .val (.int re), .val (.int rt), .val (.int y), .val (.ref b), .val (.int 1), .val (.int sv), .val (.int t0), .val (.int fl), .val (.int s1), .val (.int run), .unset, .unset, .unset] [])) := by
    intro TB hB lB f r f2 r2 sv x re rt y b t0 fl s1 run XB eB NB ZB nb hf hr hf2 hr2 hs hx_ hy_ hs1 hrun FB
    refine own_iload (n := 363) XB hx (hb hby at_361) rfl rfl ?_
    by_cases c363 : rt = 0
    · refine own_ifYes (n := 392) XB hx (hb hby at_363) (Jvm.Free.XT.i0_eq_t c363) (by decide) (by decide) ?_
      refine own_iload (n := 394) XB hx (hb hby at_392) rfl rfl ?_
      by_cases c394 : s1 = 0
      · refine own_ifYes (n := 402) XB hx (hb hby at_394) (Jvm.Free.XT.i0_eq_t c394) (by decide) (by decide) ?_
        refine own_iload (n := 404) XB hx (hb hby at_402) rfl rfl ?_
        refine own_istore (n := 406) XB hx (hb hby at_404) (l' := #[.val (.int p1), .val (.int p2), .val (.int p3), .val (.int p4), .val (.int f), .val (.int r), .val (.int f2), .val (.int r2), .val (.int sv), .val (.int x), .val (.int re), .val (.int rt), .val (.int y), .val (.ref b), .val (.int 1), .val (.int sv), .val (.int t0), .val (.int fl), .val (.int s1), .val (.int run), .val (.int r), .unset, .unset]) rfl rfl ?_
        show Ends p e below (EF s 16 128) (Q0 Z p1 p2 p3 p4  h0 n0) (TB.setTop (mkF m 406 #[.val (.int p1), .val (.int p2), .val (.int p3), .val (.int p4), .val (.int f), .val (.int r), .val (.int f2), .val (.int r2), .val (.int sv), .val (.int x), .val (.int re), .val (.int rt), .val (.int y), .val (.ref b), .val (.int 1), .val (.int sv), .val (.int t0), .val (.int fl), .val (.int s1), .val (.int run), .val (.int r), .unset, .unset] []))
        exact blk406 _ _ _ f r f2 r2 sv x re rt y b t0 fl s1 run r f r XB eB NB ZB nb hs1 (fun q => rfl) (fun q => absurd c394 q) hr hrun hy_ FB
      · refine own_ifNo (n := 397) XB hx (hb hby at_394) (Jvm.Free.XT.i0_eq_f c394) rfl ?_
        refine own_iload (n := 399) XB hx (hb hby at_397) rfl rfl ?_
        refine own_goto (n := 404) XB hx (hb hby at_399) (by decide) (by decide) ?_
        refine own_istore (n := 406) XB hx (hb hby at_404) (l' := #[.val (.int p1), .val (.int p2), .val (.int p3), .val (.int p4), .val (.int f), .val (.int r), .val (.int f2), .val (.int r2), .val (.int sv), .val (.int x), .val (.int re), .val (.int rt), .val (.int y), .val (.ref b), .val (.int 1), .val (.int sv), .val (.int t0), .val (.int fl), .val (.int s1), .val (.int run), .val (.int f), .unset, .unset]) rfl rfl ?_
        show Ends p e below (EF s 16 128) (Q0 Z p1 p2 p3 p4  h0 n0) (TB.setTop (mkF m 406 #[.val (.int p1), .val (.int p2), .val (.int p3), .val (.int p4), .val (.int f), .val (.int r), .val (.int f2), .val (.int r2), .val (.int sv), .val (.int x), .val (.int re), .val (.int rt), .val (.int y), .val (.ref b), .val (.int 1), .val (.int sv), .val (.int t0), .val (.int fl), .val (.int s1), .val (.int run), .val (.int f), .unset, .unset] []))
        exact blk406 _ _ _ f r f2 r2 sv x re rt y b t0 fl s1 run f f r XB eB NB ZB nb hs1 (fun q => absurd q c394) (fun q => rfl) hf hrun hy_ FB
    · refine own_ifNo (n := 366) XB hx (hb hby at_363) (Jvm.Free.XT.i0_eq_f c363) rfl ?_
      refine own_aload (n := 368) XB hx (hb hby at_366) rfl rfl rfl ?_
      refine own_iload (n := 370) XB hx (hb hby at_368) rfl rfl ?_
      refine own_iload (n := 372) XB hx (hb hby at_370) rfl rfl ?_
      refine own_callV (n := 375) XB hx hZ hown (hw _ (List.mem_of_getElem? (i := 33) rfl)) (hw _ (List.mem_of_getElem? (i := 34) rfl)) (hw _ (List.mem_of_getElem? (i := 36) rfl)) (hw _ (List.mem_of_getElem? (i := 35) rfl)) (hw _ (List.mem_of_getElem? (i := 2) rfl)) (hw _ (List.mem_of_getElem? (i := 37) rfl)) (by decide) eB FB.1 (rm6 l Z a0 hw [] b f2 r2 f r (1) s1 run hB n0 ZB FB nb) (W := 0) (by decide) (by decide) (by decide) (by decide) (by rw [hml]; rfl) (argsL := [(.int f2), (.int r2)]) (rest := []) pd_6 rfl (by rfl) (Nat.le_of_eq rfl) (hb hby at_372) rfl rfl ?_
      intro v9 T9 h9 L9 X9 e9 q9
      obtain ⟨rfl, M9, K9, F9⟩ := q9
      have N9 := Fr.app NB M9
      have Z9 : n0 ≤ h9.size := Nat.le_trans ZB K9.1
      refine own_iload (n := 377) X9 hx (hb hby at_375) rfl rfl ?_
      by_cases c377 : s1 = 0
      · refine own_ifYes (n := 385) X9 hx (hb hby at_377) (Jvm.Free.XT.i0_eq_t c377) (by decide) (by decide) ?_
        refine own_iload (n := 387) X9 hx (hb hby at_385) rfl rfl ?_
        refine own_istore (n := 389) X9 hx (hb hby at_387) (l' := #[.val (.int p1), .val (.int p2), .val (.int p3), .val (.int p4), .val (.int f), .val (.int r), .val (.int f2), .val (.int r2), .val (.int sv), .val (.int x), .val (.int re), .val (.int rt), .val (.int y), .val (.ref b), .val (.int 1), .val (.int sv), .val (.int t0), .val (.int fl), .val (.int s1), .val (.int run), .val (.int r2), .unset, .unset]) rfl rfl ?_
        refine own_goto (n := 406) X9 hx (hb hby at_389) (by decide) (by decide) ?_
        show Ends p e below (EF s 16 128) (Q0 Z p1 p2 p3 p4  h0 n0) (T9.setTop (mkF m 406 #[.val (.int p1), .val (.int p2), .val (.int p3), .val (.int p4), .val (.int f), .val (.int r), .val (.int f2), .val (.int r2), .val (.int sv), .val (.int x), .val (.int re), .val (.int rt), .val (.int y), .val (.ref b), .val (.int 1), .val (.int sv), .val (.int t0), .val (.int fl), .val (.int s1), .val (.int run), .val (.int r2), .unset, .unset] []))
        exact blk406 _ _ _ f r f2 r2 sv x re rt y b t0 fl s1 run r2 f2 r2 X9 e9 N9 Z9 nb hs1 (fun q => rfl) (fun q => absurd c377 q) hr2 hrun hy_ F9
      · refine own_ifNo (n := 380) X9 hx (hb hby at_377) (Jvm.Free.XT.i0_eq_f c377) rfl ?_
        refine own_iload (n := 382) X9 hx (hb hby at_380) rfl rfl ?_
        refine own_goto (n := 387) X9 hx (hb hby at_382) (by decide) (by decide) ?_
        refine own_istore (n := 389) X9 hx (hb hby at_387) (l' := #[.val (.int p1), .val (.int p2), .val (.int p3), .val (.int p4), .val (.int f), .val (.int r), .val (.int f2), .val (.int r2), .val (.int sv), .val (.int x), .val (.int re), .val (.int rt), .val (.int y), .val (.ref b), .val (.int 1), .val (.int sv), .val (.int t0), .val (.int fl), .val (.int s1), .val (.int run), .val (.int f2), .unset, .unset]) rfl rfl ?_
        refine own_goto (n := 406) X9 hx (hb hby at_389) (by decide) (by decide) ?_
        show Ends p e below (EF s 16 128) (Q0 Z p1 p2 p3 p4  h0 n0) (T9.setTop (mkF m 406 #[.val (.int p1), .val (.int p2), .val (.int p3), .val (.int p4), .val (.int f), .val (.int r), .val (.int f2), .val (.int r2), .val (.int sv), .val (.int x), .val (.int re), .val (.int rt), .val (.int y), .val (.ref b), .val (.int 1), .val (.int sv), .val (.int t0), .val (.int fl), .val (.int s1), .val (.int run), .val (.int f2), .unset, .unset] []))
        exact blk406 _ _ _ f r f2 r2 sv x re rt y b t0 fl s1 run f2 f2 r2 X9 e9 N9 Z9 nb hs1 (fun q => absurd q c377) (fun q => rfl) hf2 hrun hy_ F9
  have blk333 : ∀ (TB : State) (hB : Heap) (lB : List Loc) (f : Int32) (r : Int32) (f2 : Int32) (r2 : Int32) (sv : Int32) (x : Int32) (re : Int32) (rt : Int32) (y : Int32) (b : Addr) (t0 : Int32) (fl : Int32) (s1 : Int32) (run : Int32) (XB : Stand p l e room_1 s m #[(.int p1), (.int p2), (.int p3), (.int p4)] below meth c TB lB (0 + 1) (0 + 5)) (eB : TB.heap = hB) (NB : Fr n0 lB) (ZB : n0 ≤ hB.size) (nb : n0 ≤ b) (hf : 1 ≤ f.toInt ∧ f.toInt ≤ 4) (hr : 1 ≤ r.toInt ∧ r.toInt ≤ 4) (hf2 : 1 ≤ f2.toInt ∧ f2.toInt ≤ 4) (hr2 : 1 ≤ r2.toInt ∧ r2.toInt ≤ 4) (hs : sv = 0 ∨ sv = 1) (hx_ : 0 ≤ x.toInt ∧ x.toInt ≤ 3) (hy_ : 0 ≤ y.toInt ∧ y.toInt ≤ 3) (hs1 : s1 = 0 ∨ s1 = 1) (hrun : 0 ≤ run.toInt ∧ run.toInt ≤ 3) (FB : HP Z hB b f r 1 s1 run), Ends p e below (EF s 16 128) (Q0 Z p1 p2 p3 p4  h0 n0) (TB.setTop (mkF m 333 #[.val (.int p1), .val (.int p2), .val (.int p3), .val (.int p4), .val (.int f), .val (.int r), .val (.int f2), .val (.int r2), .val (.int sv), .val (.int x), .val (.int re), .val (.int rt), .val (.int y), .val (.ref b), .val (.int 1), .val (.int sv), .val (.int t0), .val (.int fl), .val (.int s1), .val (.int run), .unset, .unset, .unset] [])) := by
    intro TB hB lB f r f2 r2 sv x re rt y b t0 fl s1 run XB eB NB ZB nb hf hr hf2 hr2 hs hx_ hy_ hs1 hrun FB
    refine own_iload (n := 335) XB hx (hb hby at_333) rfl rfl ?_
    by_cases c335 : re = 0
    · refine own_ifYes (n := 361) XB hx (hb hby at_335) (Jvm.Free.XT.i0_eq_t c335) (by decide) (by decide) ?_
      show Ends p e below (EF s 16 128) (Q0 Z p1 p2 p3 p4  h0 n0) (TB.setTop (mkF m 361 #[.val (.int p1), .val (.int p2), .val (.int p3), .val (.int p4), .val (.int f), .val (.int r), .val (.int f2), .val (.int r2), .val (.int sv), .val (.int x), .val (.int re), .val (.int rt), .val (.int y), .val (.ref b), .val (.int 1), .val (.int sv), .val (.int t0), .val (.int fl), .val (.int s1), .val (.int run), .unset, .unset, .unset] []))
      exact blk361 _ _ _ f r f2 r2 sv x re rt y b t0 fl s1 run XB eB NB ZB nb hf hr hf2 hr2 hs hx_ hy_ hs1 hrun FB
    · refine own_ifNo (n := 338) XB hx (hb hby at_335) (Jvm.Free.XT.i0_eq_f c335) rfl ?_
      refine own_iload (n := 340) XB hx (hb hby at_338) rfl rfl ?_
      refine own_aload (n := 342) XB hx (hb hby at_340) rfl rfl rfl ?_
      refine own_iload (n := 344) XB hx (hb hby at_342) rfl rfl ?_
      refine own_callV (n := 347) XB hx hZ hown (hw _ (List.mem_of_getElem? (i := 15) rfl)) (hw _ (List.mem_of_getElem? (i := 16) rfl)) (hw _ (List.mem_of_getElem? (i := 18) rfl)) (hw _ (List.mem_of_getElem? (i := 17) rfl)) (hw _ (List.mem_of_getElem? (i := 2) rfl)) (hw _ (List.mem_of_getElem? (i := 19) rfl)) (by decide) eB FB.1 (rm3 l Z a0 hw [] b s1 f r (1) s1 run hB n0 ZB FB nb (by decide)) (W := 1) (by decide) (by decide) (by decide) (by decide) (by rw [hml]; rfl) (argsL := [(.int s1)]) (rest := [(.int 1)]) pd_3 rfl (by rfl) (Nat.le_of_eq rfl) (hb hby at_344) rfl rfl ?_
      intro v10 T10 h10 L10 X10 e10 q10
      obtain ⟨rv10, u10, g10, re10, rfl, M10, K10, F10⟩ := q10
      have N10 := Fr.app NB M10
      have Z10 : n0 ≤ h10.size := Nat.le_trans ZB K10.1
      have rz10 : recF 1 s1 s1 run f r = (0, s1, 0) := by simp [recF]
      rw [rz10] at re10
      obtain ⟨rfl, rf10⟩ := Prod.mk.inj re10
      obtain ⟨rfl, rfl⟩ := Prod.mk.inj rf10
      refine own_ifNo (n := 350) X10 hx (hb hby at_347) (Jvm.Free.XT.i0_ne_f rfl) rfl ?_
      refine own_iconst (n := 351) X10 hx (1 : Int32) (hb hby at_350) rfl rfl ?_
      refine own_goto (n := 355) X10 hx (hb hby at_351) (by decide) (by decide) ?_
      refine own_iand (n := 356) X10 hx (hb hby at_355) rfl ?_
      refine own_istore (n := 358) X10 hx (hb hby at_356) (l' := #[.val (.int p1), .val (.int p2), .val (.int p3), .val (.int p4), .val (.int f), .val (.int r), .val (.int f2), .val (.int r2), .val (.int sv), .val (.int x), .val (.int re), .val (.int rt), .val (.int y), .val (.ref b), .val (.int (1 &&& (1 : Int32))), .val (.int sv), .val (.int t0), .val (.int fl), .val (.int s1), .val (.int run), .unset, .unset, .unset]) rfl rfl ?_
      refine own_iconst (n := 359) X10 hx (0 : Int32) (hb hby at_358) rfl rfl ?_
      refine own_istore (n := 361) X10 hx (hb hby at_359) (l' := #[.val (.int p1), .val (.int p2), .val (.int p3), .val (.int p4), .val (.int f), .val (.int r), .val (.int f2), .val (.int r2), .val (.int sv), .val (.int x), .val (.int re), .val (.int rt), .val (.int y), .val (.ref b), .val (.int (1 &&& (1 : Int32))), .val (.int sv), .val (.int t0), .val (.int fl), .val (.int s1), .val (.int (0 : Int32)), .unset, .unset, .unset]) rfl rfl ?_
      show Ends p e below (EF s 16 128) (Q0 Z p1 p2 p3 p4  h0 n0) (T10.setTop (mkF m 361 #[.val (.int p1), .val (.int p2), .val (.int p3), .val (.int p4), .val (.int f), .val (.int r), .val (.int f2), .val (.int r2), .val (.int sv), .val (.int x), .val (.int re), .val (.int rt), .val (.int y), .val (.ref b), .val (.int (1 &&& (1 : Int32))), .val (.int sv), .val (.int t0), .val (.int fl), .val (.int s1), .val (.int (0 : Int32)), .unset, .unset, .unset] []))
      exact blk361 _ _ _ f r f2 r2 sv x re rt y b t0 fl s1 (0) X10 e10 N10 Z10 nb hf hr hf2 hr2 hs hx_ hy_ hs1 (by decide) F10
  have blk284 : ∀ (TB : State) (hB : Heap) (lB : List Loc) (f : Int32) (r : Int32) (f2 : Int32) (r2 : Int32) (sv : Int32) (x : Int32) (re : Int32) (rt : Int32) (y : Int32) (b : Addr) (t0 : Int32) (u : Int32) (g : Int32) (XB : Stand p l e room_1 s m #[(.int p1), (.int p2), (.int p3), (.int p4)] below meth c TB lB (0 + 1) (0 + 5)) (eB : TB.heap = hB) (NB : Fr n0 lB) (ZB : n0 ≤ hB.size) (nb : n0 ≤ b) (hf : 1 ≤ f.toInt ∧ f.toInt ≤ 4) (hr : 1 ≤ r.toInt ∧ r.toInt ≤ 4) (hf2 : 1 ≤ f2.toInt ∧ f2.toInt ≤ 4) (hr2 : 1 ≤ r2.toInt ∧ r2.toInt ≤ 4) (hs : sv = 0 ∨ sv = 1) (hx_ : 0 ≤ x.toInt ∧ x.toInt ≤ 3) (hy_ : 0 ≤ y.toInt ∧ y.toInt ≤ 3) (ht0 : sv = 0 → t0 = r) (ht1 : ¬ sv = 0 → t0 = f) (htt : 1 ≤ t0.toInt ∧ t0.toInt ≤ 4) (FB : HP Z hB b f r 1 u g) (hi : INV sv 0 t0.toInt x.toInt u g), Ends p e below (EF s 16 128) (Q0 Z p1 p2 p3 p4  h0 n0) (TB.setTop (mkF m 284 #[.val (.int p1), .val (.int p2), .val (.int p3), .val (.int p4), .val (.int f), .val (.int r), .val (.int f2), .val (.int r2), .val (.int sv), .val (.int x), .val (.int re), .val (.int rt), .val (.int y), .val (.ref b), .val (.int 1), .val (.int sv), .val (.int t0), .unset, .unset, .unset, .unset, .unset, .unset] [])) := by
    intro TB hB lB f r f2 r2 sv x re rt y b t0 u g XB eB NB ZB nb hf hr hf2 hr2 hs hx_ hy_ ht0 ht1 htt FB hi
    refine own_iload (n := 286) XB hx (hb hby at_284) rfl rfl ?_
    refine own_iload (n := 288) XB hx (hb hby at_286) rfl rfl ?_
    by_cases c288 : x < t0
    · refine own_icmpYes (n := 295) XB hx (hb hby at_288) (Jvm.Free.XT.ii_lt_t c288) (by decide) (by decide) ?_
      refine own_iconst (n := 296) XB hx (0 : Int32) (hb hby at_295) rfl rfl ?_
      refine own_istore (n := 298) XB hx (hb hby at_296) (l' := #[.val (.int p1), .val (.int p2), .val (.int p3), .val (.int p4), .val (.int f), .val (.int r), .val (.int f2), .val (.int r2), .val (.int sv), .val (.int x), .val (.int re), .val (.int rt), .val (.int y), .val (.ref b), .val (.int 1), .val (.int sv), .val (.int t0), .val (.int (0 : Int32)), .unset, .unset, .unset, .unset, .unset]) rfl rfl ?_
      refine own_iload (n := 300) XB hx (hb hby at_298) rfl rfl ?_
      refine own_ifYes (n := 316) XB hx (hb hby at_300) (Jvm.Free.XT.i0_eq_t rfl) (by decide) (by decide) ?_
      refine own_iload (n := 318) XB hx (hb hby at_316) rfl rfl ?_
      refine own_istore (n := 320) XB hx (hb hby at_318) (l' := #[.val (.int p1), .val (.int p2), .val (.int p3), .val (.int p4), .val (.int f), .val (.int r), .val (.int f2), .val (.int r2), .val (.int sv), .val (.int x), .val (.int re), .val (.int rt), .val (.int y), .val (.ref b), .val (.int 1), .val (.int sv), .val (.int t0), .val (.int (0 : Int32)), .val (.int sv), .unset, .unset, .unset, .unset]) rfl rfl ?_
      refine own_iload (n := 322) XB hx (hb hby at_320) rfl rfl ?_
      refine own_ifYes (n := 329) XB hx (hb hby at_322) (Jvm.Free.XT.i0_eq_t rfl) (by decide) (by decide) ?_
      refine own_iload (n := 331) XB hx (hb hby at_329) rfl rfl ?_
      refine own_istore (n := 333) XB hx (hb hby at_331) (l' := #[.val (.int p1), .val (.int p2), .val (.int p3), .val (.int p4), .val (.int f), .val (.int r), .val (.int f2), .val (.int r2), .val (.int sv), .val (.int x), .val (.int re), .val (.int rt), .val (.int y), .val (.ref b), .val (.int 1), .val (.int sv), .val (.int t0), .val (.int (0 : Int32)), .val (.int sv), .val (.int x), .unset, .unset, .unset]) rfl rfl ?_
      show Ends p e below (EF s 16 128) (Q0 Z p1 p2 p3 p4  h0 n0) (TB.setTop (mkF m 333 #[.val (.int p1), .val (.int p2), .val (.int p3), .val (.int p4), .val (.int f), .val (.int r), .val (.int f2), .val (.int r2), .val (.int sv), .val (.int x), .val (.int re), .val (.int rt), .val (.int y), .val (.ref b), .val (.int 1), .val (.int sv), .val (.int t0), .val (.int (0 : Int32)), .val (.int sv), .val (.int x), .unset, .unset, .unset] []))
      rw [Int32.lt_iff_toInt_lt] at c288
      obtain ⟨e1, hg⟩ := hi.1 c288
      have e2 : g = x := own_inj (by omega)
      rw [e1, e2] at FB
      exact blk333 _ _ _ f r f2 r2 sv x re rt y b t0 (0 : Int32) sv x XB eB NB ZB nb hf hr hf2 hr2 hs hx_ hy_ hs hx_ FB
    · refine own_icmpNo (n := 291) XB hx (hb hby at_288) (Jvm.Free.XT.ii_lt_f c288) rfl ?_
      refine own_iconst (n := 292) XB hx (1 : Int32) (hb hby at_291) rfl rfl ?_
      refine own_goto (n := 296) XB hx (hb hby at_292) (by decide) (by decide) ?_
      refine own_istore (n := 298) XB hx (hb hby at_296) (l' := #[.val (.int p1), .val (.int p2), .val (.int p3), .val (.int p4), .val (.int f), .val (.int r), .val (.int f2), .val (.int r2), .val (.int sv), .val (.int x), .val (.int re), .val (.int rt), .val (.int y), .val (.ref b), .val (.int 1), .val (.int sv), .val (.int t0), .val (.int (1 : Int32)), .unset, .unset, .unset, .unset, .unset]) rfl rfl ?_
      refine own_iload (n := 300) XB hx (hb hby at_298) rfl rfl ?_
      refine own_ifNo (n := 303) XB hx (hb hby at_300) (Jvm.Free.XT.i0_eq_f (by decide)) rfl ?_
      refine own_iload (n := 305) XB hx (hb hby at_303) rfl rfl ?_
      by_cases c305 : sv = 0
      · refine own_ifNo (n := 308) XB hx (hb hby at_305) (Jvm.Free.XT.i0_ne_f c305) rfl ?_
        refine own_iconst (n := 309) XB hx (1 : Int32) (hb hby at_308) rfl rfl ?_
        refine own_goto (n := 318) XB hx (hb hby at_309) (by decide) (by decide) ?_
        refine own_istore (n := 320) XB hx (hb hby at_318) (l' := #[.val (.int p1), .val (.int p2), .val (.int p3), .val (.int p4), .val (.int f), .val (.int r), .val (.int f2), .val (.int r2), .val (.int sv), .val (.int x), .val (.int re), .val (.int rt), .val (.int y), .val (.ref b), .val (.int 1), .val (.int sv), .val (.int t0), .val (.int (1 : Int32)), .val (.int (1 : Int32)), .unset, .unset, .unset, .unset]) rfl rfl ?_
        refine own_iload (n := 322) XB hx (hb hby at_320) rfl rfl ?_
        refine own_ifNo (n := 325) XB hx (hb hby at_322) (Jvm.Free.XT.i0_eq_f (by decide)) rfl ?_
        refine own_iconst (n := 326) XB hx (0 : Int32) (hb hby at_325) rfl rfl ?_
        refine own_goto (n := 331) XB hx (hb hby at_326) (by decide) (by decide) ?_
        refine own_istore (n := 333) XB hx (hb hby at_331) (l' := #[.val (.int p1), .val (.int p2), .val (.int p3), .val (.int p4), .val (.int f), .val (.int r), .val (.int f2), .val (.int r2), .val (.int sv), .val (.int x), .val (.int re), .val (.int rt), .val (.int y), .val (.ref b), .val (.int 1), .val (.int sv), .val (.int t0), .val (.int (1 : Int32)), .val (.int (1 : Int32)), .val (.int (0 : Int32)), .unset, .unset, .unset]) rfl rfl ?_
        show Ends p e below (EF s 16 128) (Q0 Z p1 p2 p3 p4  h0 n0) (TB.setTop (mkF m 333 #[.val (.int p1), .val (.int p2), .val (.int p3), .val (.int p4), .val (.int f), .val (.int r), .val (.int f2), .val (.int r2), .val (.int sv), .val (.int x), .val (.int re), .val (.int rt), .val (.int y), .val (.ref b), .val (.int 1), .val (.int sv), .val (.int t0), .val (.int (1 : Int32)), .val (.int (1 : Int32)), .val (.int (0 : Int32)), .unset, .unset, .unset] []))
        rw [Int32.lt_iff_toInt_lt] at c288
        obtain ⟨e1, e2⟩ := hi.2 (by omega)
        rw [show neg sv = (1 : Int32) from by simp [neg, c305]] at e1
        rw [e1, e2] at FB
        exact blk333 _ _ _ f r f2 r2 sv x re rt y b t0 (1 : Int32) (1 : Int32) (0 : Int32) XB eB NB ZB nb hf hr hf2 hr2 hs hx_ hy_ (by decide) (by decide) FB
      · refine own_ifYes (n := 312) XB hx (hb hby at_305) (Jvm.Free.XT.i0_ne_t c305) (by decide) (by decide) ?_
        refine own_iconst (n := 313) XB hx (0 : Int32) (hb hby at_312) rfl rfl ?_
        refine own_goto (n := 318) XB hx (hb hby at_313) (by decide) (by decide) ?_
        refine own_istore (n := 320) XB hx (hb hby at_318) (l' := #[.val (.int p1), .val (.int p2), .val (.int p3), .val (.int p4), .val (.int f), .val (.int r), .val (.int f2), .val (.int r2), .val (.int sv), .val (.int x), .val (.int re), .val (.int rt), .val (.int y), .val (.ref b), .val (.int 1), .val (.int sv), .val (.int t0), .val (.int (1 : Int32)), .val (.int (0 : Int32)), .unset, .unset, .unset, .unset]) rfl rfl ?_
        refine own_iload (n := 322) XB hx (hb hby at_320) rfl rfl ?_
        refine own_ifNo (n := 325) XB hx (hb hby at_322) (Jvm.Free.XT.i0_eq_f (by decide)) rfl ?_
        refine own_iconst (n := 326) XB hx (0 : Int32) (hb hby at_325) rfl rfl ?_
        refine own_goto (n := 331) XB hx (hb hby at_326) (by decide) (by decide) ?_
        refine own_istore (n := 333) XB hx (hb hby at_331) (l' := #[.val (.int p1), .val (.int p2), .val (.int p3), .val (.int p4), .val (.int f), .val (.int r), .val (.int f2), .val (.int r2), .val (.int sv), .val (.int x), .val (.int re), .val (.int rt), .val (.int y), .val (.ref b), .val (.int 1), .val (.int sv), .val (.int t0), .val (.int (1 : Int32)), .val (.int (0 : Int32)), .val (.int (0 : Int32)), .unset, .unset, .unset]) rfl rfl ?_
        show Ends p e below (EF s 16 128) (Q0 Z p1 p2 p3 p4  h0 n0) (TB.setTop (mkF m 333 #[.val (.int p1), .val (.int p2), .val (.int p3), .val (.int p4), .val (.int f), .val (.int r), .val (.int f2), .val (.int r2), .val (.int sv), .val (.int x), .val (.int re), .val (.int rt), .val (.int y), .val (.ref b), .val (.int 1), .val (.int sv), .val (.int t0), .val (.int (1 : Int32)), .val (.int (0 : Int32)), .val (.int (0 : Int32)), .unset, .unset, .unset] []))
        rw [Int32.lt_iff_toInt_lt] at c288
        obtain ⟨e1, e2⟩ := hi.2 (by omega)
        rw [show neg sv = (0 : Int32) from by simp [neg, c305]] at e1
        rw [e1, e2] at FB
        exact blk333 _ _ _ f r f2 r2 sv x re rt y b t0 (1 : Int32) (0 : Int32) (0 : Int32) XB eB NB ZB nb hf hr hf2 hr2 hs hx_ hy_ (by decide) (by decide) FB
  have blk239 : ∀ (TB : State) (hB : Heap) (lB : List Loc) (f : Int32) (r : Int32) (f2 : Int32) (r2 : Int32) (sv : Int32) (x : Int32) (re : Int32) (rt : Int32) (y : Int32) (b : Addr) (t0 : Int32) (u : Int32) (g : Int32) (j : Int) (XB : Stand p l e room_1 s m #[(.int p1), (.int p2), (.int p3), (.int p4)] below meth c TB lB (0 + 1) (0 + 5)) (eB : TB.heap = hB) (NB : Fr n0 lB) (ZB : n0 ≤ hB.size) (nb : n0 ≤ b) (hf : 1 ≤ f.toInt ∧ f.toInt ≤ 4) (hr : 1 ≤ r.toInt ∧ r.toInt ≤ 4) (hf2 : 1 ≤ f2.toInt ∧ f2.toInt ≤ 4) (hr2 : 1 ≤ r2.toInt ∧ r2.toInt ≤ 4) (hs : sv = 0 ∨ sv = 1) (hx_ : 0 ≤ x.toInt ∧ x.toInt ≤ 3) (hy_ : 0 ≤ y.toInt ∧ y.toInt ≤ 3) (ht0 : sv = 0 → t0 = r) (ht1 : ¬ sv = 0 → t0 = f) (htt : 1 ≤ t0.toInt ∧ t0.toInt ≤ 4) (FB : HP Z hB b f r 1 u g) (hi : INV sv 0 t0.toInt j u g) (hj : (x.toInt < 2 → j = x.toInt) ∧ (2 ≤ x.toInt → j = 2)), Ends p e below (EF s 16 128) (Q0 Z p1 p2 p3 p4  h0 n0) (TB.setTop (mkF m 239 #[.val (.int p1), .val (.int p2), .val (.int p3), .val (.int p4), .val (.int f), .val (.int r), .val (.int f2), .val (.int r2), .val (.int sv), .val (.int x), .val (.int re), .val (.int rt), .val (.int y), .val (.ref b), .val (.int 1), .val (.int sv), .val (.int t0), .unset, .unset, .unset, .unset, .unset, .unset] [])) := by
    intro TB hB lB f r f2 r2 sv x re rt y b t0 u g j XB eB NB ZB nb hf hr hf2 hr2 hs hx_ hy_ ht0 ht1 htt FB hi hj
    refine own_iload (n := 241) XB hx (hb hby at_239) rfl rfl ?_
    refine own_iconst (n := 242) XB hx (3 : Int32) (hb hby at_241) rfl rfl ?_
    by_cases c242 : x < (3 : Int32)
    · refine own_icmpYes (n := 284) XB hx (hb hby at_242) (Jvm.Free.XT.ii_lt_t c242) (by decide) (by decide) ?_
      show Ends p e below (EF s 16 128) (Q0 Z p1 p2 p3 p4  h0 n0) (TB.setTop (mkF m 284 #[.val (.int p1), .val (.int p2), .val (.int p3), .val (.int p4), .val (.int f), .val (.int r), .val (.int f2), .val (.int r2), .val (.int sv), .val (.int x), .val (.int re), .val (.int rt), .val (.int y), .val (.ref b), .val (.int 1), .val (.int sv), .val (.int t0), .unset, .unset, .unset, .unset, .unset, .unset] []))
      rw [Int32.lt_iff_toInt_lt] at c242
      have hjy : j = x.toInt := by omega
      exact blk284 _ _ _ f r f2 r2 sv x re rt y b t0 u g XB eB NB ZB nb hf hr hf2 hr2 hs hx_ hy_ ht0 ht1 htt FB (hjy ▸ hi)
    · refine own_icmpNo (n := 245) XB hx (hb hby at_242) (Jvm.Free.XT.ii_lt_f c242) rfl ?_
      refine own_iload (n := 247) XB hx (hb hby at_245) rfl rfl ?_
      refine own_aload (n := 249) XB hx (hb hby at_247) rfl rfl rfl ?_
      refine own_iload (n := 251) XB hx (hb hby at_249) rfl rfl ?_
      by_cases c251 : sv = 0
      · refine own_ifNo (n := 254) XB hx (hb hby at_251) (Jvm.Free.XT.i0_ne_f c251) rfl ?_
        refine own_iconst (n := 255) XB hx (1 : Int32) (hb hby at_254) rfl rfl ?_
        refine own_goto (n := 259) XB hx (hb hby at_255) (by decide) (by decide) ?_
        refine own_callV (n := 262) XB hx hZ hown (hw _ (List.mem_of_getElem? (i := 15) rfl)) (hw _ (List.mem_of_getElem? (i := 16) rfl)) (hw _ (List.mem_of_getElem? (i := 18) rfl)) (hw _ (List.mem_of_getElem? (i := 17) rfl)) (hw _ (List.mem_of_getElem? (i := 2) rfl)) (hw _ (List.mem_of_getElem? (i := 19) rfl)) (by decide) eB FB.1 (rm3 l Z a0 hw [] b (1 : Int32) f r (1) u g hB n0 ZB FB nb (by decide)) (W := 1) (by decide) (by decide) (by decide) (by decide) (by rw [hml]; rfl) (argsL := [(.int (1 : Int32))]) (rest := [(.int 1)]) pd_3 rfl (by rfl) (Nat.le_of_eq rfl) (hb hby at_259) rfl rfl ?_
        intro v11 T11 h11 L11 X11 e11 q11
        obtain ⟨rv11, u11, g11, re11, rfl, M11, K11, F11⟩ := q11
        have N11 := Fr.app NB M11
        have Z11 : n0 ≤ h11.size := Nat.le_trans ZB K11.1
        rw [Int32.lt_iff_toInt_lt] at c242
        have sp11 := own_step (s := sv) (t := t0) (run := 0) (k := t0.toInt) (j := j) hs ht0 ht1 (by omega) (by omega) (by omega) (by omega) (by omega) (by omega) (by omega) (q := (1 : Int32)) (by simp [neg, c251]) hi re11
        refine own_iload (n := 264) X11 hx (hb hby at_262) rfl rfl ?_
        refine own_iconst (n := 265) X11 hx (3 : Int32) (hb hby at_264) rfl rfl ?_
        by_cases c265 : t0 = (3 : Int32)
        · refine own_icmpNo (n := 268) X11 hx (hb hby at_265) (Jvm.Free.XT.ii_ne_f c265) rfl ?_
          refine own_iconst (n := 269) X11 hx (1 : Int32) (hb hby at_268) rfl rfl ?_
          refine own_goto (n := 273) X11 hx (hb hby at_269) (by decide) (by decide) ?_
          refine own_icmpNo (n := 276) X11 hx (hb hby at_273) (Jvm.Free.XT.ii_ne_f (sp11.2.1 (by rw [c265]; omega))) rfl ?_
          refine own_iconst (n := 277) X11 hx (1 : Int32) (hb hby at_276) rfl rfl ?_
          refine own_goto (n := 281) X11 hx (hb hby at_277) (by decide) (by decide) ?_
          refine own_iand (n := 282) X11 hx (hb hby at_281) rfl ?_
          refine own_istore (n := 284) X11 hx (hb hby at_282) (l' := #[.val (.int p1), .val (.int p2), .val (.int p3), .val (.int p4), .val (.int f), .val (.int r), .val (.int f2), .val (.int r2), .val (.int sv), .val (.int x), .val (.int re), .val (.int rt), .val (.int y), .val (.ref b), .val (.int (1 &&& (1 : Int32))), .val (.int sv), .val (.int t0), .unset, .unset, .unset, .unset, .unset, .unset]) rfl rfl ?_
          show Ends p e below (EF s 16 128) (Q0 Z p1 p2 p3 p4  h0 n0) (T11.setTop (mkF m 284 #[.val (.int p1), .val (.int p2), .val (.int p3), .val (.int p4), .val (.int f), .val (.int r), .val (.int f2), .val (.int r2), .val (.int sv), .val (.int x), .val (.int re), .val (.int rt), .val (.int y), .val (.ref b), .val (.int (1 &&& (1 : Int32))), .val (.int sv), .val (.int t0), .unset, .unset, .unset, .unset, .unset, .unset] []))
          have hjy : (j + 1) = x.toInt := by omega
          exact blk284 _ _ _ f r f2 r2 sv x re rt y b t0 u11 g11 X11 e11 N11 Z11 nb hf hr hf2 hr2 hs hx_ hy_ ht0 ht1 htt F11 (hjy ▸ sp11.1)
        · refine own_icmpYes (n := 272) X11 hx (hb hby at_265) (Jvm.Free.XT.ii_ne_t c265) (by decide) (by decide) ?_
          refine own_iconst (n := 273) X11 hx (0 : Int32) (hb hby at_272) rfl rfl ?_
          refine own_icmpNo (n := 276) X11 hx (hb hby at_273) (Jvm.Free.XT.ii_ne_f (sp11.2.2 (fun z => c265 (own_inj (by omega))))) rfl ?_
          refine own_iconst (n := 277) X11 hx (1 : Int32) (hb hby at_276) rfl rfl ?_
          refine own_goto (n := 281) X11 hx (hb hby at_277) (by decide) (by decide) ?_
          refine own_iand (n := 282) X11 hx (hb hby at_281) rfl ?_
          refine own_istore (n := 284) X11 hx (hb hby at_282) (l' := #[.val (.int p1), .val (.int p2), .val (.int p3), .val (.int p4), .val (.int f), .val (.int r), .val (.int f2), .val (.int r2), .val (.int sv), .val (.int x), .val (.int re), .val (.int rt), .val (.int y), .val (.ref b), .val (.int (1 &&& (1 : Int32))), .val (.int sv), .val (.int t0), .unset, .unset, .unset, .unset, .unset, .unset]) rfl rfl ?_
          show Ends p e below (EF s 16 128) (Q0 Z p1 p2 p3 p4  h0 n0) (T11.setTop (mkF m 284 #[.val (.int p1), .val (.int p2), .val (.int p3), .val (.int p4), .val (.int f), .val (.int r), .val (.int f2), .val (.int r2), .val (.int sv), .val (.int x), .val (.int re), .val (.int rt), .val (.int y), .val (.ref b), .val (.int (1 &&& (1 : Int32))), .val (.int sv), .val (.int t0), .unset, .unset, .unset, .unset, .unset, .unset] []))
          have hjy : (j + 1) = x.toInt := by omega
          exact blk284 _ _ _ f r f2 r2 sv x re rt y b t0 u11 g11 X11 e11 N11 Z11 nb hf hr hf2 hr2 hs hx_ hy_ ht0 ht1 htt F11 (hjy ▸ sp11.1)
      · refine own_ifYes (n := 258) XB hx (hb hby at_251) (Jvm.Free.XT.i0_ne_t c251) (by decide) (by decide) ?_
        refine own_iconst (n := 259) XB hx (0 : Int32) (hb hby at_258) rfl rfl ?_
        refine own_callV (n := 262) XB hx hZ hown (hw _ (List.mem_of_getElem? (i := 15) rfl)) (hw _ (List.mem_of_getElem? (i := 16) rfl)) (hw _ (List.mem_of_getElem? (i := 18) rfl)) (hw _ (List.mem_of_getElem? (i := 17) rfl)) (hw _ (List.mem_of_getElem? (i := 2) rfl)) (hw _ (List.mem_of_getElem? (i := 19) rfl)) (by decide) eB FB.1 (rm3 l Z a0 hw [] b (0 : Int32) f r (1) u g hB n0 ZB FB nb (by decide)) (W := 1) (by decide) (by decide) (by decide) (by decide) (by rw [hml]; rfl) (argsL := [(.int (0 : Int32))]) (rest := [(.int 1)]) pd_3 rfl (by rfl) (Nat.le_of_eq rfl) (hb hby at_259) rfl rfl ?_
        intro v12 T12 h12 L12 X12 e12 q12
        obtain ⟨rv12, u12, g12, re12, rfl, M12, K12, F12⟩ := q12
        have N12 := Fr.app NB M12
        have Z12 : n0 ≤ h12.size := Nat.le_trans ZB K12.1
        rw [Int32.lt_iff_toInt_lt] at c242
        have sp12 := own_step (s := sv) (t := t0) (run := 0) (k := t0.toInt) (j := j) hs ht0 ht1 (by omega) (by omega) (by omega) (by omega) (by omega) (by omega) (by omega) (q := (0 : Int32)) (by simp [neg, c251]) hi re12
        refine own_iload (n := 264) X12 hx (hb hby at_262) rfl rfl ?_
        refine own_iconst (n := 265) X12 hx (3 : Int32) (hb hby at_264) rfl rfl ?_
        by_cases c265 : t0 = (3 : Int32)
        · refine own_icmpNo (n := 268) X12 hx (hb hby at_265) (Jvm.Free.XT.ii_ne_f c265) rfl ?_
          refine own_iconst (n := 269) X12 hx (1 : Int32) (hb hby at_268) rfl rfl ?_
          refine own_goto (n := 273) X12 hx (hb hby at_269) (by decide) (by decide) ?_
          refine own_icmpNo (n := 276) X12 hx (hb hby at_273) (Jvm.Free.XT.ii_ne_f (sp12.2.1 (by rw [c265]; omega))) rfl ?_
          refine own_iconst (n := 277) X12 hx (1 : Int32) (hb hby at_276) rfl rfl ?_
          refine own_goto (n := 281) X12 hx (hb hby at_277) (by decide) (by decide) ?_
          refine own_iand (n := 282) X12 hx (hb hby at_281) rfl ?_
          refine own_istore (n := 284) X12 hx (hb hby at_282) (l' := #[.val (.int p1), .val (.int p2), .val (.int p3), .val (.int p4), .val (.int f), .val (.int r), .val (.int f2), .val (.int r2), .val (.int sv), .val (.int x), .val (.int re), .val (.int rt), .val (.int y), .val (.ref b), .val (.int (1 &&& (1 : Int32))), .val (.int sv), .val (.int t0), .unset, .unset, .unset, .unset, .unset, .unset]) rfl rfl ?_
          show Ends p e below (EF s 16 128) (Q0 Z p1 p2 p3 p4  h0 n0) (T12.setTop (mkF m 284 #[.val (.int p1), .val (.int p2), .val (.int p3), .val (.int p4), .val (.int f), .val (.int r), .val (.int f2), .val (.int r2), .val (.int sv), .val (.int x), .val (.int re), .val (.int rt), .val (.int y), .val (.ref b), .val (.int (1 &&& (1 : Int32))), .val (.int sv), .val (.int t0), .unset, .unset, .unset, .unset, .unset, .unset] []))
          have hjy : (j + 1) = x.toInt := by omega
          exact blk284 _ _ _ f r f2 r2 sv x re rt y b t0 u12 g12 X12 e12 N12 Z12 nb hf hr hf2 hr2 hs hx_ hy_ ht0 ht1 htt F12 (hjy ▸ sp12.1)
        · refine own_icmpYes (n := 272) X12 hx (hb hby at_265) (Jvm.Free.XT.ii_ne_t c265) (by decide) (by decide) ?_
          refine own_iconst (n := 273) X12 hx (0 : Int32) (hb hby at_272) rfl rfl ?_
          refine own_icmpNo (n := 276) X12 hx (hb hby at_273) (Jvm.Free.XT.ii_ne_f (sp12.2.2 (fun z => c265 (own_inj (by omega))))) rfl ?_
          refine own_iconst (n := 277) X12 hx (1 : Int32) (hb hby at_276) rfl rfl ?_
          refine own_goto (n := 281) X12 hx (hb hby at_277) (by decide) (by decide) ?_
          refine own_iand (n := 282) X12 hx (hb hby at_281) rfl ?_
          refine own_istore (n := 284) X12 hx (hb hby at_282) (l' := #[.val (.int p1), .val (.int p2), .val (.int p3), .val (.int p4), .val (.int f), .val (.int r), .val (.int f2), .val (.int r2), .val (.int sv), .val (.int x), .val (.int re), .val (.int rt), .val (.int y), .val (.ref b), .val (.int (1 &&& (1 : Int32))), .val (.int sv), .val (.int t0), .unset, .unset, .unset, .unset, .unset, .unset]) rfl rfl ?_
          show Ends p e below (EF s 16 128) (Q0 Z p1 p2 p3 p4  h0 n0) (T12.setTop (mkF m 284 #[.val (.int p1), .val (.int p2), .val (.int p3), .val (.int p4), .val (.int f), .val (.int r), .val (.int f2), .val (.int r2), .val (.int sv), .val (.int x), .val (.int re), .val (.int rt), .val (.int y), .val (.ref b), .val (.int (1 &&& (1 : Int32))), .val (.int sv), .val (.int t0), .unset, .unset, .unset, .unset, .unset, .unset] []))
          have hjy : (j + 1) = x.toInt := by omega
          exact blk284 _ _ _ f r f2 r2 sv x re rt y b t0 u12 g12 X12 e12 N12 Z12 nb hf hr hf2 hr2 hs hx_ hy_ ht0 ht1 htt F12 (hjy ▸ sp12.1)
  have blk194 : ∀ (TB : State) (hB : Heap) (lB : List Loc) (f : Int32) (r : Int32) (f2 : Int32) (r2 : Int32) (sv : Int32) (x : Int32) (re : Int32) (rt : Int32) (y : Int32) (b : Addr) (t0 : Int32) (u : Int32) (g : Int32) (j : Int) (XB : Stand p l e room_1 s m #[(.int p1), (.int p2), (.int p3), (.int p4)] below meth c TB lB (0 + 1) (0 + 5)) (eB : TB.heap = hB) (NB : Fr n0 lB) (ZB : n0 ≤ hB.size) (nb : n0 ≤ b) (hf : 1 ≤ f.toInt ∧ f.toInt ≤ 4) (hr : 1 ≤ r.toInt ∧ r.toInt ≤ 4) (hf2 : 1 ≤ f2.toInt ∧ f2.toInt ≤ 4) (hr2 : 1 ≤ r2.toInt ∧ r2.toInt ≤ 4) (hs : sv = 0 ∨ sv = 1) (hx_ : 0 ≤ x.toInt ∧ x.toInt ≤ 3) (hy_ : 0 ≤ y.toInt ∧ y.toInt ≤ 3) (ht0 : sv = 0 → t0 = r) (ht1 : ¬ sv = 0 → t0 = f) (htt : 1 ≤ t0.toInt ∧ t0.toInt ≤ 4) (FB : HP Z hB b f r 1 u g) (hi : INV sv 0 t0.toInt j u g) (hj : (x.toInt < 1 → j = x.toInt) ∧ (1 ≤ x.toInt → j = 1)), Ends p e below (EF s 16 128) (Q0 Z p1 p2 p3 p4  h0 n0) (TB.setTop (mkF m 194 #[.val (.int p1), .val (.int p2), .val (.int p3), .val (.int p4), .val (.int f), .val (.int r), .val (.int f2), .val (.int r2), .val (.int sv), .val (.int x), .val (.int re), .val (.int rt), .val (.int y), .val (.ref b), .val (.int 1), .val (.int sv), .val (.int t0), .unset, .unset, .unset, .unset, .unset, .unset] [])) := by
    intro TB hB lB f r f2 r2 sv x re rt y b t0 u g j XB eB NB ZB nb hf hr hf2 hr2 hs hx_ hy_ ht0 ht1 htt FB hi hj
    refine own_iload (n := 196) XB hx (hb hby at_194) rfl rfl ?_
    refine own_iconst (n := 197) XB hx (2 : Int32) (hb hby at_196) rfl rfl ?_
    by_cases c197 : x < (2 : Int32)
    · refine own_icmpYes (n := 239) XB hx (hb hby at_197) (Jvm.Free.XT.ii_lt_t c197) (by decide) (by decide) ?_
      show Ends p e below (EF s 16 128) (Q0 Z p1 p2 p3 p4  h0 n0) (TB.setTop (mkF m 239 #[.val (.int p1), .val (.int p2), .val (.int p3), .val (.int p4), .val (.int f), .val (.int r), .val (.int f2), .val (.int r2), .val (.int sv), .val (.int x), .val (.int re), .val (.int rt), .val (.int y), .val (.ref b), .val (.int 1), .val (.int sv), .val (.int t0), .unset, .unset, .unset, .unset, .unset, .unset] []))
      rw [Int32.lt_iff_toInt_lt] at c197
      exact blk239 _ _ _ f r f2 r2 sv x re rt y b t0 u g j XB eB NB ZB nb hf hr hf2 hr2 hs hx_ hy_ ht0 ht1 htt FB hi (by omega)
    · refine own_icmpNo (n := 200) XB hx (hb hby at_197) (Jvm.Free.XT.ii_lt_f c197) rfl ?_
      refine own_iload (n := 202) XB hx (hb hby at_200) rfl rfl ?_
      refine own_aload (n := 204) XB hx (hb hby at_202) rfl rfl rfl ?_
      refine own_iload (n := 206) XB hx (hb hby at_204) rfl rfl ?_
      by_cases c206 : sv = 0
      · refine own_ifNo (n := 209) XB hx (hb hby at_206) (Jvm.Free.XT.i0_ne_f c206) rfl ?_
        refine own_iconst (n := 210) XB hx (1 : Int32) (hb hby at_209) rfl rfl ?_
        refine own_goto (n := 214) XB hx (hb hby at_210) (by decide) (by decide) ?_
        refine own_callV (n := 217) XB hx hZ hown (hw _ (List.mem_of_getElem? (i := 15) rfl)) (hw _ (List.mem_of_getElem? (i := 16) rfl)) (hw _ (List.mem_of_getElem? (i := 18) rfl)) (hw _ (List.mem_of_getElem? (i := 17) rfl)) (hw _ (List.mem_of_getElem? (i := 2) rfl)) (hw _ (List.mem_of_getElem? (i := 19) rfl)) (by decide) eB FB.1 (rm3 l Z a0 hw [] b (1 : Int32) f r (1) u g hB n0 ZB FB nb (by decide)) (W := 1) (by decide) (by decide) (by decide) (by decide) (by rw [hml]; rfl) (argsL := [(.int (1 : Int32))]) (rest := [(.int 1)]) pd_3 rfl (by rfl) (Nat.le_of_eq rfl) (hb hby at_214) rfl rfl ?_
        intro v13 T13 h13 L13 X13 e13 q13
        obtain ⟨rv13, u13, g13, re13, rfl, M13, K13, F13⟩ := q13
        have N13 := Fr.app NB M13
        have Z13 : n0 ≤ h13.size := Nat.le_trans ZB K13.1
        rw [Int32.lt_iff_toInt_lt] at c197
        have sp13 := own_step (s := sv) (t := t0) (run := 0) (k := t0.toInt) (j := j) hs ht0 ht1 (by omega) (by omega) (by omega) (by omega) (by omega) (by omega) (by omega) (q := (1 : Int32)) (by simp [neg, c206]) hi re13
        refine own_iload (n := 219) X13 hx (hb hby at_217) rfl rfl ?_
        refine own_iconst (n := 220) X13 hx (2 : Int32) (hb hby at_219) rfl rfl ?_
        by_cases c220 : t0 = (2 : Int32)
        · refine own_icmpNo (n := 223) X13 hx (hb hby at_220) (Jvm.Free.XT.ii_ne_f c220) rfl ?_
          refine own_iconst (n := 224) X13 hx (1 : Int32) (hb hby at_223) rfl rfl ?_
          refine own_goto (n := 228) X13 hx (hb hby at_224) (by decide) (by decide) ?_
          refine own_icmpNo (n := 231) X13 hx (hb hby at_228) (Jvm.Free.XT.ii_ne_f (sp13.2.1 (by rw [c220]; omega))) rfl ?_
          refine own_iconst (n := 232) X13 hx (1 : Int32) (hb hby at_231) rfl rfl ?_
          refine own_goto (n := 236) X13 hx (hb hby at_232) (by decide) (by decide) ?_
          refine own_iand (n := 237) X13 hx (hb hby at_236) rfl ?_
          refine own_istore (n := 239) X13 hx (hb hby at_237) (l' := #[.val (.int p1), .val (.int p2), .val (.int p3), .val (.int p4), .val (.int f), .val (.int r), .val (.int f2), .val (.int r2), .val (.int sv), .val (.int x), .val (.int re), .val (.int rt), .val (.int y), .val (.ref b), .val (.int (1 &&& (1 : Int32))), .val (.int sv), .val (.int t0), .unset, .unset, .unset, .unset, .unset, .unset]) rfl rfl ?_
          show Ends p e below (EF s 16 128) (Q0 Z p1 p2 p3 p4  h0 n0) (T13.setTop (mkF m 239 #[.val (.int p1), .val (.int p2), .val (.int p3), .val (.int p4), .val (.int f), .val (.int r), .val (.int f2), .val (.int r2), .val (.int sv), .val (.int x), .val (.int re), .val (.int rt), .val (.int y), .val (.ref b), .val (.int (1 &&& (1 : Int32))), .val (.int sv), .val (.int t0), .unset, .unset, .unset, .unset, .unset, .unset] []))
          exact blk239 _ _ _ f r f2 r2 sv x re rt y b t0 u13 g13 (j + 1) X13 e13 N13 Z13 nb hf hr hf2 hr2 hs hx_ hy_ ht0 ht1 htt F13 sp13.1 (by omega)
        · refine own_icmpYes (n := 227) X13 hx (hb hby at_220) (Jvm.Free.XT.ii_ne_t c220) (by decide) (by decide) ?_
          refine own_iconst (n := 228) X13 hx (0 : Int32) (hb hby at_227) rfl rfl ?_
          refine own_icmpNo (n := 231) X13 hx (hb hby at_228) (Jvm.Free.XT.ii_ne_f (sp13.2.2 (fun z => c220 (own_inj (by omega))))) rfl ?_
          refine own_iconst (n := 232) X13 hx (1 : Int32) (hb hby at_231) rfl rfl ?_
          refine own_goto (n := 236) X13 hx (hb hby at_232) (by decide) (by decide) ?_
          refine own_iand (n := 237) X13 hx (hb hby at_236) rfl ?_
          refine own_istore (n := 239) X13 hx (hb hby at_237) (l' := #[.val (.int p1), .val (.int p2), .val (.int p3), .val (.int p4), .val (.int f), .val (.int r), .val (.int f2), .val (.int r2), .val (.int sv), .val (.int x), .val (.int re), .val (.int rt), .val (.int y), .val (.ref b), .val (.int (1 &&& (1 : Int32))), .val (.int sv), .val (.int t0), .unset, .unset, .unset, .unset, .unset, .unset]) rfl rfl ?_
          show Ends p e below (EF s 16 128) (Q0 Z p1 p2 p3 p4  h0 n0) (T13.setTop (mkF m 239 #[.val (.int p1), .val (.int p2), .val (.int p3), .val (.int p4), .val (.int f), .val (.int r), .val (.int f2), .val (.int r2), .val (.int sv), .val (.int x), .val (.int re), .val (.int rt), .val (.int y), .val (.ref b), .val (.int (1 &&& (1 : Int32))), .val (.int sv), .val (.int t0), .unset, .unset, .unset, .unset, .unset, .unset] []))
          exact blk239 _ _ _ f r f2 r2 sv x re rt y b t0 u13 g13 (j + 1) X13 e13 N13 Z13 nb hf hr hf2 hr2 hs hx_ hy_ ht0 ht1 htt F13 sp13.1 (by omega)
      · refine own_ifYes (n := 213) XB hx (hb hby at_206) (Jvm.Free.XT.i0_ne_t c206) (by decide) (by decide) ?_
        refine own_iconst (n := 214) XB hx (0 : Int32) (hb hby at_213) rfl rfl ?_
        refine own_callV (n := 217) XB hx hZ hown (hw _ (List.mem_of_getElem? (i := 15) rfl)) (hw _ (List.mem_of_getElem? (i := 16) rfl)) (hw _ (List.mem_of_getElem? (i := 18) rfl)) (hw _ (List.mem_of_getElem? (i := 17) rfl)) (hw _ (List.mem_of_getElem? (i := 2) rfl)) (hw _ (List.mem_of_getElem? (i := 19) rfl)) (by decide) eB FB.1 (rm3 l Z a0 hw [] b (0 : Int32) f r (1) u g hB n0 ZB FB nb (by decide)) (W := 1) (by decide) (by decide) (by decide) (by decide) (by rw [hml]; rfl) (argsL := [(.int (0 : Int32))]) (rest := [(.int 1)]) pd_3 rfl (by rfl) (Nat.le_of_eq rfl) (hb hby at_214) rfl rfl ?_
        intro v14 T14 h14 L14 X14 e14 q14
        obtain ⟨rv14, u14, g14, re14, rfl, M14, K14, F14⟩ := q14
        have N14 := Fr.app NB M14
        have Z14 : n0 ≤ h14.size := Nat.le_trans ZB K14.1
        rw [Int32.lt_iff_toInt_lt] at c197
        have sp14 := own_step (s := sv) (t := t0) (run := 0) (k := t0.toInt) (j := j) hs ht0 ht1 (by omega) (by omega) (by omega) (by omega) (by omega) (by omega) (by omega) (q := (0 : Int32)) (by simp [neg, c206]) hi re14
        refine own_iload (n := 219) X14 hx (hb hby at_217) rfl rfl ?_
        refine own_iconst (n := 220) X14 hx (2 : Int32) (hb hby at_219) rfl rfl ?_
        by_cases c220 : t0 = (2 : Int32)
        · refine own_icmpNo (n := 223) X14 hx (hb hby at_220) (Jvm.Free.XT.ii_ne_f c220) rfl ?_
          refine own_iconst (n := 224) X14 hx (1 : Int32) (hb hby at_223) rfl rfl ?_
          refine own_goto (n := 228) X14 hx (hb hby at_224) (by decide) (by decide) ?_
          refine own_icmpNo (n := 231) X14 hx (hb hby at_228) (Jvm.Free.XT.ii_ne_f (sp14.2.1 (by rw [c220]; omega))) rfl ?_
          refine own_iconst (n := 232) X14 hx (1 : Int32) (hb hby at_231) rfl rfl ?_
          refine own_goto (n := 236) X14 hx (hb hby at_232) (by decide) (by decide) ?_
          refine own_iand (n := 237) X14 hx (hb hby at_236) rfl ?_
          refine own_istore (n := 239) X14 hx (hb hby at_237) (l' := #[.val (.int p1), .val (.int p2), .val (.int p3), .val (.int p4), .val (.int f), .val (.int r), .val (.int f2), .val (.int r2), .val (.int sv), .val (.int x), .val (.int re), .val (.int rt), .val (.int y), .val (.ref b), .val (.int (1 &&& (1 : Int32))), .val (.int sv), .val (.int t0), .unset, .unset, .unset, .unset, .unset, .unset]) rfl rfl ?_
          show Ends p e below (EF s 16 128) (Q0 Z p1 p2 p3 p4  h0 n0) (T14.setTop (mkF m 239 #[.val (.int p1), .val (.int p2), .val (.int p3), .val (.int p4), .val (.int f), .val (.int r), .val (.int f2), .val (.int r2), .val (.int sv), .val (.int x), .val (.int re), .val (.int rt), .val (.int y), .val (.ref b), .val (.int (1 &&& (1 : Int32))), .val (.int sv), .val (.int t0), .unset, .unset, .unset, .unset, .unset, .unset] []))
          exact blk239 _ _ _ f r f2 r2 sv x re rt y b t0 u14 g14 (j + 1) X14 e14 N14 Z14 nb hf hr hf2 hr2 hs hx_ hy_ ht0 ht1 htt F14 sp14.1 (by omega)
        · refine own_icmpYes (n := 227) X14 hx (hb hby at_220) (Jvm.Free.XT.ii_ne_t c220) (by decide) (by decide) ?_
          refine own_iconst (n := 228) X14 hx (0 : Int32) (hb hby at_227) rfl rfl ?_
          refine own_icmpNo (n := 231) X14 hx (hb hby at_228) (Jvm.Free.XT.ii_ne_f (sp14.2.2 (fun z => c220 (own_inj (by omega))))) rfl ?_
          refine own_iconst (n := 232) X14 hx (1 : Int32) (hb hby at_231) rfl rfl ?_
          refine own_goto (n := 236) X14 hx (hb hby at_232) (by decide) (by decide) ?_
          refine own_iand (n := 237) X14 hx (hb hby at_236) rfl ?_
          refine own_istore (n := 239) X14 hx (hb hby at_237) (l' := #[.val (.int p1), .val (.int p2), .val (.int p3), .val (.int p4), .val (.int f), .val (.int r), .val (.int f2), .val (.int r2), .val (.int sv), .val (.int x), .val (.int re), .val (.int rt), .val (.int y), .val (.ref b), .val (.int (1 &&& (1 : Int32))), .val (.int sv), .val (.int t0), .unset, .unset, .unset, .unset, .unset, .unset]) rfl rfl ?_
          show Ends p e below (EF s 16 128) (Q0 Z p1 p2 p3 p4  h0 n0) (T14.setTop (mkF m 239 #[.val (.int p1), .val (.int p2), .val (.int p3), .val (.int p4), .val (.int f), .val (.int r), .val (.int f2), .val (.int r2), .val (.int sv), .val (.int x), .val (.int re), .val (.int rt), .val (.int y), .val (.ref b), .val (.int (1 &&& (1 : Int32))), .val (.int sv), .val (.int t0), .unset, .unset, .unset, .unset, .unset, .unset] []))
          exact blk239 _ _ _ f r f2 r2 sv x re rt y b t0 u14 g14 (j + 1) X14 e14 N14 Z14 nb hf hr hf2 hr2 hs hx_ hy_ ht0 ht1 htt F14 sp14.1 (by omega)
  have blk149 : ∀ (TB : State) (hB : Heap) (lB : List Loc) (f : Int32) (r : Int32) (f2 : Int32) (r2 : Int32) (sv : Int32) (x : Int32) (re : Int32) (rt : Int32) (y : Int32) (b : Addr) (t0 : Int32) (u : Int32) (g : Int32) (j : Int) (XB : Stand p l e room_1 s m #[(.int p1), (.int p2), (.int p3), (.int p4)] below meth c TB lB (0 + 1) (0 + 5)) (eB : TB.heap = hB) (NB : Fr n0 lB) (ZB : n0 ≤ hB.size) (nb : n0 ≤ b) (hf : 1 ≤ f.toInt ∧ f.toInt ≤ 4) (hr : 1 ≤ r.toInt ∧ r.toInt ≤ 4) (hf2 : 1 ≤ f2.toInt ∧ f2.toInt ≤ 4) (hr2 : 1 ≤ r2.toInt ∧ r2.toInt ≤ 4) (hs : sv = 0 ∨ sv = 1) (hx_ : 0 ≤ x.toInt ∧ x.toInt ≤ 3) (hy_ : 0 ≤ y.toInt ∧ y.toInt ≤ 3) (ht0 : sv = 0 → t0 = r) (ht1 : ¬ sv = 0 → t0 = f) (htt : 1 ≤ t0.toInt ∧ t0.toInt ≤ 4) (FB : HP Z hB b f r 1 u g) (hi : INV sv 0 t0.toInt j u g) (hj : j = 0), Ends p e below (EF s 16 128) (Q0 Z p1 p2 p3 p4  h0 n0) (TB.setTop (mkF m 149 #[.val (.int p1), .val (.int p2), .val (.int p3), .val (.int p4), .val (.int f), .val (.int r), .val (.int f2), .val (.int r2), .val (.int sv), .val (.int x), .val (.int re), .val (.int rt), .val (.int y), .val (.ref b), .val (.int 1), .val (.int sv), .val (.int t0), .unset, .unset, .unset, .unset, .unset, .unset] [])) := by
    intro TB hB lB f r f2 r2 sv x re rt y b t0 u g j XB eB NB ZB nb hf hr hf2 hr2 hs hx_ hy_ ht0 ht1 htt FB hi hj
    refine own_iload (n := 151) XB hx (hb hby at_149) rfl rfl ?_
    refine own_iconst (n := 152) XB hx (1 : Int32) (hb hby at_151) rfl rfl ?_
    by_cases c152 : x < (1 : Int32)
    · refine own_icmpYes (n := 194) XB hx (hb hby at_152) (Jvm.Free.XT.ii_lt_t c152) (by decide) (by decide) ?_
      show Ends p e below (EF s 16 128) (Q0 Z p1 p2 p3 p4  h0 n0) (TB.setTop (mkF m 194 #[.val (.int p1), .val (.int p2), .val (.int p3), .val (.int p4), .val (.int f), .val (.int r), .val (.int f2), .val (.int r2), .val (.int sv), .val (.int x), .val (.int re), .val (.int rt), .val (.int y), .val (.ref b), .val (.int 1), .val (.int sv), .val (.int t0), .unset, .unset, .unset, .unset, .unset, .unset] []))
      rw [Int32.lt_iff_toInt_lt] at c152
      exact blk194 _ _ _ f r f2 r2 sv x re rt y b t0 u g j XB eB NB ZB nb hf hr hf2 hr2 hs hx_ hy_ ht0 ht1 htt FB hi (by omega)
    · refine own_icmpNo (n := 155) XB hx (hb hby at_152) (Jvm.Free.XT.ii_lt_f c152) rfl ?_
      refine own_iload (n := 157) XB hx (hb hby at_155) rfl rfl ?_
      refine own_aload (n := 159) XB hx (hb hby at_157) rfl rfl rfl ?_
      refine own_iload (n := 161) XB hx (hb hby at_159) rfl rfl ?_
      by_cases c161 : sv = 0
      · refine own_ifNo (n := 164) XB hx (hb hby at_161) (Jvm.Free.XT.i0_ne_f c161) rfl ?_
        refine own_iconst (n := 165) XB hx (1 : Int32) (hb hby at_164) rfl rfl ?_
        refine own_goto (n := 169) XB hx (hb hby at_165) (by decide) (by decide) ?_
        refine own_callV (n := 172) XB hx hZ hown (hw _ (List.mem_of_getElem? (i := 15) rfl)) (hw _ (List.mem_of_getElem? (i := 16) rfl)) (hw _ (List.mem_of_getElem? (i := 18) rfl)) (hw _ (List.mem_of_getElem? (i := 17) rfl)) (hw _ (List.mem_of_getElem? (i := 2) rfl)) (hw _ (List.mem_of_getElem? (i := 19) rfl)) (by decide) eB FB.1 (rm3 l Z a0 hw [] b (1 : Int32) f r (1) u g hB n0 ZB FB nb (by decide)) (W := 1) (by decide) (by decide) (by decide) (by decide) (by rw [hml]; rfl) (argsL := [(.int (1 : Int32))]) (rest := [(.int 1)]) pd_3 rfl (by rfl) (Nat.le_of_eq rfl) (hb hby at_169) rfl rfl ?_
        intro v15 T15 h15 L15 X15 e15 q15
        obtain ⟨rv15, u15, g15, re15, rfl, M15, K15, F15⟩ := q15
        have N15 := Fr.app NB M15
        have Z15 : n0 ≤ h15.size := Nat.le_trans ZB K15.1
        rw [Int32.lt_iff_toInt_lt] at c152
        have sp15 := own_step (s := sv) (t := t0) (run := 0) (k := t0.toInt) (j := j) hs ht0 ht1 (by omega) (by omega) (by omega) (by omega) (by omega) (by omega) (by omega) (q := (1 : Int32)) (by simp [neg, c161]) hi re15
        refine own_iload (n := 174) X15 hx (hb hby at_172) rfl rfl ?_
        refine own_iconst (n := 175) X15 hx (1 : Int32) (hb hby at_174) rfl rfl ?_
        by_cases c175 : t0 = (1 : Int32)
        · refine own_icmpNo (n := 178) X15 hx (hb hby at_175) (Jvm.Free.XT.ii_ne_f c175) rfl ?_
          refine own_iconst (n := 179) X15 hx (1 : Int32) (hb hby at_178) rfl rfl ?_
          refine own_goto (n := 183) X15 hx (hb hby at_179) (by decide) (by decide) ?_
          refine own_icmpNo (n := 186) X15 hx (hb hby at_183) (Jvm.Free.XT.ii_ne_f (sp15.2.1 (by rw [c175]; omega))) rfl ?_
          refine own_iconst (n := 187) X15 hx (1 : Int32) (hb hby at_186) rfl rfl ?_
          refine own_goto (n := 191) X15 hx (hb hby at_187) (by decide) (by decide) ?_
          refine own_iand (n := 192) X15 hx (hb hby at_191) rfl ?_
          refine own_istore (n := 194) X15 hx (hb hby at_192) (l' := #[.val (.int p1), .val (.int p2), .val (.int p3), .val (.int p4), .val (.int f), .val (.int r), .val (.int f2), .val (.int r2), .val (.int sv), .val (.int x), .val (.int re), .val (.int rt), .val (.int y), .val (.ref b), .val (.int (1 &&& (1 : Int32))), .val (.int sv), .val (.int t0), .unset, .unset, .unset, .unset, .unset, .unset]) rfl rfl ?_
          show Ends p e below (EF s 16 128) (Q0 Z p1 p2 p3 p4  h0 n0) (T15.setTop (mkF m 194 #[.val (.int p1), .val (.int p2), .val (.int p3), .val (.int p4), .val (.int f), .val (.int r), .val (.int f2), .val (.int r2), .val (.int sv), .val (.int x), .val (.int re), .val (.int rt), .val (.int y), .val (.ref b), .val (.int (1 &&& (1 : Int32))), .val (.int sv), .val (.int t0), .unset, .unset, .unset, .unset, .unset, .unset] []))
          exact blk194 _ _ _ f r f2 r2 sv x re rt y b t0 u15 g15 (j + 1) X15 e15 N15 Z15 nb hf hr hf2 hr2 hs hx_ hy_ ht0 ht1 htt F15 sp15.1 (by omega)
        · refine own_icmpYes (n := 182) X15 hx (hb hby at_175) (Jvm.Free.XT.ii_ne_t c175) (by decide) (by decide) ?_
          refine own_iconst (n := 183) X15 hx (0 : Int32) (hb hby at_182) rfl rfl ?_
          refine own_icmpNo (n := 186) X15 hx (hb hby at_183) (Jvm.Free.XT.ii_ne_f (sp15.2.2 (fun z => c175 (own_inj (by omega))))) rfl ?_
          refine own_iconst (n := 187) X15 hx (1 : Int32) (hb hby at_186) rfl rfl ?_
          refine own_goto (n := 191) X15 hx (hb hby at_187) (by decide) (by decide) ?_
          refine own_iand (n := 192) X15 hx (hb hby at_191) rfl ?_
          refine own_istore (n := 194) X15 hx (hb hby at_192) (l' := #[.val (.int p1), .val (.int p2), .val (.int p3), .val (.int p4), .val (.int f), .val (.int r), .val (.int f2), .val (.int r2), .val (.int sv), .val (.int x), .val (.int re), .val (.int rt), .val (.int y), .val (.ref b), .val (.int (1 &&& (1 : Int32))), .val (.int sv), .val (.int t0), .unset, .unset, .unset, .unset, .unset, .unset]) rfl rfl ?_
          show Ends p e below (EF s 16 128) (Q0 Z p1 p2 p3 p4  h0 n0) (T15.setTop (mkF m 194 #[.val (.int p1), .val (.int p2), .val (.int p3), .val (.int p4), .val (.int f), .val (.int r), .val (.int f2), .val (.int r2), .val (.int sv), .val (.int x), .val (.int re), .val (.int rt), .val (.int y), .val (.ref b), .val (.int (1 &&& (1 : Int32))), .val (.int sv), .val (.int t0), .unset, .unset, .unset, .unset, .unset, .unset] []))
          exact blk194 _ _ _ f r f2 r2 sv x re rt y b t0 u15 g15 (j + 1) X15 e15 N15 Z15 nb hf hr hf2 hr2 hs hx_ hy_ ht0 ht1 htt F15 sp15.1 (by omega)
      · refine own_ifYes (n := 168) XB hx (hb hby at_161) (Jvm.Free.XT.i0_ne_t c161) (by decide) (by decide) ?_
        refine own_iconst (n := 169) XB hx (0 : Int32) (hb hby at_168) rfl rfl ?_
        refine own_callV (n := 172) XB hx hZ hown (hw _ (List.mem_of_getElem? (i := 15) rfl)) (hw _ (List.mem_of_getElem? (i := 16) rfl)) (hw _ (List.mem_of_getElem? (i := 18) rfl)) (hw _ (List.mem_of_getElem? (i := 17) rfl)) (hw _ (List.mem_of_getElem? (i := 2) rfl)) (hw _ (List.mem_of_getElem? (i := 19) rfl)) (by decide) eB FB.1 (rm3 l Z a0 hw [] b (0 : Int32) f r (1) u g hB n0 ZB FB nb (by decide)) (W := 1) (by decide) (by decide) (by decide) (by decide) (by rw [hml]; rfl) (argsL := [(.int (0 : Int32))]) (rest := [(.int 1)]) pd_3 rfl (by rfl) (Nat.le_of_eq rfl) (hb hby at_169) rfl rfl ?_
        intro v16 T16 h16 L16 X16 e16 q16
        obtain ⟨rv16, u16, g16, re16, rfl, M16, K16, F16⟩ := q16
        have N16 := Fr.app NB M16
        have Z16 : n0 ≤ h16.size := Nat.le_trans ZB K16.1
        rw [Int32.lt_iff_toInt_lt] at c152
        have sp16 := own_step (s := sv) (t := t0) (run := 0) (k := t0.toInt) (j := j) hs ht0 ht1 (by omega) (by omega) (by omega) (by omega) (by omega) (by omega) (by omega) (q := (0 : Int32)) (by simp [neg, c161]) hi re16
        refine own_iload (n := 174) X16 hx (hb hby at_172) rfl rfl ?_
        refine own_iconst (n := 175) X16 hx (1 : Int32) (hb hby at_174) rfl rfl ?_
        by_cases c175 : t0 = (1 : Int32)
        · refine own_icmpNo (n := 178) X16 hx (hb hby at_175) (Jvm.Free.XT.ii_ne_f c175) rfl ?_
          refine own_iconst (n := 179) X16 hx (1 : Int32) (hb hby at_178) rfl rfl ?_
          refine own_goto (n := 183) X16 hx (hb hby at_179) (by decide) (by decide) ?_
          refine own_icmpNo (n := 186) X16 hx (hb hby at_183) (Jvm.Free.XT.ii_ne_f (sp16.2.1 (by rw [c175]; omega))) rfl ?_
          refine own_iconst (n := 187) X16 hx (1 : Int32) (hb hby at_186) rfl rfl ?_
          refine own_goto (n := 191) X16 hx (hb hby at_187) (by decide) (by decide) ?_
          refine own_iand (n := 192) X16 hx (hb hby at_191) rfl ?_
          refine own_istore (n := 194) X16 hx (hb hby at_192) (l' := #[.val (.int p1), .val (.int p2), .val (.int p3), .val (.int p4), .val (.int f), .val (.int r), .val (.int f2), .val (.int r2), .val (.int sv), .val (.int x), .val (.int re), .val (.int rt), .val (.int y), .val (.ref b), .val (.int (1 &&& (1 : Int32))), .val (.int sv), .val (.int t0), .unset, .unset, .unset, .unset, .unset, .unset]) rfl rfl ?_
          show Ends p e below (EF s 16 128) (Q0 Z p1 p2 p3 p4  h0 n0) (T16.setTop (mkF m 194 #[.val (.int p1), .val (.int p2), .val (.int p3), .val (.int p4), .val (.int f), .val (.int r), .val (.int f2), .val (.int r2), .val (.int sv), .val (.int x), .val (.int re), .val (.int rt), .val (.int y), .val (.ref b), .val (.int (1 &&& (1 : Int32))), .val (.int sv), .val (.int t0), .unset, .unset, .unset, .unset, .unset, .unset] []))
          exact blk194 _ _ _ f r f2 r2 sv x re rt y b t0 u16 g16 (j + 1) X16 e16 N16 Z16 nb hf hr hf2 hr2 hs hx_ hy_ ht0 ht1 htt F16 sp16.1 (by omega)
        · refine own_icmpYes (n := 182) X16 hx (hb hby at_175) (Jvm.Free.XT.ii_ne_t c175) (by decide) (by decide) ?_
          refine own_iconst (n := 183) X16 hx (0 : Int32) (hb hby at_182) rfl rfl ?_
          refine own_icmpNo (n := 186) X16 hx (hb hby at_183) (Jvm.Free.XT.ii_ne_f (sp16.2.2 (fun z => c175 (own_inj (by omega))))) rfl ?_
          refine own_iconst (n := 187) X16 hx (1 : Int32) (hb hby at_186) rfl rfl ?_
          refine own_goto (n := 191) X16 hx (hb hby at_187) (by decide) (by decide) ?_
          refine own_iand (n := 192) X16 hx (hb hby at_191) rfl ?_
          refine own_istore (n := 194) X16 hx (hb hby at_192) (l' := #[.val (.int p1), .val (.int p2), .val (.int p3), .val (.int p4), .val (.int f), .val (.int r), .val (.int f2), .val (.int r2), .val (.int sv), .val (.int x), .val (.int re), .val (.int rt), .val (.int y), .val (.ref b), .val (.int (1 &&& (1 : Int32))), .val (.int sv), .val (.int t0), .unset, .unset, .unset, .unset, .unset, .unset]) rfl rfl ?_
          show Ends p e below (EF s 16 128) (Q0 Z p1 p2 p3 p4  h0 n0) (T16.setTop (mkF m 194 #[.val (.int p1), .val (.int p2), .val (.int p3), .val (.int p4), .val (.int f), .val (.int r), .val (.int f2), .val (.int r2), .val (.int sv), .val (.int x), .val (.int re), .val (.int rt), .val (.int y), .val (.ref b), .val (.int (1 &&& (1 : Int32))), .val (.int sv), .val (.int t0), .unset, .unset, .unset, .unset, .unset, .unset] []))
          exact blk194 _ _ _ f r f2 r2 sv x re rt y b t0 u16 g16 (j + 1) X16 e16 N16 Z16 nb hf hr hf2 hr2 hs hx_ hy_ ht0 ht1 htt F16 sp16.1 (by omega)
  have blk78 : ∀ (f : Int32) (r : Int32) (f2 : Int32) (r2 : Int32) (sv : Int32) (x : Int32) (re : Int32) (rt : Int32), (1 ≤ f.toInt ∧ f.toInt ≤ 4) → (1 ≤ r.toInt ∧ r.toInt ≤ 4) → (1 ≤ f2.toInt ∧ f2.toInt ≤ 4) → (1 ≤ r2.toInt ∧ r2.toInt ≤ 4) → (sv = 0 ∨ sv = 1) → (0 ≤ x.toInt ∧ x.toInt ≤ 3) → Ends p e below (EF s 16 128) (Q0 Z p1 p2 p3 p4  h0 n0) (s₁.setTop (mkF m 78 #[.val (.int p1), .val (.int p2), .val (.int p3), .val (.int p4), .val (.int f), .val (.int r), .val (.int f2), .val (.int r2), .val (.int sv), .val (.int x), .val (.int re), .val (.int rt), .unset, .unset, .unset, .unset, .unset, .unset, .unset, .unset, .unset, .unset, .unset] [])) := by
    intro f r f2 r2 sv x re rt hf hr hf2 hr2 hs hx_
    refine own_iloadN (n := 79) X0 hx (hb hby at_78) rfl rfl ?_
    refine own_iconst (n := 80) X0 hx (5 : Int32) (hb hby at_79) rfl rfl ?_
    refine own_iushr (n := 81) X0 hx (hb hby at_80) rfl ?_
    refine own_iconst (n := 82) X0 hx (3 : Int32) (hb hby at_81) rfl rfl ?_
    refine own_iand (n := 83) X0 hx (hb hby at_82) rfl ?_
    refine own_istore (n := 85) X0 hx (hb hby at_83) (l' := #[.val (.int p1), .val (.int p2), .val (.int p3), .val (.int p4), .val (.int f), .val (.int r), .val (.int f2), .val (.int r2), .val (.int sv), .val (.int x), .val (.int re), .val (.int rt), .val (.int (((p4.toUInt32 >>> ((5 : Int32) &&& 31).toUInt32).toInt32) &&& (3 : Int32))), .unset, .unset, .unset, .unset, .unset, .unset, .unset, .unset, .unset, .unset]) rfl rfl ?_
    show Ends p e below (EF s 16 128) (Q0 Z p1 p2 p3 p4  h0 n0) (s₁.setTop (mkF m 85 #[.val (.int p1), .val (.int p2), .val (.int p3), .val (.int p4), .val (.int f), .val (.int r), .val (.int f2), .val (.int r2), .val (.int sv), .val (.int x), .val (.int re), .val (.int rt), .val (.int (((p4.toUInt32 >>> ((5 : Int32) &&& 31).toUInt32).toInt32) &&& (3 : Int32))), .unset, .unset, .unset, .unset, .unset, .unset, .unset, .unset, .unset, .unset] []))
    generalize g_y : (((p4.toUInt32 >>> ((5 : Int32) &&& 31).toUInt32).toInt32) &&& (3 : Int32)) = y
    refine own_newO (n := 88) X0 hx hZ hown (hw _ (List.mem_of_getElem? (i := 0) rfl)) (hw _ (List.mem_of_getElem? (i := 1) rfl)) (hw _ (List.mem_of_getElem? (i := 2) rfl)) e0 (by decide) (by decide) (hb hby at_85) rfl ?_
    intro T17 h17 b17 X17 e17 g17 E17 A17 D17
    have Z17 : n0 ≤ h17.size := Nat.le_trans Z0 E17.1
    have nb_b17 : n0 ≤ b17 := Nat.le_trans Z0 (Nat.le_of_eq g17.symm)
    have N17_b17 : HP Z h17 b17 (0) (0) (0) (0) (0) := ⟨A17, D17 (Or.inl (hw _ (List.mem_of_getElem? (i := 12) rfl))) (ty := .int) (by decide), D17 (Or.inl (hw _ (List.mem_of_getElem? (i := 14) rfl))) (ty := .int) (by decide), D17 (Or.inl (hw _ (List.mem_of_getElem? (i := 21) rfl))) (ty := .boolean) (by decide), D17 (Or.inl (hw _ (List.mem_of_getElem? (i := 10) rfl))) (ty := .boolean) (by decide), D17 (Or.inl (hw _ (List.mem_of_getElem? (i := 32) rfl))) (ty := .int) (by decide)⟩
    refine own_dup (n := 89) X17 hx (hb hby at_88) rfl rfl ?_
    refine own_iload (n := 91) X17 hx (hb hby at_89) rfl rfl ?_
    refine own_iload (n := 93) X17 hx (hb hby at_91) rfl rfl ?_
    refine own_callN (n := 96) X17 hx hZ rfl hown (hw _ (List.mem_of_getElem? (i := 3) rfl)) (hw _ (List.mem_of_getElem? (i := 4) rfl)) (hw _ (List.mem_of_getElem? (i := 2) rfl)) (hw _ (List.mem_of_getElem? (i := 5) rfl)) (by decide) e17 (rm1 l Z a0 hw [] b17 f r h17 n0 Z17 N17_b17 nb_b17) (W := 1) (by decide) (by decide) (by decide) (by decide) (by rw [hml]; rfl) (argsL := [(.int f), (.int r)]) (rest := [(.ref b17)]) pd_1 rfl (a := b17) (by rfl) (Nat.le_of_eq rfl) (hb hby at_93) rfl rfl ?_
    intro v18 T18 h18 L18 X18 e18 q18
    obtain ⟨rfl, M18, K18, F18⟩ := q18
    have N18 := Fr.app N0 M18
    have Z18 : n0 ≤ h18.size := Nat.le_trans Z17 K18.1
    refine own_astore (n := 98) X18 hx (hb hby at_96) rfl (l' := #[.val (.int p1), .val (.int p2), .val (.int p3), .val (.int p4), .val (.int f), .val (.int r), .val (.int f2), .val (.int r2), .val (.int sv), .val (.int x), .val (.int re), .val (.int rt), .val (.int y), .val (.ref b17), .unset, .unset, .unset, .unset, .unset, .unset, .unset, .unset, .unset]) rfl rfl ?_
    refine own_iconst (n := 99) X18 hx (1 : Int32) (hb hby at_98) rfl rfl ?_
    refine own_istore (n := 101) X18 hx (hb hby at_99) (l' := #[.val (.int p1), .val (.int p2), .val (.int p3), .val (.int p4), .val (.int f), .val (.int r), .val (.int f2), .val (.int r2), .val (.int sv), .val (.int x), .val (.int re), .val (.int rt), .val (.int y), .val (.ref b17), .val (.int (1 : Int32)), .unset, .unset, .unset, .unset, .unset, .unset, .unset, .unset]) rfl rfl ?_
    refine own_iload (n := 103) X18 hx (hb hby at_101) rfl rfl ?_
    refine own_aload (n := 105) X18 hx (hb hby at_103) rfl rfl rfl ?_
    refine own_iload (n := 107) X18 hx (hb hby at_105) rfl rfl ?_
    refine own_callV (n := 110) X18 hx hZ hown (hw _ (List.mem_of_getElem? (i := 15) rfl)) (hw _ (List.mem_of_getElem? (i := 16) rfl)) (hw _ (List.mem_of_getElem? (i := 18) rfl)) (hw _ (List.mem_of_getElem? (i := 17) rfl)) (hw _ (List.mem_of_getElem? (i := 2) rfl)) (hw _ (List.mem_of_getElem? (i := 19) rfl)) (by decide) e18 F18.1 (rm3 l Z a0 hw [] b17 sv f r (0) (1) (0) h18 n0 Z18 F18 nb_b17 (by decide)) (W := 1) (by decide) (by decide) (by decide) (by decide) (by rw [hml]; rfl) (argsL := [(.int sv)]) (rest := [(.int (1 : Int32))]) pd_3 rfl (by rfl) (Nat.le_of_eq rfl) (hb hby at_107) rfl rfl ?_
    intro v19 T19 h19 L19 X19 e19 q19
    obtain ⟨rv19, u19, g19, re19, rfl, M19, K19, F19⟩ := q19
    have N19 := Fr.app N18 M19
    have Z19 : n0 ≤ h19.size := Nat.le_trans Z18 K19.1
    have hz19 : (sv = 0 → rv19 = 1) ∧ (¬ sv = 0 → rv19 = 0) ∧ u19 = sv ∧ g19 = 0 := by
      rcases hs with rfl | rfl
      · have z := re19; simp [recF, neg] at z; obtain ⟨z1, z2, z3⟩ := z; exact ⟨fun _ => z1.symm, fun y => absurd rfl y, z2.symm, z3.symm⟩
      · have z := re19; simp [recF, neg] at z; obtain ⟨z1, z2, z3⟩ := z; exact ⟨fun y => absurd y (by decide), fun _ => z1.symm, z2.symm, z3.symm⟩
    refine own_iload (n := 112) X19 hx (hb hby at_110) rfl rfl ?_
    by_cases c112 : sv = 0
    · refine own_ifNo (n := 115) X19 hx (hb hby at_112) (Jvm.Free.XT.i0_ne_f c112) rfl ?_
      refine own_iconst (n := 116) X19 hx (1 : Int32) (hb hby at_115) rfl rfl ?_
      refine own_goto (n := 120) X19 hx (hb hby at_116) (by decide) (by decide) ?_
      refine own_icmpNo (n := 123) X19 hx (hb hby at_120) (Jvm.Free.XT.ii_ne_f (hz19.1 c112)) rfl ?_
      refine own_iconst (n := 124) X19 hx (1 : Int32) (hb hby at_123) rfl rfl ?_
      refine own_goto (n := 128) X19 hx (hb hby at_124) (by decide) (by decide) ?_
      refine own_iand (n := 129) X19 hx (hb hby at_128) rfl ?_
      refine own_istore (n := 131) X19 hx (hb hby at_129) (l' := #[.val (.int p1), .val (.int p2), .val (.int p3), .val (.int p4), .val (.int f), .val (.int r), .val (.int f2), .val (.int r2), .val (.int sv), .val (.int x), .val (.int re), .val (.int rt), .val (.int y), .val (.ref b17), .val (.int ((1 : Int32) &&& (1 : Int32))), .unset, .unset, .unset, .unset, .unset, .unset, .unset, .unset]) rfl rfl ?_
      refine own_iload (n := 133) X19 hx (hb hby at_131) rfl rfl ?_
      refine own_istore (n := 135) X19 hx (hb hby at_133) (l' := #[.val (.int p1), .val (.int p2), .val (.int p3), .val (.int p4), .val (.int f), .val (.int r), .val (.int f2), .val (.int r2), .val (.int sv), .val (.int x), .val (.int re), .val (.int rt), .val (.int y), .val (.ref b17), .val (.int ((1 : Int32) &&& (1 : Int32))), .val (.int sv), .unset, .unset, .unset, .unset, .unset, .unset, .unset]) rfl rfl ?_
      refine own_iload (n := 137) X19 hx (hb hby at_135) rfl rfl ?_
      by_cases c137 : sv = 0
      · refine own_ifYes (n := 145) X19 hx (hb hby at_137) (Jvm.Free.XT.i0_eq_t c137) (by decide) (by decide) ?_
        refine own_iload (n := 147) X19 hx (hb hby at_145) rfl rfl ?_
        refine own_istore (n := 149) X19 hx (hb hby at_147) (l' := #[.val (.int p1), .val (.int p2), .val (.int p3), .val (.int p4), .val (.int f), .val (.int r), .val (.int f2), .val (.int r2), .val (.int sv), .val (.int x), .val (.int re), .val (.int rt), .val (.int y), .val (.ref b17), .val (.int ((1 : Int32) &&& (1 : Int32))), .val (.int sv), .val (.int r), .unset, .unset, .unset, .unset, .unset, .unset]) rfl rfl ?_
        show Ends p e below (EF s 16 128) (Q0 Z p1 p2 p3 p4  h0 n0) (T19.setTop (mkF m 149 #[.val (.int p1), .val (.int p2), .val (.int p3), .val (.int p4), .val (.int f), .val (.int r), .val (.int f2), .val (.int r2), .val (.int sv), .val (.int x), .val (.int re), .val (.int rt), .val (.int y), .val (.ref b17), .val (.int ((1 : Int32) &&& (1 : Int32))), .val (.int sv), .val (.int r), .unset, .unset, .unset, .unset, .unset, .unset] []))
        rw [hz19.2.2.1, hz19.2.2.2] at F19
        have hy_ : 0 ≤ y.toInt ∧ y.toInt ≤ 3 := by rw [← g_y]; exact own_m3 _
        exact blk149 _ _ _ f r f2 r2 sv x re rt y b17 r sv (0) (0) X19 e19 N19 Z19 nb_b17 hf hr hf2 hr2 hs hx_ hy_ (fun q => rfl) (fun q => absurd c137 q) hr F19 (⟨fun _ => ⟨rfl, by omega⟩, fun _ => by omega⟩) rfl
      · refine own_ifNo (n := 140) X19 hx (hb hby at_137) (Jvm.Free.XT.i0_eq_f c137) rfl ?_
        refine own_iload (n := 142) X19 hx (hb hby at_140) rfl rfl ?_
        refine own_goto (n := 147) X19 hx (hb hby at_142) (by decide) (by decide) ?_
        refine own_istore (n := 149) X19 hx (hb hby at_147) (l' := #[.val (.int p1), .val (.int p2), .val (.int p3), .val (.int p4), .val (.int f), .val (.int r), .val (.int f2), .val (.int r2), .val (.int sv), .val (.int x), .val (.int re), .val (.int rt), .val (.int y), .val (.ref b17), .val (.int ((1 : Int32) &&& (1 : Int32))), .val (.int sv), .val (.int f), .unset, .unset, .unset, .unset, .unset, .unset]) rfl rfl ?_
        show Ends p e below (EF s 16 128) (Q0 Z p1 p2 p3 p4  h0 n0) (T19.setTop (mkF m 149 #[.val (.int p1), .val (.int p2), .val (.int p3), .val (.int p4), .val (.int f), .val (.int r), .val (.int f2), .val (.int r2), .val (.int sv), .val (.int x), .val (.int re), .val (.int rt), .val (.int y), .val (.ref b17), .val (.int ((1 : Int32) &&& (1 : Int32))), .val (.int sv), .val (.int f), .unset, .unset, .unset, .unset, .unset, .unset] []))
        rw [hz19.2.2.1, hz19.2.2.2] at F19
        have hy_ : 0 ≤ y.toInt ∧ y.toInt ≤ 3 := by rw [← g_y]; exact own_m3 _
        exact blk149 _ _ _ f r f2 r2 sv x re rt y b17 f sv (0) (0) X19 e19 N19 Z19 nb_b17 hf hr hf2 hr2 hs hx_ hy_ (fun q => absurd q c137) (fun q => rfl) hf F19 (⟨fun _ => ⟨rfl, by omega⟩, fun _ => by omega⟩) rfl
    · refine own_ifYes (n := 119) X19 hx (hb hby at_112) (Jvm.Free.XT.i0_ne_t c112) (by decide) (by decide) ?_
      refine own_iconst (n := 120) X19 hx (0 : Int32) (hb hby at_119) rfl rfl ?_
      refine own_icmpNo (n := 123) X19 hx (hb hby at_120) (Jvm.Free.XT.ii_ne_f (hz19.2.1 c112)) rfl ?_
      refine own_iconst (n := 124) X19 hx (1 : Int32) (hb hby at_123) rfl rfl ?_
      refine own_goto (n := 128) X19 hx (hb hby at_124) (by decide) (by decide) ?_
      refine own_iand (n := 129) X19 hx (hb hby at_128) rfl ?_
      refine own_istore (n := 131) X19 hx (hb hby at_129) (l' := #[.val (.int p1), .val (.int p2), .val (.int p3), .val (.int p4), .val (.int f), .val (.int r), .val (.int f2), .val (.int r2), .val (.int sv), .val (.int x), .val (.int re), .val (.int rt), .val (.int y), .val (.ref b17), .val (.int ((1 : Int32) &&& (1 : Int32))), .unset, .unset, .unset, .unset, .unset, .unset, .unset, .unset]) rfl rfl ?_
      refine own_iload (n := 133) X19 hx (hb hby at_131) rfl rfl ?_
      refine own_istore (n := 135) X19 hx (hb hby at_133) (l' := #[.val (.int p1), .val (.int p2), .val (.int p3), .val (.int p4), .val (.int f), .val (.int r), .val (.int f2), .val (.int r2), .val (.int sv), .val (.int x), .val (.int re), .val (.int rt), .val (.int y), .val (.ref b17), .val (.int ((1 : Int32) &&& (1 : Int32))), .val (.int sv), .unset, .unset, .unset, .unset, .unset, .unset, .unset]) rfl rfl ?_
      refine own_iload (n := 137) X19 hx (hb hby at_135) rfl rfl ?_
      by_cases c137 : sv = 0
      · refine own_ifYes (n := 145) X19 hx (hb hby at_137) (Jvm.Free.XT.i0_eq_t c137) (by decide) (by decide) ?_
        refine own_iload (n := 147) X19 hx (hb hby at_145) rfl rfl ?_
        refine own_istore (n := 149) X19 hx (hb hby at_147) (l' := #[.val (.int p1), .val (.int p2), .val (.int p3), .val (.int p4), .val (.int f), .val (.int r), .val (.int f2), .val (.int r2), .val (.int sv), .val (.int x), .val (.int re), .val (.int rt), .val (.int y), .val (.ref b17), .val (.int ((1 : Int32) &&& (1 : Int32))), .val (.int sv), .val (.int r), .unset, .unset, .unset, .unset, .unset, .unset]) rfl rfl ?_
        show Ends p e below (EF s 16 128) (Q0 Z p1 p2 p3 p4  h0 n0) (T19.setTop (mkF m 149 #[.val (.int p1), .val (.int p2), .val (.int p3), .val (.int p4), .val (.int f), .val (.int r), .val (.int f2), .val (.int r2), .val (.int sv), .val (.int x), .val (.int re), .val (.int rt), .val (.int y), .val (.ref b17), .val (.int ((1 : Int32) &&& (1 : Int32))), .val (.int sv), .val (.int r), .unset, .unset, .unset, .unset, .unset, .unset] []))
        rw [hz19.2.2.1, hz19.2.2.2] at F19
        have hy_ : 0 ≤ y.toInt ∧ y.toInt ≤ 3 := by rw [← g_y]; exact own_m3 _
        exact blk149 _ _ _ f r f2 r2 sv x re rt y b17 r sv (0) (0) X19 e19 N19 Z19 nb_b17 hf hr hf2 hr2 hs hx_ hy_ (fun q => rfl) (fun q => absurd c137 q) hr F19 (⟨fun _ => ⟨rfl, by omega⟩, fun _ => by omega⟩) rfl
      · refine own_ifNo (n := 140) X19 hx (hb hby at_137) (Jvm.Free.XT.i0_eq_f c137) rfl ?_
        refine own_iload (n := 142) X19 hx (hb hby at_140) rfl rfl ?_
        refine own_goto (n := 147) X19 hx (hb hby at_142) (by decide) (by decide) ?_
        refine own_istore (n := 149) X19 hx (hb hby at_147) (l' := #[.val (.int p1), .val (.int p2), .val (.int p3), .val (.int p4), .val (.int f), .val (.int r), .val (.int f2), .val (.int r2), .val (.int sv), .val (.int x), .val (.int re), .val (.int rt), .val (.int y), .val (.ref b17), .val (.int ((1 : Int32) &&& (1 : Int32))), .val (.int sv), .val (.int f), .unset, .unset, .unset, .unset, .unset, .unset]) rfl rfl ?_
        show Ends p e below (EF s 16 128) (Q0 Z p1 p2 p3 p4  h0 n0) (T19.setTop (mkF m 149 #[.val (.int p1), .val (.int p2), .val (.int p3), .val (.int p4), .val (.int f), .val (.int r), .val (.int f2), .val (.int r2), .val (.int sv), .val (.int x), .val (.int re), .val (.int rt), .val (.int y), .val (.ref b17), .val (.int ((1 : Int32) &&& (1 : Int32))), .val (.int sv), .val (.int f), .unset, .unset, .unset, .unset, .unset, .unset] []))
        rw [hz19.2.2.1, hz19.2.2.2] at F19
        have hy_ : 0 ≤ y.toInt ∧ y.toInt ≤ 3 := by rw [← g_y]; exact own_m3 _
        exact blk149 _ _ _ f r f2 r2 sv x re rt y b17 f sv (0) (0) X19 e19 N19 Z19 nb_b17 hf hr hf2 hr2 hs hx_ hy_ (fun q => absurd q c137) (fun q => rfl) hf F19 (⟨fun _ => ⟨rfl, by omega⟩, fun _ => by omega⟩) rfl
  have blk64 : ∀ (f : Int32) (r : Int32) (f2 : Int32) (r2 : Int32) (sv : Int32) (x : Int32) (re : Int32), (1 ≤ f.toInt ∧ f.toInt ≤ 4) → (1 ≤ r.toInt ∧ r.toInt ≤ 4) → (1 ≤ f2.toInt ∧ f2.toInt ≤ 4) → (1 ≤ r2.toInt ∧ r2.toInt ≤ 4) → (sv = 0 ∨ sv = 1) → (0 ≤ x.toInt ∧ x.toInt ≤ 3) → Ends p e below (EF s 16 128) (Q0 Z p1 p2 p3 p4  h0 n0) (s₁.setTop (mkF m 64 #[.val (.int p1), .val (.int p2), .val (.int p3), .val (.int p4), .val (.int f), .val (.int r), .val (.int f2), .val (.int r2), .val (.int sv), .val (.int x), .val (.int re), .unset, .unset, .unset, .unset, .unset, .unset, .unset, .unset, .unset, .unset, .unset, .unset] [])) := by
    intro f r f2 r2 sv x re hf hr hf2 hr2 hs hx_
    refine own_iloadN (n := 65) X0 hx (hb hby at_64) rfl rfl ?_
    refine own_bipush (n := 67) X0 hx (16 : Int32) (hb hby at_65) rfl rfl ?_
    refine own_iand (n := 68) X0 hx (hb hby at_67) rfl ?_
    by_cases c68 : (p4 &&& (16 : Int32)) = 0
    · refine own_ifYes (n := 75) X0 hx (hb hby at_68) (Jvm.Free.XT.i0_eq_t c68) (by decide) (by decide) ?_
      refine own_iconst (n := 76) X0 hx (0 : Int32) (hb hby at_75) rfl rfl ?_
      refine own_istore (n := 78) X0 hx (hb hby at_76) (l' := #[.val (.int p1), .val (.int p2), .val (.int p3), .val (.int p4), .val (.int f), .val (.int r), .val (.int f2), .val (.int r2), .val (.int sv), .val (.int x), .val (.int re), .val (.int (0 : Int32)), .unset, .unset, .unset, .unset, .unset, .unset, .unset, .unset, .unset, .unset, .unset]) rfl rfl ?_
      show Ends p e below (EF s 16 128) (Q0 Z p1 p2 p3 p4  h0 n0) (s₁.setTop (mkF m 78 #[.val (.int p1), .val (.int p2), .val (.int p3), .val (.int p4), .val (.int f), .val (.int r), .val (.int f2), .val (.int r2), .val (.int sv), .val (.int x), .val (.int re), .val (.int (0 : Int32)), .unset, .unset, .unset, .unset, .unset, .unset, .unset, .unset, .unset, .unset, .unset] []))
      exact blk78 f r f2 r2 sv x re (0 : Int32) hf hr hf2 hr2 hs hx_
    · refine own_ifNo (n := 71) X0 hx (hb hby at_68) (Jvm.Free.XT.i0_eq_f c68) rfl ?_
      refine own_iconst (n := 72) X0 hx (1 : Int32) (hb hby at_71) rfl rfl ?_
      refine own_goto (n := 76) X0 hx (hb hby at_72) (by decide) (by decide) ?_
      refine own_istore (n := 78) X0 hx (hb hby at_76) (l' := #[.val (.int p1), .val (.int p2), .val (.int p3), .val (.int p4), .val (.int f), .val (.int r), .val (.int f2), .val (.int r2), .val (.int sv), .val (.int x), .val (.int re), .val (.int (1 : Int32)), .unset, .unset, .unset, .unset, .unset, .unset, .unset, .unset, .unset, .unset, .unset]) rfl rfl ?_
      show Ends p e below (EF s 16 128) (Q0 Z p1 p2 p3 p4  h0 n0) (s₁.setTop (mkF m 78 #[.val (.int p1), .val (.int p2), .val (.int p3), .val (.int p4), .val (.int f), .val (.int r), .val (.int f2), .val (.int r2), .val (.int sv), .val (.int x), .val (.int re), .val (.int (1 : Int32)), .unset, .unset, .unset, .unset, .unset, .unset, .unset, .unset, .unset, .unset, .unset] []))
      exact blk78 f r f2 r2 sv x re (1 : Int32) hf hr hf2 hr2 hs hx_
  have blk43 : ∀ (f : Int32) (r : Int32) (f2 : Int32) (r2 : Int32) (sv : Int32), (1 ≤ f.toInt ∧ f.toInt ≤ 4) → (1 ≤ r.toInt ∧ r.toInt ≤ 4) → (1 ≤ f2.toInt ∧ f2.toInt ≤ 4) → (1 ≤ r2.toInt ∧ r2.toInt ≤ 4) → (sv = 0 ∨ sv = 1) → Ends p e below (EF s 16 128) (Q0 Z p1 p2 p3 p4  h0 n0) (s₁.setTop (mkF m 43 #[.val (.int p1), .val (.int p2), .val (.int p3), .val (.int p4), .val (.int f), .val (.int r), .val (.int f2), .val (.int r2), .val (.int sv), .unset, .unset, .unset, .unset, .unset, .unset, .unset, .unset, .unset, .unset, .unset, .unset, .unset, .unset] [])) := by
    intro f r f2 r2 sv hf hr hf2 hr2 hs
    refine own_iloadN (n := 44) X0 hx (hb hby at_43) rfl rfl ?_
    refine own_iconst (n := 45) X0 hx (1 : Int32) (hb hby at_44) rfl rfl ?_
    refine own_iushr (n := 46) X0 hx (hb hby at_45) rfl ?_
    refine own_iconst (n := 47) X0 hx (3 : Int32) (hb hby at_46) rfl rfl ?_
    refine own_iand (n := 48) X0 hx (hb hby at_47) rfl ?_
    refine own_istore (n := 50) X0 hx (hb hby at_48) (l' := #[.val (.int p1), .val (.int p2), .val (.int p3), .val (.int p4), .val (.int f), .val (.int r), .val (.int f2), .val (.int r2), .val (.int sv), .val (.int (((p4.toUInt32 >>> ((1 : Int32) &&& 31).toUInt32).toInt32) &&& (3 : Int32))), .unset, .unset, .unset, .unset, .unset, .unset, .unset, .unset, .unset, .unset, .unset, .unset, .unset]) rfl rfl ?_
    refine own_iloadN (n := 51) X0 hx (hb hby at_50) rfl rfl ?_
    refine own_bipush (n := 53) X0 hx (8 : Int32) (hb hby at_51) rfl rfl ?_
    refine own_iand (n := 54) X0 hx (hb hby at_53) rfl ?_
    by_cases c54 : (p4 &&& (8 : Int32)) = 0
    · refine own_ifYes (n := 61) X0 hx (hb hby at_54) (Jvm.Free.XT.i0_eq_t c54) (by decide) (by decide) ?_
      refine own_iconst (n := 62) X0 hx (0 : Int32) (hb hby at_61) rfl rfl ?_
      refine own_istore (n := 64) X0 hx (hb hby at_62) (l' := #[.val (.int p1), .val (.int p2), .val (.int p3), .val (.int p4), .val (.int f), .val (.int r), .val (.int f2), .val (.int r2), .val (.int sv), .val (.int (((p4.toUInt32 >>> ((1 : Int32) &&& 31).toUInt32).toInt32) &&& (3 : Int32))), .val (.int (0 : Int32)), .unset, .unset, .unset, .unset, .unset, .unset, .unset, .unset, .unset, .unset, .unset, .unset]) rfl rfl ?_
      show Ends p e below (EF s 16 128) (Q0 Z p1 p2 p3 p4  h0 n0) (s₁.setTop (mkF m 64 #[.val (.int p1), .val (.int p2), .val (.int p3), .val (.int p4), .val (.int f), .val (.int r), .val (.int f2), .val (.int r2), .val (.int sv), .val (.int (((p4.toUInt32 >>> ((1 : Int32) &&& 31).toUInt32).toInt32) &&& (3 : Int32))), .val (.int (0 : Int32)), .unset, .unset, .unset, .unset, .unset, .unset, .unset, .unset, .unset, .unset, .unset, .unset] []))
      exact blk64 f r f2 r2 sv _ (0 : Int32) hf hr hf2 hr2 hs (own_m3 _)
    · refine own_ifNo (n := 57) X0 hx (hb hby at_54) (Jvm.Free.XT.i0_eq_f c54) rfl ?_
      refine own_iconst (n := 58) X0 hx (1 : Int32) (hb hby at_57) rfl rfl ?_
      refine own_goto (n := 62) X0 hx (hb hby at_58) (by decide) (by decide) ?_
      refine own_istore (n := 64) X0 hx (hb hby at_62) (l' := #[.val (.int p1), .val (.int p2), .val (.int p3), .val (.int p4), .val (.int f), .val (.int r), .val (.int f2), .val (.int r2), .val (.int sv), .val (.int (((p4.toUInt32 >>> ((1 : Int32) &&& 31).toUInt32).toInt32) &&& (3 : Int32))), .val (.int (1 : Int32)), .unset, .unset, .unset, .unset, .unset, .unset, .unset, .unset, .unset, .unset, .unset, .unset]) rfl rfl ?_
      show Ends p e below (EF s 16 128) (Q0 Z p1 p2 p3 p4  h0 n0) (s₁.setTop (mkF m 64 #[.val (.int p1), .val (.int p2), .val (.int p3), .val (.int p4), .val (.int f), .val (.int r), .val (.int f2), .val (.int r2), .val (.int sv), .val (.int (((p4.toUInt32 >>> ((1 : Int32) &&& 31).toUInt32).toInt32) &&& (3 : Int32))), .val (.int (1 : Int32)), .unset, .unset, .unset, .unset, .unset, .unset, .unset, .unset, .unset, .unset, .unset, .unset] []))
      exact blk64 f r f2 r2 sv _ (1 : Int32) hf hr hf2 hr2 hs (own_m3 _)
  refine own_iloadN (n := 1) X0 hx (hb hby at_0) rfl rfl ?_
  refine own_iconst (n := 2) X0 hx (3 : Int32) (hb hby at_1) rfl rfl ?_
  refine own_iand (n := 3) X0 hx (hb hby at_2) rfl ?_
  refine own_iconst (n := 4) X0 hx (1 : Int32) (hb hby at_3) rfl rfl ?_
  refine own_iadd (n := 5) X0 hx (hb hby at_4) rfl ?_
  refine own_istore (n := 7) X0 hx (hb hby at_5) (l' := #[.val (.int p1), .val (.int p2), .val (.int p3), .val (.int p4), .val (.int ((p1 &&& (3 : Int32)) + (1 : Int32))), .unset, .unset, .unset, .unset, .unset, .unset, .unset, .unset, .unset, .unset, .unset, .unset, .unset, .unset, .unset, .unset, .unset, .unset]) rfl rfl ?_
  refine own_iloadN (n := 8) X0 hx (hb hby at_7) rfl rfl ?_
  refine own_iconst (n := 9) X0 hx (3 : Int32) (hb hby at_8) rfl rfl ?_
  refine own_iand (n := 10) X0 hx (hb hby at_9) rfl ?_
  refine own_iconst (n := 11) X0 hx (1 : Int32) (hb hby at_10) rfl rfl ?_
  refine own_iadd (n := 12) X0 hx (hb hby at_11) rfl ?_
  refine own_istore (n := 14) X0 hx (hb hby at_12) (l' := #[.val (.int p1), .val (.int p2), .val (.int p3), .val (.int p4), .val (.int ((p1 &&& (3 : Int32)) + (1 : Int32))), .val (.int ((p2 &&& (3 : Int32)) + (1 : Int32))), .unset, .unset, .unset, .unset, .unset, .unset, .unset, .unset, .unset, .unset, .unset, .unset, .unset, .unset, .unset, .unset, .unset]) rfl rfl ?_
  refine own_iloadN (n := 15) X0 hx (hb hby at_14) rfl rfl ?_
  refine own_iconst (n := 16) X0 hx (3 : Int32) (hb hby at_15) rfl rfl ?_
  refine own_iand (n := 17) X0 hx (hb hby at_16) rfl ?_
  refine own_iconst (n := 18) X0 hx (1 : Int32) (hb hby at_17) rfl rfl ?_
  refine own_iadd (n := 19) X0 hx (hb hby at_18) rfl ?_
  refine own_istore (n := 21) X0 hx (hb hby at_19) (l' := #[.val (.int p1), .val (.int p2), .val (.int p3), .val (.int p4), .val (.int ((p1 &&& (3 : Int32)) + (1 : Int32))), .val (.int ((p2 &&& (3 : Int32)) + (1 : Int32))), .val (.int ((p3 &&& (3 : Int32)) + (1 : Int32))), .unset, .unset, .unset, .unset, .unset, .unset, .unset, .unset, .unset, .unset, .unset, .unset, .unset, .unset, .unset, .unset]) rfl rfl ?_
  refine own_iloadN (n := 22) X0 hx (hb hby at_21) rfl rfl ?_
  refine own_iconst (n := 23) X0 hx (2 : Int32) (hb hby at_22) rfl rfl ?_
  refine own_iushr (n := 24) X0 hx (hb hby at_23) rfl ?_
  refine own_iconst (n := 25) X0 hx (3 : Int32) (hb hby at_24) rfl rfl ?_
  refine own_iand (n := 26) X0 hx (hb hby at_25) rfl ?_
  refine own_iconst (n := 27) X0 hx (1 : Int32) (hb hby at_26) rfl rfl ?_
  refine own_iadd (n := 28) X0 hx (hb hby at_27) rfl ?_
  refine own_istore (n := 30) X0 hx (hb hby at_28) (l' := #[.val (.int p1), .val (.int p2), .val (.int p3), .val (.int p4), .val (.int ((p1 &&& (3 : Int32)) + (1 : Int32))), .val (.int ((p2 &&& (3 : Int32)) + (1 : Int32))), .val (.int ((p3 &&& (3 : Int32)) + (1 : Int32))), .val (.int ((((p3.toUInt32 >>> ((2 : Int32) &&& 31).toUInt32).toInt32) &&& (3 : Int32)) + (1 : Int32))), .unset, .unset, .unset, .unset, .unset, .unset, .unset, .unset, .unset, .unset, .unset, .unset, .unset, .unset, .unset]) rfl rfl ?_
  refine own_iloadN (n := 31) X0 hx (hb hby at_30) rfl rfl ?_
  refine own_iconst (n := 32) X0 hx (1 : Int32) (hb hby at_31) rfl rfl ?_
  refine own_iand (n := 33) X0 hx (hb hby at_32) rfl ?_
  by_cases c33 : (p4 &&& (1 : Int32)) = 0
  · refine own_ifYes (n := 40) X0 hx (hb hby at_33) (Jvm.Free.XT.i0_eq_t c33) (by decide) (by decide) ?_
    refine own_iconst (n := 41) X0 hx (0 : Int32) (hb hby at_40) rfl rfl ?_
    refine own_istore (n := 43) X0 hx (hb hby at_41) (l' := #[.val (.int p1), .val (.int p2), .val (.int p3), .val (.int p4), .val (.int ((p1 &&& (3 : Int32)) + (1 : Int32))), .val (.int ((p2 &&& (3 : Int32)) + (1 : Int32))), .val (.int ((p3 &&& (3 : Int32)) + (1 : Int32))), .val (.int ((((p3.toUInt32 >>> ((2 : Int32) &&& 31).toUInt32).toInt32) &&& (3 : Int32)) + (1 : Int32))), .val (.int (0 : Int32)), .unset, .unset, .unset, .unset, .unset, .unset, .unset, .unset, .unset, .unset, .unset, .unset, .unset, .unset]) rfl rfl ?_
    show Ends p e below (EF s 16 128) (Q0 Z p1 p2 p3 p4  h0 n0) (s₁.setTop (mkF m 43 #[.val (.int p1), .val (.int p2), .val (.int p3), .val (.int p4), .val (.int ((p1 &&& (3 : Int32)) + (1 : Int32))), .val (.int ((p2 &&& (3 : Int32)) + (1 : Int32))), .val (.int ((p3 &&& (3 : Int32)) + (1 : Int32))), .val (.int ((((p3.toUInt32 >>> ((2 : Int32) &&& 31).toUInt32).toInt32) &&& (3 : Int32)) + (1 : Int32))), .val (.int (0 : Int32)), .unset, .unset, .unset, .unset, .unset, .unset, .unset, .unset, .unset, .unset, .unset, .unset, .unset, .unset] []))
    exact blk43 _ _ _ _ (0 : Int32) (own_m31 _) (own_m31 _) (own_m31 _) (own_m31 _) (by decide)
  · refine own_ifNo (n := 36) X0 hx (hb hby at_33) (Jvm.Free.XT.i0_eq_f c33) rfl ?_
    refine own_iconst (n := 37) X0 hx (1 : Int32) (hb hby at_36) rfl rfl ?_
    refine own_goto (n := 41) X0 hx (hb hby at_37) (by decide) (by decide) ?_
    refine own_istore (n := 43) X0 hx (hb hby at_41) (l' := #[.val (.int p1), .val (.int p2), .val (.int p3), .val (.int p4), .val (.int ((p1 &&& (3 : Int32)) + (1 : Int32))), .val (.int ((p2 &&& (3 : Int32)) + (1 : Int32))), .val (.int ((p3 &&& (3 : Int32)) + (1 : Int32))), .val (.int ((((p3.toUInt32 >>> ((2 : Int32) &&& 31).toUInt32).toInt32) &&& (3 : Int32)) + (1 : Int32))), .val (.int (1 : Int32)), .unset, .unset, .unset, .unset, .unset, .unset, .unset, .unset, .unset, .unset, .unset, .unset, .unset, .unset]) rfl rfl ?_
    show Ends p e below (EF s 16 128) (Q0 Z p1 p2 p3 p4  h0 n0) (s₁.setTop (mkF m 43 #[.val (.int p1), .val (.int p2), .val (.int p3), .val (.int p4), .val (.int ((p1 &&& (3 : Int32)) + (1 : Int32))), .val (.int ((p2 &&& (3 : Int32)) + (1 : Int32))), .val (.int ((p3 &&& (3 : Int32)) + (1 : Int32))), .val (.int ((((p3.toUInt32 >>> ((2 : Int32) &&& 31).toUInt32).toInt32) &&& (3 : Int32)) + (1 : Int32))), .val (.int (1 : Int32)), .unset, .unset, .unset, .unset, .unset, .unset, .unset, .unset, .unset, .unset, .unset, .unset, .unset, .unset] []))
    exact blk43 _ _ _ _ (1 : Int32) (own_m31 _) (own_m31 _) (own_m31 _) (own_m31 _) (by decide)
theorem comes_1 {Post : Tables → Env → Array Value → State → Outcome → State → Prop} (hpost : ∀ tb e args s v u, (limb_1_1.after args s (.returned v) u = true ∧ limb_1_2.after args s (.returned v) u = true ∧ True) → FrameEnd s (.returned v) u (Jvm.fieldLocs frame_1_writes args s ++ Jvm.arrayLocs frame_1_arrays args s ++ Jvm.staticLocs frame_1_statics s) 16 128 → Post tb e args s (.returned v) u) :
    ArmFor flags0 classFile x code maxLocals ret World_1 tables_1 room_1 Calls_1 rest_1 Pre_1 Post := by
  intro l hfl _ _ p e ha hc hk s m args below hf hA hF happ hP
  obtain ⟨hcalls, hrest, hpre⟩ := hP
  obtain ⟨-, -, -, hnamed, -, -, -, hat⟩ := (Spec.applies_iff hf).mp happ
  obtain ⟨hg, hn⟩ := and_e (Cond.before_iff.mp (show (Jvm.Cond.and given_1 narrow_1).before args s = true from hpre))
  obtain ⟨hcount, hg0⟩ := and_e hg
  obtain ⟨hi0, hg1⟩ := and_e hg0
  obtain ⟨hi1, hg2⟩ := and_e hg1
  obtain ⟨hi2, hg3⟩ := and_e hg2
  obtain ⟨w0, w1, w2, w3, rfl⟩ : ∃ w0 w1 w2 w3 : Value, args = #[w0, w1, w2, w3] := by
    have hs : args.size = 4 := by simpa [Cond.value, given_1] using hcount
    obtain ⟨L⟩ := args
    match L, hs with
    | [w0, w1, w2, w3], _ => exact ⟨w0, w1, w2, w3, rfl⟩
  have hw := fun d (hd : d ∈ tables_1) => atoms_spec (ws := Jvm.Cond.code x code maxLocals ret :: tables_1) hat d (List.mem_cons_of_mem _ hd)
  have hfit : Fit s := fun {y c} hc i hi => by
    obtain ⟨ha, rfl⟩ := Array.getElem?_eq_some_iff.mp hc
    have q := List.all_eq_true.mp ((Array.all_eq_true_iff_forall_mem.mp hF) _ (Array.getElem_mem ha)) i (List.mem_range.mpr hi)
    simpa [Array.getElem?_eq_getElem hi] using q
  obtain ⟨i0, j0⟩ := is_v hi0
  obtain rfl : w0 = (.int i0) := Option.some.inj j0
  obtain ⟨i1, j1⟩ := is_v hi1
  obtain rfl : w1 = (.int i1) := Option.some.inj j1
  obtain ⟨i2, j2⟩ := is_v hi2
  obtain rfl : w2 = (.int i2) := Option.some.inj j2
  obtain ⟨i3, j3⟩ := is_v hg3
  obtain rfl : w3 = (.int i3) := Option.some.inj j3
  obtain ⟨n, o, h1, h2, h3, _, L, rfl, ⟨rfl, N⟩, hq⟩ := rm0 l s _ hw tables_1 i0 i1 i2 i3  s.heap s.heap.size (Nat.le_refl _)  p e ha hc hk s m _ below hf ((Spec.applies_iff_loose hf).mp happ).1 ⟨rfl, State.Warmed39.refl s, rfl⟩ trivial
  refine ⟨n, _, h1, h2, h3, hpost _ _ _ _ _ _ ⟨Cond.after_iff.mpr rfl, Cond.after_iff.mpr (eq_i res_at (Term.int_eval (1)) rfl), trivial⟩ ⟨hq.1, hq.2.1, (hq.2.2.sift fun y hy => Or.inr (N y hy)).mono (by decide) (by decide)⟩⟩
theorem main_1_1 : Claimed_1_1 := comes_1 fun _ _ _ _ _ _ h hF => ⟨h.1, hF⟩
theorem main_1_2 : Claimed_1_2 := comes_1 fun _ _ _ _ _ _ h hF => ⟨h.2.1, hF⟩
end Jvm.Pilot.@@N@@
namespace Jvm.Pilot.@@N@@
open Jvm Jvm.ClassFile Sem Op Lib Jvm.Free Jvm.Stand Jvm.Pilot.@@N@@.Jvm.D
/-! MADE BY PROGRAM (witnessworld.py) out of the Statement's table words and the real class files: 10 classes; the members and pool entries that the words name. The judged class is class 1, her method 1. -/
namespace start1
open Jvm.ClassFile
def u (s : String) : CpInfo := .utf8 (stringToUtf16 s)
/-- a pool by its gaps: so many unusable entries, then the entry; so many at the end -/
def gap : Nat → List CpInfo → List CpInfo
  | 0, r => r
  | n + 1, r => .unusable :: gap n r
def poolList (es : List (Nat × CpInfo)) (last : Nat) : List CpInfo := es.foldr (fun e r => gap e.1 (e.2 :: r)) (gap last [])
def pool (es : List (Nat × CpInfo)) (last : Nat) : Array CpInfo := ⟨poolList es last⟩
def fileOf (pool : Array CpInfo) (this : Nat) (attrs : Array Attribute := #[]) (ms : Array MethodInfo := #[]) (fl : Nat := 33) (sup : Nat := 0) (ifs : Array Nat := #[]) (fds : Array FieldInfo := #[]) : ClassFile where
  minorVersion := 0
  majorVersion := 65
  constantPool := pool
  accessFlags := fl
  thisClass := this
  superClass := sup
  interfaces := ifs
  fields := fds
  methods := ms
  attributes := attrs
def plain (name : String) (sup : Option ClassId) : Class where
  name := name
  kind := .ordinary
  loader := none
  accessFlags := 33
  super := sup
  interfaces := #[]
  cf := none
  fields := #[]
  methods := #[]
  instanceTypes := #[]
  staticTypes := #[]
  resolved := #[]
  callSites := []
  init := .initialized
  statics := none
  mirror := none

def pool0 : Array CpInfo := pool [(5, u "<init>"), (0, u "()V"), (1, .class_ 10), (1, u "java/lang/Object")] 113

def k0c0 : Code := { maxStack := 0, maxLocals := 1, code := object_method_1_code, exceptionTable := #[], attributes := #[] }
def k0m0 : Method := { name := "<init>", desc := "()V", sig := { parameters := [], returnType := none }, accessFlags := 1, code := some k0c0 }
/-- java/lang/Object -/
def k0 : Class := { plain "java/lang/Object" none with
  accessFlags := 33
  interfaces := #[]
  cf := some (fileOf pool0 8 #[] #[{ accessFlags := 1, nameIndex := 5, descriptorIndex := 6, attributes := #[] }] 33 0 #[] #[])
  fields := #[]
  methods := #[k0m0]
  instanceTypes := #[]
  staticTypes := #[]
  resolved := Array.replicate 124 none
  statics := none }

def pool1 : Array CpInfo := pool [(2, .class_ 4), (1, u "java/lang/Object"), (0, u "<init>"), (0, u "()V"), (0, .class_ 8), (0, u "com/example/idun/idun/pools/Health"), (0, .methodref 7 10), (0, .nameAndType 5 11), (0, u "(II)V"), (0, .methodref 7 13), (0, .nameAndType 14 15), (0, u "record"), (0, u "(Z)Z"), (0, .methodref 7 17), (0, .nameAndType 18 11), (0, u "thresholds"), (0, .methodref 20 21), (0, .class_ 22), (0, .nameAndType 23 24), (0, u "java/lang/Math"), (0, u "max"), (0, u "(II)I"), (0, .methodref 7 26), (0, .nameAndType 27 28), (0, u "isUp"), (0, u "()Z"), (0, .class_ 30), (0, u "com/example/idun/idun/pools/HealthRecordPinLaw"), (2, u "law"), (0, u "(IIII)Z")] 3

def k1m0 : Method := { name := "<init>", desc := "()V", sig := { parameters := [], returnType := none }, accessFlags := 1, code := none }
def k1c1 : Code := { maxStack := 4, maxLocals := 23, code := code, exceptionTable := #[], attributes := #[] }
def k1m1 : Method := { name := "law", desc := "(IIII)Z", sig := { parameters := [.int, .int, .int, .int], returnType := some .boolean }, accessFlags := 9, code := some k1c1 }
/-- com/example/idun/idun/pools/HealthRecordPinLaw -/
def k1 : Class := { plain "com/example/idun/idun/pools/HealthRecordPinLaw" (some 0) with
  accessFlags := 49
  interfaces := #[]
  cf := some (fileOf pool1 29 #[] #[{ accessFlags := 1, nameIndex := 5, descriptorIndex := 6, attributes := #[] }, { accessFlags := 9, nameIndex := 33, descriptorIndex := 34, attributes := #[] }] 49 2 #[] #[])
  fields := #[]
  methods := #[k1m0, k1m1]
  instanceTypes := #[]
  staticTypes := #[]
  resolved := Array.replicate 38 none
  statics := none }

def pool2 : Array CpInfo := pool [(1, .methodref 2 3), (0, .class_ 4), (0, .nameAndType 5 6), (0, u "java/lang/Object"), (0, u "<init>"), (0, u "()V"), (0, .fieldref 8 9), (0, .class_ 10), (0, .nameAndType 11 12), (0, u "com/example/idun/idun/pools/Health"), (0, u "up"), (0, u "Z"), (0, .fieldref 8 14), (0, .nameAndType 15 16), (0, u "fall"), (0, u "I"), (0, .fieldref 8 18), (0, .nameAndType 19 16), (0, u "rise"), (0, .fieldref 8 21), (0, .nameAndType 22 12), (0, u "probed"), (0, .fieldref 8 24), (0, .nameAndType 25 16), (0, u "against"), (0, u "(II)V"), (2, u "record"), (0, u "(Z)Z"), (1, u "thresholds"), (0, u "isUp"), (0, u "()Z")] 2

def k2c0 : Code := { maxStack := 2, maxLocals := 3, code := prog_36_method_1_code, exceptionTable := #[], attributes := #[] }
def k2m0 : Method := { name := "<init>", desc := "(II)V", sig := { parameters := [.int, .int], returnType := none }, accessFlags := 0, code := some k2c0 }
def k2c1 : Code := { maxStack := 3, maxLocals := 3, code := prog_36_method_2_code, exceptionTable := #[], attributes := #[] }
def k2m1 : Method := { name := "record", desc := "(Z)Z", sig := { parameters := [.boolean], returnType := some .boolean }, accessFlags := 0, code := some k2c1 }
def k2c2 : Code := { maxStack := 2, maxLocals := 3, code := prog_36_method_3_code, exceptionTable := #[], attributes := #[] }
def k2m2 : Method := { name := "thresholds", desc := "(II)V", sig := { parameters := [.int, .int], returnType := none }, accessFlags := 0, code := some k2c2 }
def k2c3 : Code := { maxStack := 1, maxLocals := 1, code := prog_36_method_4_code, exceptionTable := #[], attributes := #[] }
def k2m3 : Method := { name := "isUp", desc := "()Z", sig := { parameters := [], returnType := some .boolean }, accessFlags := 0, code := some k2c3 }
/-- com/example/idun/idun/pools/Health -/
def k2 : Class := { plain "com/example/idun/idun/pools/Health" (some 0) with
  accessFlags := 48
  interfaces := #[]
  cf := some (fileOf pool2 8 #[] #[{ accessFlags := 0, nameIndex := 5, descriptorIndex := 26, attributes := #[] }, { accessFlags := 0, nameIndex := 29, descriptorIndex := 30, attributes := #[] }, { accessFlags := 0, nameIndex := 32, descriptorIndex := 26, attributes := #[] }, { accessFlags := 0, nameIndex := 33, descriptorIndex := 34, attributes := #[] }] 48 2 #[] #[{ accessFlags := 2, nameIndex := 15, descriptorIndex := 16, attributes := #[] }, { accessFlags := 2, nameIndex := 19, descriptorIndex := 16, attributes := #[] }, { accessFlags := 2, nameIndex := 22, descriptorIndex := 12, attributes := #[] }, { accessFlags := 2, nameIndex := 11, descriptorIndex := 12, attributes := #[] }, { accessFlags := 2, nameIndex := 25, descriptorIndex := 16, attributes := #[] }])
  fields := #[{ name := "fall", type := .int, accessFlags := 2, slot := 0, constantValue := 0 }, { name := "rise", type := .int, accessFlags := 2, slot := 1, constantValue := 0 }, { name := "probed", type := .boolean, accessFlags := 2, slot := 2, constantValue := 0 }, { name := "up", type := .boolean, accessFlags := 2, slot := 3, constantValue := 0 }, { name := "against", type := .int, accessFlags := 2, slot := 4, constantValue := 0 }]
  methods := #[k2m0, k2m1, k2m2, k2m3]
  instanceTypes := #[.int, .int, .boolean, .boolean, .int]
  staticTypes := #[]
  resolved := Array.replicate 37 none
  statics := none }

def pool3 : Array CpInfo := pool [(1, .class_ 2), (0, u "java/lang/Math"), (1, .class_ 6), (1, u "java/lang/Object"), (0, u "<init>"), (0, u "()V"), (89, .class_ 100), (1, u "java/lang/Math$RandomNumberGeneratorHolder"), (71, u "negativeZeroFloatBits"), (0, u "J"), (2, u "negativeZeroDoubleBits"), (21, u "max"), (46, u "$assertionsDisabled"), (0, u "Z"), (88, u "(II)I"), (2, u "twoToTheDoubleScaleDown"), (0, u "D"), (4, u "twoToTheDoubleScaleUp"), (9, u "E"), (3, u "PI"), (2, u "TAU"), (2, u "DEGREES_TO_RADIANS"), (0, u "RADIANS_TO_DEGREES")] 94

def k3m0 : Method := { name := "<init>", desc := "()V", sig := { parameters := [], returnType := none }, accessFlags := 2, code := none }
def k3c1 : Code := { maxStack := 2, maxLocals := 2, code := jdk_29_method_65_code, exceptionTable := #[], attributes := #[] }
def k3m1 : Method := { name := "max", desc := "(II)I", sig := { parameters := [.int, .int], returnType := some .int }, accessFlags := 9, code := some k3c1 }
/-- java/lang/Math -/
def k3 : Class := { plain "java/lang/Math" (some 0) with
  accessFlags := 49
  interfaces := #[]
  cf := some (fileOf pool3 1 #[.nestMembers #[98]] #[{ accessFlags := 2, nameIndex := 7, descriptorIndex := 8, attributes := #[] }, { accessFlags := 9, nameIndex := 198, descriptorIndex := 335, attributes := #[] }] 49 4 #[] #[{ accessFlags := 25, nameIndex := 354, descriptorIndex := 339, attributes := #[] }, { accessFlags := 25, nameIndex := 358, descriptorIndex := 339, attributes := #[] }, { accessFlags := 25, nameIndex := 361, descriptorIndex := 339, attributes := #[] }, { accessFlags := 26, nameIndex := 364, descriptorIndex := 339, attributes := #[] }, { accessFlags := 26, nameIndex := 365, descriptorIndex := 339, attributes := #[] }, { accessFlags := 26, nameIndex := 172, descriptorIndex := 173, attributes := #[] }, { accessFlags := 26, nameIndex := 176, descriptorIndex := 173, attributes := #[] }, { accessFlags := 8, nameIndex := 344, descriptorIndex := 339, attributes := #[] }, { accessFlags := 8, nameIndex := 338, descriptorIndex := 339, attributes := #[] }, { accessFlags := 4120, nameIndex := 245, descriptorIndex := 246, attributes := #[] }])
  fields := #[{ name := "E", type := .double, accessFlags := 25, slot := 0, constantValue := 0 }, { name := "PI", type := .double, accessFlags := 25, slot := 1, constantValue := 0 }, { name := "TAU", type := .double, accessFlags := 25, slot := 2, constantValue := 0 }, { name := "DEGREES_TO_RADIANS", type := .double, accessFlags := 26, slot := 3, constantValue := 0 }, { name := "RADIANS_TO_DEGREES", type := .double, accessFlags := 26, slot := 4, constantValue := 0 }, { name := "negativeZeroFloatBits", type := .long, accessFlags := 26, slot := 5, constantValue := 0 }, { name := "negativeZeroDoubleBits", type := .long, accessFlags := 26, slot := 6, constantValue := 0 }, { name := "twoToTheDoubleScaleUp", type := .double, accessFlags := 8, slot := 7, constantValue := 0 }, { name := "twoToTheDoubleScaleDown", type := .double, accessFlags := 8, slot := 8, constantValue := 0 }, { name := "$assertionsDisabled", type := .boolean, accessFlags := 4120, slot := 9, constantValue := 0 }]
  methods := #[k3m0, k3m1]
  instanceTypes := #[]
  staticTypes := #[.double, .double, .double, .double, .double, .long, .long, .double, .double, .boolean]
  resolved := Array.replicate 460 none
  statics := none }

def pool4 : Array CpInfo := pool [(1, u "java/lang/Cloneable"), (0, .class_ 1), (0, u "java/lang/Object"), (0, .class_ 3)] 3

/-- java/lang/Cloneable -/
def k4 : Class := { plain "java/lang/Cloneable" (some 0) with
  accessFlags := 1537
  interfaces := #[]
  cf := some (fileOf pool4 2 #[] #[] 1537 4 #[] #[])
  fields := #[]
  methods := #[]
  instanceTypes := #[]
  staticTypes := #[]
  resolved := Array.replicate 8 none
  statics := none }

def pool5 : Array CpInfo := pool [(1, u "java/io/Serializable"), (0, .class_ 1), (0, u "java/lang/Object"), (0, .class_ 3)] 3

/-- java/io/Serializable -/
def k5 : Class := { plain "java/io/Serializable" (some 0) with
  accessFlags := 1537
  interfaces := #[]
  cf := some (fileOf pool5 2 #[] #[] 1537 4 #[] #[])
  fields := #[]
  methods := #[]
  instanceTypes := #[]
  staticTypes := #[]
  resolved := Array.replicate 8 none
  statics := none }

/-- the primitive byte -/
def k6 : Class := { plain "byte" none with kind := .primitive 'B', accessFlags := 0x411 }
/-- [B -/
def k7 : Class := { plain "[B" (some 0) with kind := .array 6 .byte, interfaces := #[4, 5], accessFlags := 1041 }

/-- the primitive int -/
def k8 : Class := { plain "int" none with kind := .primitive 'I', accessFlags := 0x411 }
/-- [I -/
def k9 : Class := { plain "[I" (some 0) with kind := .array 8 .int, interfaces := #[4, 5], accessFlags := 1041 }

def heap : Heap := #[]
def classes : Array Class := #[k0, k1, k2, k3, k4, k5, k6, k7, k8, k9]
def interned : List (Array UInt16 × Addr) := []
def slotsUsed : Nat := 0
def theMethod : MethodId := ⟨1, 1⟩
def args0 : Array Value := #[.int 5, .int 5, .int 5, .int 5]
def aboutOver (below : List Frame) : State where
  vm := { classes := classes, interned := interned.toArray }
  heap := heap
  slotsUsed := slotsUsed
  threads := #[{ frames := .invoking theMethod args0 :: below }]
def below0 : List Frame := [.native { method := ⟨0, 0⟩, args := #[] }]
def about1 : State := aboutOver below0
def p0 : Program := .bare "" "" ""
def e0 : Env := launch0.env 0 0 0
theorem w_frames : about1.frames = Frame.invoking theMethod args0 :: below0 := rfl
set_option maxRecDepth 65536 in
theorem w_args : argsFit about1.vm theMethod args0 = true := by decide +kernel
set_option maxRecDepth 65536 in
theorem w_heap : heapFits about1 = true := by decide +kernel
set_option maxRecDepth 65536 in
theorem w_runnable : about1.curStatus? = some .runnable := by decide +kernel
set_option maxRecDepth 65536 in
theorem w_alone : about1.alone = true := by decide +kernel
set_option maxRecDepth 65536 in
theorem w_named : about1.methodNamed? x = some theMethod := by decide +kernel
set_option maxRecDepth 65536 in
theorem w_hears : about1.hears theMethod below0 = true := by decide +kernel
set_option maxRecDepth 65536 in
theorem w_ripe : about1.ripe theMethod args0 below0 = true := by decide +kernel
theorem w_running : about1.status = .running := rfl
set_option maxRecDepth 65536 in
theorem w_room : about1.hasRoom e0.platform room_1 = true :=
  launch0.hasRoom_least _ room_1 (by decide +kernel) (by decide +kernel) (by decide +kernel) (by decide +kernel) (by decide +kernel) (by decide +kernel)
theorem allAtoms_all (ts : List Jvm.Cond) (a : Array Jvm.Value) (st : Jvm.State) : (allAtoms ts).before a st = ts.all (fun c => c.before a st) := by
  induction ts with
  | nil => rfl
  | cons c t ih =>
    show (Jvm.Cond.and c (allAtoms t)).before a st = _
    rw [Jvm.Cond.before_and, ih, List.all_cons]
def words1 : List Jvm.Cond := Jvm.Cond.code x code maxLocals ret :: tables_1
/-- a 'code' word, met by the world's own term for the bytes: nothing is compared byte by byte -/
theorem code_word {y : MethodName} {bytes : ByteArray} {mx : Nat} {rt : Option FieldType} {a : Array Value} {s : State} {m : MethodId} {meth : Method} {c : Code} (h1 : s.methodNamed? y = some m) (h2 : s.vm.method? m = some meth) (h3 : meth.code = some c) (h4 : c.code = bytes)
    (h5 : (c.maxLocals == mx && c.exceptionTable.isEmpty && decide (c.maxStack ≤ mostOperands) && decide (meth.sig.returnType = rt) && !meth.locks && decide (parseMethodDescriptor y.desc = some meth.sig)) = true) : (Jvm.Cond.code y bytes mx rt).before a s = true := by
  simp only [Bool.and_eq_true, beq_iff_eq, Bool.not_eq_true', decide_eq_true_eq] at h5
  obtain ⟨⟨⟨⟨⟨g1, g2⟩, g3⟩, g4⟩, g5⟩, g6⟩ := h5
  simp [Cond.before, Cond.holds, Cond.value, h1, h2, h3, h4, g1, g2, g3, g4, g5, g6]
def isCode : Jvm.Cond → Bool
  | .code _ _ _ _ => true
  | _ => false
theorem all_split {L : List Jvm.Cond} {P : Jvm.Cond → Bool} (h1 : L.all (fun c => isCode c || P c) = true) (h2 : ∀ c ∈ L.filter isCode, P c = true) : L.all P = true := by
  refine List.all_eq_true.mpr fun c hc => ?_
  have h := List.all_eq_true.mp h1 c hc
  rcases Bool.eq_false_or_eq_true (isCode c) with hi | hi
  · exact h2 c (List.mem_filter.mpr ⟨hc, hi⟩)
  · simpa [hi] using h
set_option maxRecDepth 65536 in
theorem w_c0 : (Jvm.Cond.code x code maxLocals ret).before args0 about1 = true := code_word (m := ⟨1, 1⟩) (meth := k1m1) (c := k1c1) (by decide +kernel) rfl rfl rfl (by decide +kernel)
set_option maxRecDepth 65536 in
theorem w_c1 : (Jvm.Cond.code ({ cls := "com/example/idun/idun/pools/Health", name := "<init>", desc := "(II)V" } : Jvm.MethodName) prog_36_method_1_code (3 : Nat) (Option.none : Option Jvm.ClassFile.FieldType)).before args0 about1 = true := code_word (m := ⟨2, 0⟩) (meth := k2m0) (c := k2c0) (by decide +kernel) rfl rfl rfl (by decide +kernel)
set_option maxRecDepth 65536 in
theorem w_c2 : (Jvm.Cond.code ({ cls := "java/lang/Object", name := "<init>", desc := "()V" } : Jvm.MethodName) object_method_1_code (1 : Nat) (Option.none : Option Jvm.ClassFile.FieldType)).before args0 about1 = true := code_word (m := ⟨0, 0⟩) (meth := k0m0) (c := k0c0) (by decide +kernel) rfl rfl rfl (by decide +kernel)
set_option maxRecDepth 65536 in
theorem w_c3 : (Jvm.Cond.code ({ cls := "com/example/idun/idun/pools/Health", name := "record", desc := "(Z)Z" } : Jvm.MethodName) prog_36_method_2_code (3 : Nat) (Option.some Jvm.ClassFile.FieldType.boolean)).before args0 about1 = true := code_word (m := ⟨2, 1⟩) (meth := k2m1) (c := k2c1) (by decide +kernel) rfl rfl rfl (by decide +kernel)
set_option maxRecDepth 65536 in
theorem w_c4 : (Jvm.Cond.code ({ cls := "java/lang/Math", name := "max", desc := "(II)I" } : Jvm.MethodName) jdk_29_method_65_code (2 : Nat) (Option.some Jvm.ClassFile.FieldType.int)).before args0 about1 = true := code_word (m := ⟨3, 1⟩) (meth := k3m1) (c := k3c1) (by decide +kernel) rfl rfl rfl (by decide +kernel)
set_option maxRecDepth 65536 in
theorem w_c5 : (Jvm.Cond.code ({ cls := "com/example/idun/idun/pools/Health", name := "isUp", desc := "()Z" } : Jvm.MethodName) prog_36_method_4_code (1 : Nat) (Option.some Jvm.ClassFile.FieldType.boolean)).before args0 about1 = true := code_word (m := ⟨2, 3⟩) (meth := k2m3) (c := k2c3) (by decide +kernel) rfl rfl rfl (by decide +kernel)
set_option maxRecDepth 65536 in
theorem w_c6 : (Jvm.Cond.code ({ cls := "com/example/idun/idun/pools/Health", name := "thresholds", desc := "(II)V" } : Jvm.MethodName) prog_36_method_3_code (3 : Nat) (Option.none : Option Jvm.ClassFile.FieldType)).before args0 about1 = true := code_word (m := ⟨2, 2⟩) (meth := k2m2) (c := k2c2) (by decide +kernel) rfl rfl rfl (by decide +kernel)
def codes1 : List Jvm.Cond := [Jvm.Cond.code x code maxLocals ret, Jvm.Cond.code ({ cls := "com/example/idun/idun/pools/Health", name := "<init>", desc := "(II)V" } : Jvm.MethodName) prog_36_method_1_code (3 : Nat) (Option.none : Option Jvm.ClassFile.FieldType), Jvm.Cond.code ({ cls := "java/lang/Object", name := "<init>", desc := "()V" } : Jvm.MethodName) object_method_1_code (1 : Nat) (Option.none : Option Jvm.ClassFile.FieldType), Jvm.Cond.code ({ cls := "com/example/idun/idun/pools/Health", name := "record", desc := "(Z)Z" } : Jvm.MethodName) prog_36_method_2_code (3 : Nat) (Option.some Jvm.ClassFile.FieldType.boolean), Jvm.Cond.code ({ cls := "java/lang/Math", name := "max", desc := "(II)I" } : Jvm.MethodName) jdk_29_method_65_code (2 : Nat) (Option.some Jvm.ClassFile.FieldType.int), Jvm.Cond.code ({ cls := "com/example/idun/idun/pools/Health", name := "isUp", desc := "()Z" } : Jvm.MethodName) prog_36_method_4_code (1 : Nat) (Option.some Jvm.ClassFile.FieldType.boolean), Jvm.Cond.code ({ cls := "com/example/idun/idun/pools/Health", name := "thresholds", desc := "(II)V" } : Jvm.MethodName) prog_36_method_3_code (3 : Nat) (Option.none : Option Jvm.ClassFile.FieldType)]
set_option maxRecDepth 65536 in
theorem codes_eq : words1.filter isCode = codes1 := rfl
theorem w_codes : ∀ c ∈ words1.filter isCode, c.before args0 about1 = true := by
  rw [codes_eq]
  intro c hc
  simp only [codes1, List.mem_cons, List.not_mem_nil, or_false] at hc
  rcases hc with rfl | rfl | rfl | rfl | rfl | rfl | rfl
  · exact w_c0
  · exact w_c1
  · exact w_c2
  · exact w_c3
  · exact w_c4
  · exact w_c5
  · exact w_c6
set_option maxRecDepth 65536 in
theorem w_t1 : (words1.take 24).all (fun c => isCode c || c.before args0 about1) = true := by decide +kernel
set_option maxRecDepth 65536 in
theorem w_t2 : (words1.drop 24).all (fun c => isCode c || c.before args0 about1) = true := by decide +kernel
theorem w_tables : (allAtoms (Jvm.Cond.code x code maxLocals ret :: tables_1)).before args0 about1 = true := by
  rw [allAtoms_all]
  show words1.all (fun c => c.before args0 about1) = true
  refine all_split ?_ w_codes
  rw [← List.take_append_drop 24 words1, List.all_append, w_t1, w_t2]
  rfl
set_option maxRecDepth 65536 in
theorem w_case : (Jvm.Cond.and given_1 narrow_1).before args0 about1 = true := by decide +kernel
theorem w_applies : (headSpec (Jvm.Cond.code x code maxLocals ret :: tables_1) room_1).applies x e0.platform about1 = true :=
  (Spec.applies_iff w_frames).mpr ⟨w_running, w_runnable, w_alone, w_named, w_hears, w_ripe, w_room, w_tables⟩
theorem atStart : AtStart classFile x code maxLocals ret World_1 tables_1 room_1 Calls_1 rest_1 Pre_1 launch0 p0 e0 about1 theMethod args0 below0 :=
  ⟨lists_1, trivial, launch0.admits_env _ _ _, launch0.least_env, fairChoices_fair.cas, fairChoices_fair.clock, w_frames, w_args, w_heap, w_applies, trivial, trivial, w_case⟩
end start1
theorem witness_1 : WitnessClaimed_1 := ⟨start1.p0, start1.e0, start1.about1, start1.theMethod, start1.args0, start1.below0, start1.atStart⟩
end Jvm.Pilot.@@N@@
