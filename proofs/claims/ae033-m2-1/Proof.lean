import JvmDerived
import JvmDerived.Pilot.@@N@@Statement
import JvmDerived.Pilot.@@N@@Code
set_option linter.unusedVariables false
set_option linter.unusedSimpArgs false
set_option maxRecDepth 65536
set_option maxHeartbeats 4000000
namespace Jvm.Pilot.@@N@@
open Jvm Jvm.ClassFile Sem Op Lib Jvm.Free Jvm.Stand Jvm.LawKit Jvm.RoadKit Bundle Jvm.Pilot.@@N@@.Jvm.D
section Own
variable {p : Program} {l : Launch} {e : Env} {R : Room} {s : State} {m : MethodId} {args : Array Value} {below : List Frame} {meth : Method} {c : Code} {T : State} {locs : List Loc} {cells slots : Nat} {K J : Nat} {Q : Option Value → Heap → List Loc → Prop} {Z : State} {a0 : Array Value} {h : Heap}
/-- from U the run comes to its end, and what it leaves is Q's -/
def Ends (p : Program) (e : Env) (below : List Frame) (s : State) (K J : Nat) (Q : Option Value → Heap → List Loc → Prop) (U : State) : Prop :=
  ∃ s₂ o, Steps p.tables e below U s₂ ∧ s₂.status = .running ∧ Ended s₂ below o ∧ ∃ v L, o = .returned v ∧ Q v s₂.heap L ∧ FrameEnd s o s₂ L K J
theorem Ends.via {A B : State} (h : ∀ t, Steps p.tables e below A t → Steps p.tables e below B t) (k : Ends p e below s K J Q A) : Ends p e below s K J Q B := by
  obtain ⟨s2, o, h1, h2⟩ := k
  exact ⟨s2, o, h _ h1, h2⟩
theorem Ends.tr {A B : State} (h : Steps p.tables e below B A) (k : Ends p e below s K J Q A) : Ends p e below s K J Q B := by
  obtain ⟨s2, o, h1, h2⟩ := k
  exact ⟨s2, o, h.trans h1, h2⟩
theorem Ends.cast {g g' : JFrame} (q : g = g') (k : Ends p e below s K J Q (T.setTop g')) : Ends p e below s K J Q (T.setTop g) := q ▸ k
theorem own_iadd (X : Stand p l e R s m args below meth c T locs cells slots) (hx : p.tables.exec = Jvm.exec) {pc n : Nat} {Ls : Array Slot} {st : List Value} {x y : Int32} (hd : decode c.code pc = .ok (.iadd, 1))  (hn : pc + 1 = n) (k : Ends p e below s K J Q (T.setTop (mkF m n Ls (.int (x + y) :: st)))) : Ends p e below s K J Q (T.setTop (mkF m pc Ls (.int y :: .int x :: st))) := by
  subst hn
  exact Ends.via (fun t h => XS.iadd X.here hx rfl hd rfl h) k
theorem own_isub (X : Stand p l e R s m args below meth c T locs cells slots) (hx : p.tables.exec = Jvm.exec) {pc n : Nat} {Ls : Array Slot} {st : List Value} {x y : Int32} (hd : decode c.code pc = .ok (.isub, 1))  (hn : pc + 1 = n) (k : Ends p e below s K J Q (T.setTop (mkF m n Ls (.int (x - y) :: st)))) : Ends p e below s K J Q (T.setTop (mkF m pc Ls (.int y :: .int x :: st))) := by
  subst hn
  exact Ends.via (fun t h => XS.isub X.here hx rfl hd rfl h) k
theorem own_iand (X : Stand p l e R s m args below meth c T locs cells slots) (hx : p.tables.exec = Jvm.exec) {pc n : Nat} {Ls : Array Slot} {st : List Value} {x y : Int32} (hd : decode c.code pc = .ok (.iand, 1))  (hn : pc + 1 = n) (k : Ends p e below s K J Q (T.setTop (mkF m n Ls (.int (x &&& y) :: st)))) : Ends p e below s K J Q (T.setTop (mkF m pc Ls (.int y :: .int x :: st))) := by
  subst hn
  exact Ends.via (fun t h => XS.iand X.here hx rfl hd rfl h) k
theorem own_iushr (X : Stand p l e R s m args below meth c T locs cells slots) (hx : p.tables.exec = Jvm.exec) {pc n : Nat} {Ls : Array Slot} {st : List Value} {x y : Int32} (hd : decode c.code pc = .ok (.iushr, 1))  (hn : pc + 1 = n) (k : Ends p e below s K J Q (T.setTop (mkF m n Ls (.int ((x.toUInt32 >>> (y &&& 31).toUInt32).toInt32) :: st)))) : Ends p e below s K J Q (T.setTop (mkF m pc Ls (.int y :: .int x :: st))) := by
  subst hn
  exact Ends.via (fun t h => XS.iushr X.here hx rfl hd rfl h) k
theorem own_iconst (X : Stand p l e R s m args below meth c T locs cells slots) (hx : p.tables.exec = Jvm.exec) {pc n : Nat} {Ls : Array Slot} {st : List Value} {i : Int} (v : Int32) (hd : decode c.code pc = .ok (.iconst i, 1)) (hv : Int32.ofInt i = v) (hn : pc + 1 = n) (k : Ends p e below s K J Q (T.setTop (mkF m n Ls (.int v :: st)))) : Ends p e below s K J Q (T.setTop (mkF m pc Ls st)) := by
  subst hn hv
  exact Ends.via (fun t h => XS.iconst X.here hx rfl hd h) k
theorem own_iload (X : Stand p l e R s m args below meth c T locs cells slots) (hx : p.tables.exec = Jvm.exec) {pc n : Nat} {Ls : Array Slot} {st : List Value} {i : Nat} {v : Int32} (hd : decode c.code pc = .ok (.iload i, 2)) (hl : Ls[i]? = some (.val (.int v))) (hn : pc + 2 = n) (k : Ends p e below s K J Q (T.setTop (mkF m n Ls (.int v :: st)))) : Ends p e below s K J Q (T.setTop (mkF m pc Ls (st))) := by
  subst hn
  exact Ends.via (fun t h => XS.iload X.here hx rfl hd hl h) k
theorem own_iloadN (X : Stand p l e R s m args below meth c T locs cells slots) (hx : p.tables.exec = Jvm.exec) {pc n : Nat} {Ls : Array Slot} {st : List Value} {i : Fin 4} {v : Int32} (hd : decode c.code pc = .ok (.iload_n i, 1)) (hl : Ls[i.val]? = some (.val (.int v))) (hn : pc + 1 = n) (k : Ends p e below s K J Q (T.setTop (mkF m n Ls (.int v :: st)))) : Ends p e below s K J Q (T.setTop (mkF m pc Ls (st))) := by
  subst hn
  exact Ends.via (fun t h => XS.iloadN X.here hx rfl hd hl h) k
theorem own_istore (X : Stand p l e R s m args below meth c T locs cells slots) (hx : p.tables.exec = Jvm.exec) {pc n : Nat} {Ls : Array Slot} {st : List Value} {i : Nat} {v : Int32} {l' : Array Slot} (hd : decode c.code pc = .ok (.istore i, 2)) (hl : storeLocals Ls i (.int v) = some l') (hn : pc + 2 = n) (k : Ends p e below s K J Q (T.setTop (mkF m n l' (st)))) : Ends p e below s K J Q (T.setTop (mkF m pc Ls (.int v :: st))) := by
  subst hn
  exact Ends.via (fun t h => XS.istore X.here hx rfl hd rfl hl h) k
theorem own_istoreN (X : Stand p l e R s m args below meth c T locs cells slots) (hx : p.tables.exec = Jvm.exec) {pc n : Nat} {Ls : Array Slot} {st : List Value} {i : Fin 4} {v : Int32} {l' : Array Slot} (hd : decode c.code pc = .ok (.istore_n i, 1)) (hl : storeLocals Ls i.val (.int v) = some l') (hn : pc + 1 = n) (k : Ends p e below s K J Q (T.setTop (mkF m n l' (st)))) : Ends p e below s K J Q (T.setTop (mkF m pc Ls (.int v :: st))) := by
  subst hn
  exact Ends.via (fun t h => XS.istoreN X.here hx rfl hd rfl hl h) k
theorem own_aload (X : Stand p l e R s m args below meth c T locs cells slots) (hx : p.tables.exec = Jvm.exec) {pc n : Nat} {Ls : Array Slot} {st : List Value} {i : Nat} {v : Value} (hd : decode c.code pc = .ok (.aload i, 2)) (hl : Ls[i]? = some (.val v)) (hv : v.isRef = true) (hn : pc + 2 = n) (k : Ends p e below s K J Q (T.setTop (mkF m n Ls (v :: st)))) : Ends p e below s K J Q (T.setTop (mkF m pc Ls (st))) := by
  subst hn
  exact Ends.via (fun t h => XS.aload X.here hx rfl hd hl hv h) k
theorem own_aloadN (X : Stand p l e R s m args below meth c T locs cells slots) (hx : p.tables.exec = Jvm.exec) {pc n : Nat} {Ls : Array Slot} {st : List Value} {i : Fin 4} {v : Value} (hd : decode c.code pc = .ok (.aload_n i, 1)) (hl : Ls[i.val]? = some (.val v)) (hv : v.isRef = true) (hn : pc + 1 = n) (k : Ends p e below s K J Q (T.setTop (mkF m n Ls (v :: st)))) : Ends p e below s K J Q (T.setTop (mkF m pc Ls (st))) := by
  subst hn
  exact Ends.via (fun t h => XS.aloadN X.here hx rfl hd hl hv h) k
theorem own_astore (X : Stand p l e R s m args below meth c T locs cells slots) (hx : p.tables.exec = Jvm.exec) {pc n : Nat} {Ls : Array Slot} {st : List Value} {i : Nat} {v : Value} {l' : Array Slot} (hd : decode c.code pc = .ok (.astore i, 2)) (hv : v.isRef = true) (hl : storeLocals Ls i v = some l') (hn : pc + 2 = n) (k : Ends p e below s K J Q (T.setTop (mkF m n l' (st)))) : Ends p e below s K J Q (T.setTop (mkF m pc Ls (v :: st))) := by
  subst hn
  exact Ends.via (fun t h => XS.astore X.here hx rfl hd rfl hv hl h) k
theorem own_iinc (X : Stand p l e R s m args below meth c T locs cells slots) (hx : p.tables.exec = Jvm.exec) {pc n : Nat} {Ls : Array Slot} {st : List Value} {i : Nat} {cst : Int} {x v : Int32} {l' : Array Slot} (hd : decode c.code pc = .ok (.iinc i cst, 3)) (hl : Ls[i]? = some (.val (.int x))) (hv : Int32.ofInt cst = v) (hl' : storeLocals Ls i (.int (x + v)) = some l') (hn : pc + 3 = n) (k : Ends p e below s K J Q (T.setTop (mkF m n l' st))) : Ends p e below s K J Q (T.setTop (mkF m pc Ls st)) := by
  subst hn hv
  exact Ends.via (fun t h => XS.iinc X.here hx rfl hd hl hl' h) k
theorem own_goto (X : Stand p l e R s m args below meth c T locs cells slots) (hx : p.tables.exec = Jvm.exec) {pc n : Nat} {Ls : Array Slot} {st : List Value} {o : Int} (hd : decode c.code pc = .ok (.goto o, 3)) (ho : 0 ≤ (pc : Int) + o) (hp : ((pc : Int) + o).toNat = n) (k : Ends p e below s K J Q (T.setTop (mkF m n Ls st))) : Ends p e below s K J Q (T.setTop (mkF m pc Ls st)) :=
  Ends.via (fun t h => XS.goto X.here hx rfl (pc0 := pc) rfl hd ho hp h) k
theorem own_ifYes (X : Stand p l e R s m args below meth c T locs cells slots) (hx : p.tables.exec = Jvm.exec) {pc n : Nat} {Ls : Array Slot} {st : List Value} {o : Int} {cd : ClassFile.Cond} {x : Int32} (hd : decode c.code pc = .ok (.ifCond cd o, 3)) (hc : ifCond.holds cd x = true) (ho : 0 ≤ (pc : Int) + o) (hp : ((pc : Int) + o).toNat = n) (k : Ends p e below s K J Q (T.setTop (mkF m n Ls st))) : Ends p e below s K J Q (T.setTop (mkF m pc Ls (.int x :: st))) :=
  Ends.via (fun t h => XS.ifYes X.here hx rfl (pc0 := pc) rfl hd rfl hc ho hp h) k
theorem own_ifNo (X : Stand p l e R s m args below meth c T locs cells slots) (hx : p.tables.exec = Jvm.exec) {pc n : Nat} {Ls : Array Slot} {st : List Value} {o : Int} {cd : ClassFile.Cond} {x : Int32} (hd : decode c.code pc = .ok (.ifCond cd o, 3)) (hc : ifCond.holds cd x = false) (hn : pc + 3 = n) (k : Ends p e below s K J Q (T.setTop (mkF m n Ls st))) : Ends p e below s K J Q (T.setTop (mkF m pc Ls (.int x :: st))) := by
  subst hn
  exact Ends.via (fun t h => XS.ifNo X.here hx rfl hd rfl hc h) k
theorem own_icmpYes (X : Stand p l e R s m args below meth c T locs cells slots) (hx : p.tables.exec = Jvm.exec) {pc n : Nat} {Ls : Array Slot} {st : List Value} {o : Int} {cd : ClassFile.Cond} {x y : Int32} (hd : decode c.code pc = .ok (.if_icmp cd o, 3)) (hc : if_icmp.holds cd x y = true) (ho : 0 ≤ (pc : Int) + o) (hp : ((pc : Int) + o).toNat = n) (k : Ends p e below s K J Q (T.setTop (mkF m n Ls st))) : Ends p e below s K J Q (T.setTop (mkF m pc Ls (.int y :: .int x :: st))) :=
  Ends.via (fun t h => XS.icmpYes X.here hx rfl (pc0 := pc) rfl hd rfl hc ho hp h) k
theorem own_icmpNo (X : Stand p l e R s m args below meth c T locs cells slots) (hx : p.tables.exec = Jvm.exec) {pc n : Nat} {Ls : Array Slot} {st : List Value} {o : Int} {cd : ClassFile.Cond} {x y : Int32} (hd : decode c.code pc = .ok (.if_icmp cd o, 3)) (hc : if_icmp.holds cd x y = false) (hn : pc + 3 = n) (k : Ends p e below s K J Q (T.setTop (mkF m n Ls st))) : Ends p e below s K J Q (T.setTop (mkF m pc Ls (.int y :: .int x :: st))) := by
  subst hn
  exact Ends.via (fun t h => XS.icmpNo X.here hx rfl hd rfl hc h) k
theorem own_ldc (X : Stand p l e R s m args below meth c T locs cells slots) (hx : p.tables.exec = Jvm.exec) (hZ : Z.Warmed39 s.vm) {own : String} (hown : s.vm.findClass own = some m.cls) {pc n : Nat} {Ls : Array Slot} {st : List Value} {i : Nat} {v : Int32} (w : (Cond.constant own i v).before a0 Z = true) (hd : decode c.code pc = .ok (.ldc i, 2)) (hn : pc + 2 = n) (k : Ends p e below s K J Q (T.setTop (mkF m n Ls (.int v :: st)))) : Ends p e below s K J Q (T.setTop (mkF m pc Ls st)) := by
  subst hn
  exact Ends.via (fun t h => X.ldcI hx hown (mvT hZ w) rfl hd h) k
theorem own_retI (X : Stand p l e R s m args below meth c T locs cells slots) (hx : p.tables.exec = Jvm.exec) (lk : meth.locks = false) {pc : Nat} {Ls : Array Slot} {rest : List Value} {z : Int32} (hret : meth.sig.returnType = some .int)  (hd : decode c.code pc = .ok (.ireturn, 1)) (hK : cells ≤ K) (hJ : slots ≤ J) (hq : Q (some (.int z)) T.heap locs) : Ends p e below s K J Q (T.setTop (mkF m pc Ls (.int z :: rest))) := by
  obtain ⟨fs, hr, hrun, hended, hW, hsame⟩ := X.leave (v := (some (.int z))) (fun h => by rw [hret] at h; cases h) lk
  exact ⟨_, _, retOut X hx (w := .int z) (t := .int) hret rfl (Or.inl ⟨rfl, Or.inl rfl, z, rfl⟩) hd hr, hrun, hended, _, _, rfl, hq, ⟨_, rfl⟩, hW, hsame.mono hK hJ⟩
theorem own_retN (X : Stand p l e R s m args below meth c T locs cells slots) (hx : p.tables.exec = Jvm.exec) (lk : meth.locks = false) {pc : Nat} {Ls : Array Slot} {rest : List Value} {z : Int32} {t : FieldType}  (hret : meth.sig.returnType = some t) (ht : t = .boolean ∨ t = .byte ∨ t = .char ∨ t = .short) (hd : decode c.code pc = .ok (.ireturn, 1)) (hK : cells ≤ K) (hJ : slots ≤ J) (hq : Q (some (.int (nar t z))) T.heap locs) : Ends p e below s K J Q (T.setTop (mkF m pc Ls (.int z :: rest))) := by
  obtain ⟨fs, hr, hrun, hended, hW, hsame⟩ := X.leave (v := (some (.int (nar t z)))) (fun h => by rw [hret] at h; cases h) lk
  exact ⟨_, _, Jvm.RoadKit.retN X hx hret ht hd hr, hrun, hended, _, _, rfl, hq, ⟨_, rfl⟩, hW, hsame.mono hK hJ⟩
theorem own_callS (X : Stand p l e R s m args below meth c T locs cells slots) (hx : p.tables.exec = Jvm.exec) (hZ : Z.Warmed39 s.vm) {own : String} {index : Nat} {y : MethodName} {bytes : ByteArray} {maxL : Nat} {ret : Option FieldType} (hown : s.vm.findClass own = some m.cls) (wl : (Cond.methodLink own index y).before a0 Z = true) (ws : (Cond.static y).before a0 Z = true) (wz : (Cond.initialized y.cls).before a0 Z = true) (wc : (Cond.code y bytes maxL ret).before a0 Z = true) (hy : y.cls ≠ "java/lang/invoke/MethodHandle" ∧ y.cls ≠ "java/lang/invoke/VarHandle") (eT : T.heap = h)
    {rm : Room} {Qc : Option Value → Heap → List Loc → Prop} {as' : Array Value} (hM : MetFree l y (head1 [Cond.code y bytes maxL ret] rm) (fun a U => a = as' ∧ Z.Warmed39 U.vm ∧ U.heap = h) (fun _ _ _ _ _ => True) (fun _ U o U' => ∃ v L, o = .returned v ∧ Qc v U'.heap L ∧ FrameEnd U o U' L rm.cells rm.slots)) {W : Nat} (hf : rm.frames + 1 ≤ R.frames) (hl : W + (maxL + 11) + rm.locals ≤ R.locals) (hc : cells + rm.cells ≤ R.cells) (hsl : slots + rm.slots ≤ R.slots) {pc n : Nat} {Ls : Array Slot} (hsize : Ls.size = c.maxLocals) {argsL rest : List Value} {ps : List FieldType} {r : Option FieldType} (hpd : parseMethodDescriptor y.desc = some ⟨ps, r⟩) (hlen : argsL.length = ps.length) (has : argsL.toArray = as') (hW : 0 + (rest.map fun v => v.category).sum ≤ W) (hd : decode c.code pc = .ok (.invokestatic index, 3)) (hn : pc + 3 = n) {st : List Value} (hst : st = argsL.reverse ++ rest)
    (k : ∀ v T' h' L', Stand p l e R s m args below meth c T' (locs ++ L') (cells + rm.cells) (slots + rm.slots) → T'.heap = h' → Qc v h' L' → Ends p e below s K J Q (T'.setTop (mkF m n Ls (v.toList ++ rest)))) : Ends p e below s K J Q (T.setTop (mkF m pc Ls st)) := by
  subst hn
  obtain ⟨v, _, ⟨T18, L18, k18, n18⟩, -, X18, ⟨Lc18, hQ18, l18, y18, z18⟩, st18⟩ := Jvm.LawKit.callS X hx hown (mvT hZ wl) (mvT hZ ws) (mvT hZ wz) (mvT hZ wc) hy (backOf (W := W) hM hZ wc wz hf hl) (g := mkF m pc Ls st) rfl hsize (argsL := argsL) (rest := rest) (lenOf hpd hlen) hst hW hd (fun _ _ => ⟨has, eT, hc, hsl⟩)
  dsimp only [Pt.U, Pt.locs, Pt.cells, Pt.slots] at X18 l18 y18 z18 st18 hQ18
  subst l18 y18 z18
  exact Ends.via (fun t h => st18 t h) (k v T18 _ Lc18 X18 rfl hQ18)
/-- an array of n places: the j-th holds f j -/
def VA (Z : State) (h : Heap) (a : Addr) (ty : FieldType) (n : Nat) (f : Nat → Value) : Prop := n < 2 ^ 31 ∧ ∃ c : Cell, Arr Z h a c ty ∧ c.slots.size = n ∧ ∀ j, j < n → c.slots[j]? = some (f j)
theorem VA.ext {h' : Heap} {a : Addr} {ty : FieldType} {n : Nat} {f : Nat → Value} (F : VA Z h a ty n f) (E : Ext h h') : VA Z h' a ty n f := by obtain ⟨q, c, A, r⟩ := F; exact ⟨q, c, A.ext E, r⟩
theorem VA.keep {h' : Heap} {a : Addr} {ty : FieldType} {n : Nat} {f : Nat → Value} {ws : List Addr} (F : VA Z h a ty n f) (K : Keep h h' ws) (q : a ∉ ws) : VA Z h' a ty n f := by obtain ⟨r0, c, A, r⟩ := F; exact ⟨r0, c, ⟨K.2.1 a c A.1 q, A.2⟩, r⟩
theorem VA.wrO {h' : Heap} {a b : Addr} {sl : Nat} {w : Value} {ty : FieldType} {n : Nat} {f : Nat → Value} (F : VA Z h a ty n f) (W : Wr h h' b sl w) (q : a ≠ b) : VA Z h' a ty n f := by obtain ⟨r0, c, A, r⟩ := F; exact ⟨r0, c, A.other W q, r⟩
theorem VA.lt {a : Addr} {ty : FieldType} {n : Nat} {f : Nat → Value} (F : VA Z h a ty n f) : a < h.size := by obtain ⟨-, c, A, -⟩ := F; exact A.lt
theorem VA.set {h' : Heap} {a : Addr} {ty : FieldType} {n i : Nat} {f : Nat → Value} {w : Value} (F : VA Z h a ty n f) (W : Wr h h' a i w) (hi : i < n) : VA Z h' a ty n (fun j => if j = i then w else f j) := by
  obtain ⟨q, c, A, r1, r2⟩ := F
  refine ⟨q, _, A.same W, (sz_set c i w).trans r1, fun j hj => ?_⟩
  by_cases e : j = i
  · subst e
    simp [Cell.setSlot, r1, hj]
  · show (c.setSlot i w).slots[j]? = some (if j = i then w else f j)
    rw [if_neg e, ← r2 j hj]
    exact Array.getElem?_setIfInBounds_ne (fun z => e z.symm)
theorem VA.congr {a : Addr} {ty : FieldType} {n : Nat} {f g : Nat → Value} (F : VA Z h a ty n f) (e : ∀ j, j < n → f j = g j) : VA Z h a ty n g := by obtain ⟨q, c, A, r1, r2⟩ := F; exact ⟨q, c, A, r1, fun j hj => (r2 j hj).trans (congrArg some (e j hj))⟩
def IA (Z : State) (h : Heap) (a : Addr) (n : Nat) (g : Nat → Int32) : Prop := VA Z h a .int n (fun j => .int (g j))
theorem IA.ext {h' : Heap} {a : Addr} {n : Nat} {g : Nat → Int32} (F : IA Z h a n g) (E : Ext h h') : IA Z h' a n g := VA.ext F E
theorem IA.keep {h' : Heap} {a : Addr} {n : Nat} {g : Nat → Int32} {ws : List Addr} (F : IA Z h a n g) (K : Keep h h' ws) (q : a ∉ ws) : IA Z h' a n g := VA.keep F K q
theorem IA.wrO {h' : Heap} {a b : Addr} {sl : Nat} {w : Value} {n : Nat} {g : Nat → Int32} (F : IA Z h a n g) (W : Wr h h' b sl w) (q : a ≠ b) : IA Z h' a n g := VA.wrO F W q
theorem IA.lt {a : Addr} {n : Nat} {g : Nat → Int32} (F : IA Z h a n g) : a < h.size := VA.lt F
theorem IA.set {h' : Heap} {a : Addr} {n i : Nat} {g : Nat → Int32} {x : Int32} (F : IA Z h a n g) (W : Wr h h' a i (.int x)) (hi : i < n) : IA Z h' a n (fun j => if j = i then x else g j) :=
  VA.congr (VA.set F W hi) fun j _ => by by_cases e : j = i <;> simp [e]
theorem IA.congr {a : Addr} {n : Nat} {f g : Nat → Int32} (F : IA Z h a n f) (e : ∀ j, j < n → f j = g j) : IA Z h a n g := VA.congr F fun j hj => by rw [e j hj]
theorem own_clamp {j : Int32} {i : Nat} (hj : j.toInt = (i : Int)) : j.toNatClampNeg = i ∧ ¬ j < 0 := by
  refine ⟨by simp only [Int32.toNatClampNeg, hj]; rfl, fun q => ?_⟩
  rw [Int32.lt_iff_toInt_lt, hj] at q
  have o : (0 : Int32).toInt = 0 := rfl
  omega
theorem own_in {j : Int32} {i n : Nat} {c : Cell} (hj : j.toInt = (i : Int)) (hi : i < n) (S : c.slots.size = n) : ¬ (j < 0 ∨ c.slots.size ≤ j.toNatClampNeg) := by
  obtain ⟨q1, q2⟩ := own_clamp hj
  rintro (z | z)
  · exact q2 z
  · rw [q1, S] at z; omega
theorem own_newI (X : Stand p l e R s m args below meth c T locs cells slots) (hx : p.tables.exec = Jvm.exec) (hZ : Z.Warmed39 s.vm) (w : (Cond.arrayClass .int).before a0 Z = true) (eT : T.heap = h) {N : Int32} {i cap : Nat} (hN : N.toInt = (i : Int)) (hcap : i ≤ cap) (hb : cap * 8 ≤ 536870912) (hc : cells + 1 ≤ R.cells) (hl : slots + cap ≤ R.slots) {pc n : Nat} {Ls : Array Slot} {st : List Value} (hd : decode c.code pc = .ok (.newarray .int, 2)) (hn : pc + 2 = n)
    (k : ∀ T' h' b, Stand p l e R s m args below meth c T' locs (cells + 1) (slots + cap) → T'.heap = h' → b = h.size → Ext h h' → IA Z h' b i (fun _ => 0) → Ends p e below s K J Q (T'.setTop (mkF m n Ls (.ref b :: st)))) : Ends p e below s K J Q (T.setTop (mkF m pc Ls (.int N :: st))) := by
  subst hn
  obtain ⟨q1, q2⟩ := own_clamp hN
  obtain ⟨T', h', cA, X', e', E', A', st'⟩ := newP X hx hZ (aty := .int) w eT (g := mkF m pc Ls (.int N :: st)) rfl hd rfl q2 (cap := cap) (by rw [q1]; exact hcap) hb hc hl
  have b1 := rng32 N
  refine Ends.via (fun t h => st' t h) (k T' h' _ X' e' rfl E' ⟨by omega, _, A', (sz_new _ _ _).trans q1, fun j hj => ?_⟩)
  simp [newA, q1, hj]
  rfl
theorem own_iastore (X : Stand p l e R s m args below meth c T locs cells slots) (hx : p.tables.exec = Jvm.exec) (hZ : Z.Warmed39 s.vm) (eT : T.heap = h) {a : Addr} {N : Nat} {g : Nat → Int32} (F : IA Z h a N g) {j x : Int32} {i : Nat} (hj : j.toInt = (i : Int)) (hi : i < N) {pc n : Nat} {Ls : Array Slot} {st : List Value} (hd : decode c.code pc = .ok (.iastore, 1)) (hn : pc + 1 = n)
    (k : ∀ T' h', Stand p l e R s m args below meth c T' (locs ++ [⟨a, i⟩]) cells slots → T'.heap = h' → Wr h h' a i (.int x) → IA Z h' a N (fun y => if y = i then x else g y) → Ends p e below s K J Q (T'.setTop (mkF m n Ls st))) : Ends p e below s K J Q (T.setTop (mkF m pc Ls (.int x :: .int j :: .ref a :: st))) := by
  subst hn
  have F' := F
  obtain ⟨q, cl, A, S, H⟩ := F
  obtain ⟨q1, q2⟩ := own_clamp hj
  obtain ⟨T', h', X', e', W', st'⟩ := stI X hx hZ eT A (j := j) (own_in hj hi S) (g := mkF m pc Ls (.int x :: .int j :: .ref a :: st)) rfl rfl hd
  rw [q1] at X' W'
  exact Ends.via (fun t h => st' t h) (k T' h' X' e' W' (IA.set F' W' hi))
theorem own_iaload (X : Stand p l e R s m args below meth c T locs cells slots) (hx : p.tables.exec = Jvm.exec) (hZ : Z.Warmed39 s.vm) (eT : T.heap = h) {a : Addr} {N : Nat} {g : Nat → Int32} (F : IA Z h a N g) {j : Int32} {i : Nat} (hj : j.toInt = (i : Int)) (hi : i < N) {pc n : Nat} {Ls : Array Slot} {st : List Value} (hd : decode c.code pc = .ok (.iaload, 1)) (hn : pc + 1 = n)
    (k : Ends p e below s K J Q (T.setTop (mkF m n Ls (.int (g i) :: st)))) : Ends p e below s K J Q (T.setTop (mkF m pc Ls (.int j :: .ref a :: st))) := by
  subst hn
  obtain ⟨q, cl, A, S, H⟩ := F
  obtain ⟨q1, q2⟩ := own_clamp hj
  exact Ends.via (fun t h => X.iaload hx (j := j) (v := .int (g i)) (by rw [eT]; exact A.1) (State.isArrayOf_alike hZ.alike A.2.1) A.2.2 (own_in hj hi S) (by rw [q1]; exact H i hi) (g := mkF m pc Ls (.int j :: .ref a :: st)) rfl rfl hd _ h) k
theorem own_arraylength (X : Stand p l e R s m args below meth c T locs cells slots) (hx : p.tables.exec = Jvm.exec) (hZ : Z.Warmed39 s.vm) (eT : T.heap = h) {a : Addr} {ty : FieldType} {N : Nat} {g : Nat → Value} (F : VA Z h a ty N g) {v : Int32} (hv : v.toInt = (N : Int)) {pc n : Nat} {Ls : Array Slot} {st : List Value} (hd : decode c.code pc = .ok (.arraylength, 1)) (hn : pc + 1 = n)
    (k : Ends p e below s K J Q (T.setTop (mkF m n Ls (.int v :: st)))) : Ends p e below s K J Q (T.setTop (mkF m pc Ls (.ref a :: st))) := by
  subst hn
  obtain ⟨q, cl, A, S, H⟩ := F
  have e1 : cl.slots.size.toInt32 = v := Int32.toInt_inj.mp (by rw [len_toInt (by omega), hv, S])
  rw [← e1] at k
  exact Ends.via (fun t h => X.arraylength hx (by rw [eT]; exact A.1) (State.isArrayOf_alike hZ.alike A.2.1) (g := mkF m pc Ls (.ref a :: st)) rfl rfl hd _ h) k
end Own
theorem own_and0 (x m : Int32) (hm : 0 ≤ m.toInt) : 0 ≤ (x &&& m).toInt := (c_and x m hm).1
theorem own_len (x : Int32) : ∃ N : Nat, ((x &&& (3 : Int32)) + (1 : Int32)).toInt = (N : Int) ∧ 1 ≤ N ∧ N ≤ 4 := by
  have h := c_and x 3 (by decide)
  have q := c_iadd (x &&& 3) 1
  have r := rng32 ((x &&& 3) + 1)
  have o1 : (1 : Int32).toInt = 1 := rfl
  have o3 : (3 : Int32).toInt = 3 := rfl
  exact ⟨((x &&& 3) + 1).toInt.toNat, by omega, by omega, by omega⟩
theorem own_inj {a b : Int32} (h : a.toInt = b.toInt) : a = b := Int32.toInt_inj.mp h
theorem own_dec {q : Int32} {i : Nat} (h : q.toInt = ((i + 1 : Nat) : Int)) : (q + (-1 : Int32)).toInt = (i : Int) := by
  have q1 := c_iadd q (-1)
  have q2 := rng32 (q + -1)
  have q3 := rng32 q
  rw [show (-1 : Int32).toInt = -1 from rfl] at q1
  generalize (q + -1).toInt = u at *
  generalize q.toInt = w at *
  omega
def LAST (N M : Nat) (g : Nat → Int32) (doc : Int32) (i : Nat) : Prop := i < N ∧ (g i).toInt ≤ doc.toInt ∧ ∀ j, i < j → j < M → j < N → doc.toInt < (g j).toInt
theorem LAST.uniq {N : Nat} {g : Nat → Int32} {doc : Int32} {i j : Nat} (h1 : LAST N N g doc i) (h2 : LAST N N g doc j) : i = j := by
  rcases Nat.lt_trichotomy i j with h | h | h
  · have := h1.2.2 j h h2.1 h2.1; have := h2.2.1; omega
  · exact h
  · have := h2.2.2 i h h1.1 h1.1; have := h1.2.1; omega
theorem LAST.up {N M : Nat} {g : Nat → Int32} {doc : Int32} {i : Nat} (h : LAST N M g doc i) (q : N ≤ M ∨ doc.toInt < (g M).toInt) : LAST N (M + 1) g doc i := ⟨h.1, h.2.1, fun j h1 h2 h3 => by
  by_cases e : j = M
  · subst e
    rcases q with q | q
    · omega
    · exact q
  · exact h.2.2 j h1 (by omega) h3⟩
theorem LAST.hit {N M : Nat} {g : Nat → Int32} {doc : Int32} (h : M < N) (q : (g M).toInt ≤ doc.toInt) : LAST N (M + 1) g doc M := ⟨h, q, fun j h1 h2 h3 => by omega⟩
theorem LAST.full {N M : Nat} {g : Nat → Int32} {doc : Int32} {i : Nat} (h : LAST N M g doc i) (q : N ≤ M) : LAST N N g doc i := ⟨h.1, h.2.1, fun j h1 h2 h3 => h.2.2 j h1 (by omega) h3⟩
theorem d2_0 : decode jdk_29_method_65_code 0 = .ok (.iload_n 0, 1) := by decide +kernel
theorem d2_1 : decode jdk_29_method_65_code 1 = .ok (.iload_n 1, 1) := by decide +kernel
theorem d2_2 : decode jdk_29_method_65_code 2 = .ok (.if_icmp .lt 7, 3) := by decide +kernel
theorem d2_5 : decode jdk_29_method_65_code 5 = .ok (.iload_n 0, 1) := by decide +kernel
theorem d2_6 : decode jdk_29_method_65_code 6 = .ok (.goto 4, 3) := by decide +kernel
theorem d2_9 : decode jdk_29_method_65_code 9 = .ok (.iload_n 1, 1) := by decide +kernel
theorem d2_10 : decode jdk_29_method_65_code 10 = .ok (.ireturn, 1) := by decide +kernel
theorem pn_2 : plainFor (⟨"java/lang/Math", "max", "(II)I"⟩ : MethodName) = true := by first | exact plainFor_of_name (by first | (simp [plainName, overriddenIn]; done) | decide +kernel) | decide +kernel
theorem ef_2 (m : MethodId) (p1 : Int32) (p2 : Int32) : entryFrame m #[(.int p1), (.int p2)] 2 = mkF m 0 #[.val (.int p1), .val (.int p2)] [] := by first | rfl | (simp [entryFrame, mkF, argsToLocals, Value.category]; done)
theorem pd_2 : parseMethodDescriptor "(II)I" = some ⟨[.int, .int], some .int⟩ := by decide +kernel
def Q2 (Z : State) (p1 : Int32) (p2 : Int32)  (h0 : Heap) (n0 : Nat) (v : Option Value) (h : Heap) (L : List Loc) : Prop := v = some (.int (if p1 < p2 then p2 else p1)) ∧ Fr n0 L ∧ h0 = h
theorem rm2 (l : Launch) (Z : State) (a0 : Array Value) (hw : ∀ d ∈ tables_1, d.before a0 Z = true) (ws : List Jvm.Cond) (p1 : Int32) (p2 : Int32)  (h0 : Heap) (n0 : Nat) (Z0 : n0 ≤ h0.size)  :
    MetFree l (⟨"java/lang/Math", "max", "(II)I"⟩ : MethodName) (head1 (Jvm.Cond.code (⟨"java/lang/Math", "max", "(II)I"⟩ : MethodName) jdk_29_method_65_code 2 (some .int) :: ws) ({ frames := 0, cells := 0, slots := 0, locals := 0 } : Room)) (fun a U => a = #[(.int p1), (.int p2)] ∧ Z.Warmed39 U.vm ∧ U.heap = h0) (fun _ _ _ _ _ => True) (fun _ U o U' => ∃ v L, o = .returned v ∧ (Q2 Z p1 p2  h0 n0) v U'.heap L ∧ FrameEnd U o U' L ({ frames := 0, cells := 0, slots := 0, locals := 0 } : Room).cells ({ frames := 0, cells := 0, slots := 0, locals := 0 } : Room).slots) := by
  refine MetFree.of_bodySF pn_2 hisR ?_
  intro p e s m args below meth c s₁ Bd hml0 hP hK
  obtain ⟨rfl, hZ, hh⟩ := hP
  have hx := Bd.exec
  have hby := Bd.bytes
  have hml : c.maxLocals = 2 := hml0
  have hown : s.vm.findClass "java/lang/Math" = some m.cls := findClass_of_methodNamed Bd.named
  have hnm := (name_of_methodNamed Bd.named Bd.method).1
  have X0 : Stand p l e ({ frames := 0, cells := 0, slots := 0, locals := 0 } : Room) s m #[(.int p1), (.int p2)] below meth c s₁ [] 0 0 := Stand.of_body Bd
  have e0 : s₁.heap = h0 := by rw [← hh, Bd.state]; rfl
  have N0 := Fr.nil n0
  have lk : meth.locks = false := BodyLoose.notSynchronized Bd
  have hret := Bd.returns
  show Ends p e below s ({ frames := 0, cells := 0, slots := 0, locals := 0 } : Room).cells ({ frames := 0, cells := 0, slots := 0, locals := 0 } : Room).slots (Q2 Z p1 p2  h0 n0) (s₁.setTop (entryFrame m #[(.int p1), (.int p2)] 2))
  refine Ends.cast (ef_2 m p1 p2) ?_
  refine own_iloadN (n := 1) X0 hx (hb hby d2_0) rfl rfl ?_
  refine own_iloadN (n := 2) X0 hx (hb hby d2_1) rfl rfl ?_
  by_cases c2 : p1 < p2
  · refine own_icmpYes (n := 9) X0 hx (hb hby d2_2) (Jvm.Free.XT.ii_lt_t c2) (by decide) (by decide) ?_
    refine own_iloadN (n := 10) X0 hx (hb hby d2_9) rfl rfl ?_
    refine own_retI X0 hx lk hret (hb hby d2_10) (by decide) (by decide) ?_
    rw [e0]
    exact ⟨by rw [if_pos c2], N0, rfl⟩
  · refine own_icmpNo (n := 5) X0 hx (hb hby d2_2) (Jvm.Free.XT.ii_lt_f c2) rfl ?_
    refine own_iloadN (n := 6) X0 hx (hb hby d2_5) rfl rfl ?_
    refine own_goto (n := 10) X0 hx (hb hby d2_6) (by decide) (by decide) ?_
    refine own_retI X0 hx lk hret (hb hby d2_10) (by decide) (by decide) ?_
    rw [e0]
    exact ⟨by rw [if_neg c2], N0, rfl⟩
theorem d1_0 : decode jdk_29_method_69_code 0 = .ok (.iload_n 0, 1) := by decide +kernel
theorem d1_1 : decode jdk_29_method_69_code 1 = .ok (.iload_n 1, 1) := by decide +kernel
theorem d1_2 : decode jdk_29_method_69_code 2 = .ok (.if_icmp .gt 7, 3) := by decide +kernel
theorem d1_5 : decode jdk_29_method_69_code 5 = .ok (.iload_n 0, 1) := by decide +kernel
theorem d1_6 : decode jdk_29_method_69_code 6 = .ok (.goto 4, 3) := by decide +kernel
theorem d1_9 : decode jdk_29_method_69_code 9 = .ok (.iload_n 1, 1) := by decide +kernel
theorem d1_10 : decode jdk_29_method_69_code 10 = .ok (.ireturn, 1) := by decide +kernel
theorem pn_1 : plainFor (⟨"java/lang/Math", "min", "(II)I"⟩ : MethodName) = true := by first | exact plainFor_of_name (by first | (simp [plainName, overriddenIn]; done) | decide +kernel) | decide +kernel
theorem ef_1 (m : MethodId) (p1 : Int32) (p2 : Int32) : entryFrame m #[(.int p1), (.int p2)] 2 = mkF m 0 #[.val (.int p1), .val (.int p2)] [] := by first | rfl | (simp [entryFrame, mkF, argsToLocals, Value.category]; done)
theorem pd_1 : parseMethodDescriptor "(II)I" = some ⟨[.int, .int], some .int⟩ := by decide +kernel
def Q1 (Z : State) (p1 : Int32) (p2 : Int32)  (h0 : Heap) (n0 : Nat) (v : Option Value) (h : Heap) (L : List Loc) : Prop := v = some (.int (if p2 < p1 then p2 else p1)) ∧ Fr n0 L ∧ h0 = h
theorem rm1 (l : Launch) (Z : State) (a0 : Array Value) (hw : ∀ d ∈ tables_1, d.before a0 Z = true) (ws : List Jvm.Cond) (p1 : Int32) (p2 : Int32)  (h0 : Heap) (n0 : Nat) (Z0 : n0 ≤ h0.size)  :
    MetFree l (⟨"java/lang/Math", "min", "(II)I"⟩ : MethodName) (head1 (Jvm.Cond.code (⟨"java/lang/Math", "min", "(II)I"⟩ : MethodName) jdk_29_method_69_code 2 (some .int) :: ws) ({ frames := 0, cells := 0, slots := 0, locals := 0 } : Room)) (fun a U => a = #[(.int p1), (.int p2)] ∧ Z.Warmed39 U.vm ∧ U.heap = h0) (fun _ _ _ _ _ => True) (fun _ U o U' => ∃ v L, o = .returned v ∧ (Q1 Z p1 p2  h0 n0) v U'.heap L ∧ FrameEnd U o U' L ({ frames := 0, cells := 0, slots := 0, locals := 0 } : Room).cells ({ frames := 0, cells := 0, slots := 0, locals := 0 } : Room).slots) := by
  refine MetFree.of_bodySF pn_1 hisR ?_
  intro p e s m args below meth c s₁ Bd hml0 hP hK
  obtain ⟨rfl, hZ, hh⟩ := hP
  have hx := Bd.exec
  have hby := Bd.bytes
  have hml : c.maxLocals = 2 := hml0
  have hown : s.vm.findClass "java/lang/Math" = some m.cls := findClass_of_methodNamed Bd.named
  have hnm := (name_of_methodNamed Bd.named Bd.method).1
  have X0 : Stand p l e ({ frames := 0, cells := 0, slots := 0, locals := 0 } : Room) s m #[(.int p1), (.int p2)] below meth c s₁ [] 0 0 := Stand.of_body Bd
  have e0 : s₁.heap = h0 := by rw [← hh, Bd.state]; rfl
  have N0 := Fr.nil n0
  have lk : meth.locks = false := BodyLoose.notSynchronized Bd
  have hret := Bd.returns
  show Ends p e below s ({ frames := 0, cells := 0, slots := 0, locals := 0 } : Room).cells ({ frames := 0, cells := 0, slots := 0, locals := 0 } : Room).slots (Q1 Z p1 p2  h0 n0) (s₁.setTop (entryFrame m #[(.int p1), (.int p2)] 2))
  refine Ends.cast (ef_1 m p1 p2) ?_
  refine own_iloadN (n := 1) X0 hx (hb hby d1_0) rfl rfl ?_
  refine own_iloadN (n := 2) X0 hx (hb hby d1_1) rfl rfl ?_
  by_cases c2 : p2 < p1
  · refine own_icmpYes (n := 9) X0 hx (hb hby d1_2) (Jvm.Free.XT.ii_gt_t c2) (by decide) (by decide) ?_
    refine own_iloadN (n := 10) X0 hx (hb hby d1_9) rfl rfl ?_
    refine own_retI X0 hx lk hret (hb hby d1_10) (by decide) (by decide) ?_
    rw [e0]
    exact ⟨by rw [if_pos c2], N0, rfl⟩
  · refine own_icmpNo (n := 5) X0 hx (hb hby d1_2) (Jvm.Free.XT.ii_gt_f c2) rfl ?_
    refine own_iloadN (n := 6) X0 hx (hb hby d1_5) rfl rfl ?_
    refine own_goto (n := 10) X0 hx (hb hby d1_6) (by decide) (by decide) ?_
    refine own_retI X0 hx lk hret (hb hby d1_10) (by decide) (by decide) ?_
    rw [e0]
    exact ⟨by rw [if_neg c2], N0, rfl⟩
theorem d3_0 : decode prog_26_method_14_code 0 = .ok (.aload_n 0, 1) := by decide +kernel
theorem d3_1 : decode prog_26_method_14_code 1 = .ok (.arraylength, 1) := by decide +kernel
theorem d3_2 : decode prog_26_method_14_code 2 = .ok (.iconst 1, 1) := by decide +kernel
theorem d3_3 : decode prog_26_method_14_code 3 = .ok (.isub, 1) := by decide +kernel
theorem d3_4 : decode prog_26_method_14_code 4 = .ok (.istore_n 2, 1) := by decide +kernel
theorem d3_5 : decode prog_26_method_14_code 5 = .ok (.aload_n 0, 1) := by decide +kernel
theorem d3_6 : decode prog_26_method_14_code 6 = .ok (.iload_n 2, 1) := by decide +kernel
theorem d3_7 : decode prog_26_method_14_code 7 = .ok (.iaload, 1) := by decide +kernel
theorem d3_8 : decode prog_26_method_14_code 8 = .ok (.iload_n 1, 1) := by decide +kernel
theorem d3_9 : decode prog_26_method_14_code 9 = .ok (.if_icmp .le 9, 3) := by decide +kernel
theorem d3_12 : decode prog_26_method_14_code 12 = .ok (.iinc 2 (-1), 3) := by decide +kernel
theorem d3_15 : decode prog_26_method_14_code 15 = .ok (.goto (-10), 3) := by decide +kernel
theorem d3_18 : decode prog_26_method_14_code 18 = .ok (.iload_n 2, 1) := by decide +kernel
theorem d3_19 : decode prog_26_method_14_code 19 = .ok (.ireturn, 1) := by decide +kernel
theorem pn_3 : plainFor (⟨"com/example/avocet/avocet/index/Index", "segmentOf", "([II)I"⟩ : MethodName) = true := by first | exact plainFor_of_name (by first | (simp [plainName, overriddenIn]; done) | decide +kernel) | decide +kernel
theorem ef_3 (m : MethodId) (a1 : Addr) (p2 : Int32) : entryFrame m #[(.ref a1), (.int p2)] 3 = mkF m 0 #[.val (.ref a1), .val (.int p2), .unset] [] := by first | rfl | (simp [entryFrame, mkF, argsToLocals, Value.category]; done)
theorem pd_3 : parseMethodDescriptor "([II)I" = some ⟨[(.array .int), .int], some .int⟩ := by decide +kernel
def Q3 (Z : State) (a1 : Addr) (p2 : Int32) (N : Nat) (g : Nat → Int32) (h0 : Heap) (n0 : Nat) (v : Option Value) (h : Heap) (L : List Loc) : Prop := ∃ (r : Int32) (i : Nat), v = some (.int r) ∧ r.toInt = (i : Int) ∧ LAST N N g p2 i ∧ Fr n0 L ∧ h0 = h
theorem rm3 (l : Launch) (Z : State) (a0 : Array Value) (hw : ∀ d ∈ tables_1, d.before a0 Z = true) (ws : List Jvm.Cond) (a1 : Addr) (p2 : Int32) (N : Nat) (g : Nat → Int32) (h0 : Heap) (n0 : Nat) (Z0 : n0 ≤ h0.size) (F0 : IA Z h0 a1 N g) (hN : 1 ≤ N) (h4 : N ≤ 4) (h0g : (g 0).toInt ≤ p2.toInt) :
    MetFree l (⟨"com/example/avocet/avocet/index/Index", "segmentOf", "([II)I"⟩ : MethodName) (head1 (Jvm.Cond.code (⟨"com/example/avocet/avocet/index/Index", "segmentOf", "([II)I"⟩ : MethodName) prog_26_method_14_code 3 (some .int) :: ws) ({ frames := 0, cells := 0, slots := 0, locals := 0 } : Room)) (fun a U => a = #[(.ref a1), (.int p2)] ∧ Z.Warmed39 U.vm ∧ U.heap = h0) (fun _ _ _ _ _ => True) (fun _ U o U' => ∃ v L, o = .returned v ∧ (Q3 Z a1 p2 N g h0 n0) v U'.heap L ∧ FrameEnd U o U' L ({ frames := 0, cells := 0, slots := 0, locals := 0 } : Room).cells ({ frames := 0, cells := 0, slots := 0, locals := 0 } : Room).slots) := by
  refine MetFree.of_bodySF pn_3 hisR ?_
  intro p e s m args below meth c s₁ Bd hml0 hP hK
  obtain ⟨rfl, hZ, hh⟩ := hP
  have hx := Bd.exec
  have hby := Bd.bytes
  have hml : c.maxLocals = 3 := hml0
  have hown : s.vm.findClass "com/example/avocet/avocet/index/Index" = some m.cls := findClass_of_methodNamed Bd.named
  have hnm := (name_of_methodNamed Bd.named Bd.method).1
  have X0 : Stand p l e ({ frames := 0, cells := 0, slots := 0, locals := 0 } : Room) s m #[(.ref a1), (.int p2)] below meth c s₁ [] 0 0 := Stand.of_body Bd
  have e0 : s₁.heap = h0 := by rw [← hh, Bd.state]; rfl
  have N0 := Fr.nil n0
  have lk : meth.locks = false := BodyLoose.notSynchronized Bd
  have hret := Bd.returns
  show Ends p e below s ({ frames := 0, cells := 0, slots := 0, locals := 0 } : Room).cells ({ frames := 0, cells := 0, slots := 0, locals := 0 } : Room).slots (Q3 Z a1 p2 N g h0 n0) (s₁.setTop (entryFrame m #[(.ref a1), (.int p2)] 3))
  refine Ends.cast (ef_3 m a1 p2) ?_
  have o1 : (1 : Int32).toInt = 1 := rfl
  obtain ⟨len, hlen⟩ : ∃ len : Int32, len.toInt = (N : Int) := ⟨N.toInt32, len_toInt (by omega)⟩
  have loop : ∀ (i : Nat) (sg : Int32), sg.toInt = (i : Int) → i < N → (∀ j, i < j → j < N → p2.toInt < (g j).toInt) → Ends p e below s ({ frames := 0, cells := 0, slots := 0, locals := 0 } : Room).cells ({ frames := 0, cells := 0, slots := 0, locals := 0 } : Room).slots (Q3 Z a1 p2 N g h0 n0) (s₁.setTop (mkF m 5 #[.val (.ref a1), .val (.int p2), .val (.int sg)] [])) := by
    intro i
    induction i with
    | zero =>
      intro sg hsg hiN hall
      refine own_aloadN (n := 6) X0 hx (hb hby d3_5) rfl rfl rfl ?_
      refine own_iloadN (n := 7) X0 hx (hb hby d3_6) rfl rfl ?_
      refine own_iaload (n := 8) X0 hx hZ e0 F0 (i := 0) hsg hiN (hb hby d3_7) rfl ?_
      refine own_iloadN (n := 9) X0 hx (hb hby d3_8) rfl rfl ?_
      refine own_icmpYes (n := 18) X0 hx (hb hby d3_9) (Jvm.Free.XT.ii_le_t (by rw [Int32.lt_iff_toInt_lt]; omega)) (by decide) (by decide) ?_
      refine own_iloadN (n := 19) X0 hx (hb hby d3_18) rfl rfl ?_
      refine own_retI X0 hx lk hret (hb hby d3_19) (by decide) (by decide) ?_
      rw [e0]
      exact ⟨_, 0, rfl, hsg, ⟨hiN, by exact h0g, fun j z1 _ z2 => hall j z1 z2⟩, N0, rfl⟩
    | succ i ih =>
      intro sg hsg hiN hall
      refine own_aloadN (n := 6) X0 hx (hb hby d3_5) rfl rfl rfl ?_
      refine own_iloadN (n := 7) X0 hx (hb hby d3_6) rfl rfl ?_
      refine own_iaload (n := 8) X0 hx hZ e0 F0 (i := (i + 1)) hsg hiN (hb hby d3_7) rfl ?_
      refine own_iloadN (n := 9) X0 hx (hb hby d3_8) rfl rfl ?_
      by_cases c9 : p2 < (g (i + 1))
      · refine own_icmpNo (n := 12) X0 hx (hb hby d3_9) (Jvm.Free.XT.ii_le_f c9) rfl ?_
        refine own_iinc (n := 15) X0 hx (hb hby d3_12) rfl (v := (-1 : Int32)) (by decide) (l' := #[.val (.ref a1), .val (.int p2), .val (.int (sg + (-1 : Int32)))]) rfl rfl ?_
        refine own_goto (n := 5) X0 hx (hb hby d3_15) (by decide) (by decide) ?_
        show Ends p e below s ({ frames := 0, cells := 0, slots := 0, locals := 0 } : Room).cells ({ frames := 0, cells := 0, slots := 0, locals := 0 } : Room).slots (Q3 Z a1 p2 N g h0 n0) (s₁.setTop (mkF m 5 #[.val (.ref a1), .val (.int p2), .val (.int (sg + (-1 : Int32)))] []))
        rw [Int32.lt_iff_toInt_lt] at c9
        exact ih _ (own_dec hsg) (by omega) (fun j z1 z2 => by
          by_cases e : j = i + 1
          · subst e; exact c9
          · exact hall j (by omega) z2)
      · refine own_icmpYes (n := 18) X0 hx (hb hby d3_9) (Jvm.Free.XT.ii_le_t c9) (by decide) (by decide) ?_
        refine own_iloadN (n := 19) X0 hx (hb hby d3_18) rfl rfl ?_
        refine own_retI X0 hx lk hret (hb hby d3_19) (by decide) (by decide) ?_
        rw [e0]
        exact ⟨_, (i + 1), rfl, hsg, ⟨hiN, by rw [Int32.lt_iff_toInt_lt] at c9; omega, fun j z1 _ z2 => hall j z1 z2⟩, N0, rfl⟩
  refine own_aloadN (n := 1) X0 hx (hb hby d3_0) rfl rfl rfl ?_
  refine own_arraylength (n := 2) X0 hx hZ e0 F0 (v := len) hlen (hb hby d3_1) rfl ?_
  refine own_iconst (n := 3) X0 hx (1 : Int32) (hb hby d3_2) rfl rfl ?_
  refine own_isub (n := 4) X0 hx (hb hby d3_3) rfl ?_
  refine own_istoreN (n := 5) X0 hx (hb hby d3_4) (l' := #[.val (.ref a1), .val (.int p2), .val (.int (len - (1 : Int32)))]) rfl rfl ?_
  show Ends p e below s ({ frames := 0, cells := 0, slots := 0, locals := 0 } : Room).cells ({ frames := 0, cells := 0, slots := 0, locals := 0 } : Room).slots (Q3 Z a1 p2 N g h0 n0) (s₁.setTop (mkF m 5 #[.val (.ref a1), .val (.int p2), .val (.int (len - (1 : Int32)))] []))
  have q1 := c_isub len 1
  have q2 := rng32 (len - 1)
  exact loop (N - 1) _ (by omega) (by omega) (fun j z1 z2 => by omega)
theorem pn_0 : plainFor x = true := by first | exact plainFor_of_name (by first | (simp [plainName, overriddenIn]; done) | decide +kernel) | decide +kernel
theorem ef_0 (m : MethodId) (p1 : Int32) (p2 : Int32) (p3 : Int32) (p4 : Int32) (p5 : Int32) (p6 : Int32) : entryFrame m #[(.int p1), (.int p2), (.int p3), (.int p4), (.int p5), (.int p6)] maxLocals = mkF m 0 #[.val (.int p1), .val (.int p2), .val (.int p3), .val (.int p4), .val (.int p5), .val (.int p6), .unset, .unset, .unset, .unset, .unset, .unset, .unset, .unset, .unset, .unset, .unset] [] := by first | rfl | (simp [entryFrame, mkF, argsToLocals, Value.category, maxLocals]; done)
def Q0 (Z : State) (p1 : Int32) (p2 : Int32) (p3 : Int32) (p4 : Int32) (p5 : Int32) (p6 : Int32)  (h0 : Heap) (n0 : Nat) (v : Option Value) (h : Heap) (L : List Loc) : Prop := v = some (.int 1) ∧ Fr n0 L
theorem rm0 (l : Launch) (Z : State) (a0 : Array Value) (hw : ∀ d ∈ tables_1, d.before a0 Z = true) (ws : List Jvm.Cond) (p1 : Int32) (p2 : Int32) (p3 : Int32) (p4 : Int32) (p5 : Int32) (p6 : Int32)  (h0 : Heap) (n0 : Nat) (Z0 : n0 ≤ h0.size)  :
    MetFree l x (head1 (Jvm.Cond.code x code maxLocals ret :: ws) room_1) (fun a U => a = #[(.int p1), (.int p2), (.int p3), (.int p4), (.int p5), (.int p6)] ∧ Z.Warmed39 U.vm ∧ U.heap = h0) (fun _ _ _ _ _ => True) (fun _ U o U' => ∃ v L, o = .returned v ∧ (Q0 Z p1 p2 p3 p4 p5 p6  h0 n0) v U'.heap L ∧ FrameEnd U o U' L 16 128) := by
  refine MetFree.of_bodySF pn_0 hisR ?_
  intro p e s m args below meth c s₁ Bd hml0 hP hK
  obtain ⟨rfl, hZ, hh⟩ := hP
  have hx := Bd.exec
  have hby := Bd.bytes
  have hml : c.maxLocals = 17 := hml0
  have hown : s.vm.findClass "com/example/avocet/avocet/index/IndexSegmentOfPinLaw" = some m.cls := findClass_of_methodNamed Bd.named
  have hnm := (name_of_methodNamed Bd.named Bd.method).1
  have X0 : Stand p l e room_1 s m #[(.int p1), (.int p2), (.int p3), (.int p4), (.int p5), (.int p6)] below meth c s₁ [] 0 0 := Stand.of_body Bd
  have e0 : s₁.heap = h0 := by rw [← hh, Bd.state]; rfl
  have N0 := Fr.nil n0
  have lk : meth.locks = false := BodyLoose.notSynchronized Bd
  have hret := Bd.returns
  show Ends p e below s 16 128 (Q0 Z p1 p2 p3 p4 p5 p6  h0 n0) (s₁.setTop (entryFrame m #[(.int p1), (.int p2), (.int p3), (.int p4), (.int p5), (.int p6)] maxLocals))
  refine Ends.cast (ef_0 m p1 p2 p3 p4 p5 p6) ?_
  have o0 : (0 : Int32).toInt = 0 := rfl
  have o1 : (1 : Int32).toInt = 1 := rfl
  have o2 : (2 : Int32).toInt = 2 := rfl
  have o3 : (3 : Int32).toInt = 3 := rfl
  have o4 : (4 : Int32).toInt = 4 := rfl
  have blk209 : ∀ (TB : State) (hB : Heap) (lB : List Loc) (len : Int32) (b1 : Int32) (b2 : Int32) (b3 : Int32) (a : Addr) (N : Nat) (g : Nat → Int32) (k : Int32) (pb : Int32) (doc : Int32) (ex : Int32) (i : Nat) (XB : Stand p l e room_1 s m #[(.int p1), (.int p2), (.int p3), (.int p4), (.int p5), (.int p6)] below meth c TB lB (0 + 1) (0 + 4)) (eB : TB.heap = hB) (NB : Fr n0 lB) (ZB : n0 ≤ hB.size) (nb : n0 ≤ a) (hlen : len.toInt = (N : Int)) (hN1 : 1 ≤ N) (hN4 : N ≤ 4) (FA : IA Z hB a N g) (g0 : g 0 = 0) (g1 : 1 < N → g 1 = b1) (g2 : 2 < N → g 2 = b2) (g3 : 3 < N → g 3 = b3) (hd0 : 0 ≤ doc.toInt) (hex : ex.toInt = (i : Int)) (hE : LAST N 4 g doc i), Ends p e below s 16 128 (Q0 Z p1 p2 p3 p4 p5 p6  h0 n0) (TB.setTop (mkF m 209 #[.val (.int p1), .val (.int p2), .val (.int p3), .val (.int p4), .val (.int p5), .val (.int p6), .val (.int len), .val (.int b1), .val (.int b2), .val (.int b3), .val (.ref a), .val (.int k), .val (.int pb), .val (.int doc), .val (.int ex), .unset, .unset] [])) := by
    intro TB hB lB len b1 b2 b3 a N g k pb doc ex i XB eB NB ZB nb hlen hN1 hN4 FA g0 g1 g2 g3 hd0 hex hE
    refine own_aload (n := 211) XB hx (hb hby at_209) rfl rfl rfl ?_
    refine own_iload (n := 213) XB hx (hb hby at_211) rfl rfl ?_
    refine own_callS (n := 216) XB hx hZ hown (hw _ (List.mem_of_getElem? (i := 9) rfl)) (hw _ (List.mem_of_getElem? (i := 10) rfl)) (hw _ (List.mem_of_getElem? (i := 11) rfl)) (hw _ (List.mem_of_getElem? (i := 12) rfl)) (by decide) eB (rm3 l Z a0 hw [] a doc N g hB n0 ZB FA hN1 hN4 (by rw [g0]; omega)) (W := 0) (by decide) (by decide) (by decide) (by decide) (by rw [hml]; rfl) (argsL := [(.ref a), (.int doc)]) (rest := []) pd_3 rfl (by rfl) (Nat.le_of_eq rfl) (hb hby at_213) rfl rfl ?_
    intro v1 T1 h1 L1 X1 e1 q1
    obtain ⟨r1, i1, rfl, hr1, hl1, M1, rfl⟩ := q1
    have N1 := Fr.app NB M1
    obtain rfl := LAST.uniq hl1 (hE.full hN4)
    obtain rfl : r1 = ex := own_inj (by omega)
    refine own_istore (n := 218) X1 hx (hb hby at_216) (l' := #[.val (.int p1), .val (.int p2), .val (.int p3), .val (.int p4), .val (.int p5), .val (.int p6), .val (.int len), .val (.int b1), .val (.int b2), .val (.int b3), .val (.ref a), .val (.int k), .val (.int pb), .val (.int doc), .val (.int r1), .val (.int r1), .unset]) rfl rfl ?_
    refine own_aload (n := 220) X1 hx (hb hby at_218) rfl rfl rfl ?_
    refine own_iconst (n := 221) X1 hx (0 : Int32) (hb hby at_220) rfl rfl ?_
    refine own_iaload (n := 222) X1 hx hZ e1 FA (i := 0) o0 (by omega) (hb hby at_221) rfl ?_
    refine own_ifNo (n := 225) X1 hx (hb hby at_222) (Jvm.Free.XT.i0_ne_f g0) rfl ?_
    refine own_iload (n := 227) X1 hx (hb hby at_225) rfl rfl ?_
    refine own_iconst (n := 228) X1 hx (2 : Int32) (hb hby at_227) rfl rfl ?_
    by_cases c228 : len < (2 : Int32)
    · refine own_icmpYes (n := 240) X1 hx (hb hby at_228) (Jvm.Free.XT.ii_lt_t c228) (by decide) (by decide) ?_
      refine own_iload (n := 242) X1 hx (hb hby at_240) rfl rfl ?_
      refine own_iconst (n := 243) X1 hx (3 : Int32) (hb hby at_242) rfl rfl ?_
      by_cases c243 : len < (3 : Int32)
      · refine own_icmpYes (n := 255) X1 hx (hb hby at_243) (Jvm.Free.XT.ii_lt_t c243) (by decide) (by decide) ?_
        refine own_iload (n := 257) X1 hx (hb hby at_255) rfl rfl ?_
        refine own_iconst (n := 258) X1 hx (4 : Int32) (hb hby at_257) rfl rfl ?_
        by_cases c258 : len < (4 : Int32)
        · refine own_icmpYes (n := 270) X1 hx (hb hby at_258) (Jvm.Free.XT.ii_lt_t c258) (by decide) (by decide) ?_
          refine own_iconst (n := 271) X1 hx (1 : Int32) (hb hby at_270) rfl rfl ?_
          refine own_goto (n := 275) X1 hx (hb hby at_271) (by decide) (by decide) ?_
          refine own_istore (n := 277) X1 hx (hb hby at_275) (l' := #[.val (.int p1), .val (.int p2), .val (.int p3), .val (.int p4), .val (.int p5), .val (.int p6), .val (.int len), .val (.int b1), .val (.int b2), .val (.int b3), .val (.ref a), .val (.int k), .val (.int pb), .val (.int doc), .val (.int r1), .val (.int r1), .val (.int (1 : Int32))]) rfl rfl ?_
          refine own_iload (n := 279) X1 hx (hb hby at_277) rfl rfl ?_
          refine own_iload (n := 281) X1 hx (hb hby at_279) rfl rfl ?_
          refine own_icmpNo (n := 284) X1 hx (hb hby at_281) (Jvm.Free.XT.ii_ne_f rfl) rfl ?_
          refine own_iload (n := 286) X1 hx (hb hby at_284) rfl rfl ?_
          refine own_ifNo (n := 289) X1 hx (hb hby at_286) (Jvm.Free.XT.i0_eq_f (by decide)) rfl ?_
          refine own_iconst (n := 290) X1 hx (1 : Int32) (hb hby at_289) rfl rfl ?_
          refine own_goto (n := 294) X1 hx (hb hby at_290) (by decide) (by decide) ?_
          refine own_retN X1 hx lk hret (by simp) (hb hby at_294) (by decide) (by decide) ?_
          rw [e1]
          exact ⟨rfl, N1⟩
        · refine own_icmpNo (n := 261) X1 hx (hb hby at_258) (Jvm.Free.XT.ii_lt_f c258) rfl ?_
          refine own_aload (n := 263) X1 hx (hb hby at_261) rfl rfl rfl ?_
          refine own_iconst (n := 264) X1 hx (3 : Int32) (hb hby at_263) rfl rfl ?_
          refine own_iaload (n := 265) X1 hx hZ e1 FA (i := 3) o3 (by rw [Int32.lt_iff_toInt_lt] at c258; omega) (hb hby at_264) rfl ?_
          refine own_iload (n := 267) X1 hx (hb hby at_265) rfl rfl ?_
          refine own_icmpNo (n := 270) X1 hx (hb hby at_267) (Jvm.Free.XT.ii_ne_f (g3 (by rw [Int32.lt_iff_toInt_lt] at c258; omega))) rfl ?_
          refine own_iconst (n := 271) X1 hx (1 : Int32) (hb hby at_270) rfl rfl ?_
          refine own_goto (n := 275) X1 hx (hb hby at_271) (by decide) (by decide) ?_
          refine own_istore (n := 277) X1 hx (hb hby at_275) (l' := #[.val (.int p1), .val (.int p2), .val (.int p3), .val (.int p4), .val (.int p5), .val (.int p6), .val (.int len), .val (.int b1), .val (.int b2), .val (.int b3), .val (.ref a), .val (.int k), .val (.int pb), .val (.int doc), .val (.int r1), .val (.int r1), .val (.int (1 : Int32))]) rfl rfl ?_
          refine own_iload (n := 279) X1 hx (hb hby at_277) rfl rfl ?_
          refine own_iload (n := 281) X1 hx (hb hby at_279) rfl rfl ?_
          refine own_icmpNo (n := 284) X1 hx (hb hby at_281) (Jvm.Free.XT.ii_ne_f rfl) rfl ?_
          refine own_iload (n := 286) X1 hx (hb hby at_284) rfl rfl ?_
          refine own_ifNo (n := 289) X1 hx (hb hby at_286) (Jvm.Free.XT.i0_eq_f (by decide)) rfl ?_
          refine own_iconst (n := 290) X1 hx (1 : Int32) (hb hby at_289) rfl rfl ?_
          refine own_goto (n := 294) X1 hx (hb hby at_290) (by decide) (by decide) ?_
          refine own_retN X1 hx lk hret (by simp) (hb hby at_294) (by decide) (by decide) ?_
          rw [e1]
          exact ⟨rfl, N1⟩
      · refine own_icmpNo (n := 246) X1 hx (hb hby at_243) (Jvm.Free.XT.ii_lt_f c243) rfl ?_
        refine own_aload (n := 248) X1 hx (hb hby at_246) rfl rfl rfl ?_
        refine own_iconst (n := 249) X1 hx (2 : Int32) (hb hby at_248) rfl rfl ?_
        refine own_iaload (n := 250) X1 hx hZ e1 FA (i := 2) o2 (by rw [Int32.lt_iff_toInt_lt] at c243; omega) (hb hby at_249) rfl ?_
        refine own_iload (n := 252) X1 hx (hb hby at_250) rfl rfl ?_
        refine own_icmpNo (n := 255) X1 hx (hb hby at_252) (Jvm.Free.XT.ii_ne_f (g2 (by rw [Int32.lt_iff_toInt_lt] at c243; omega))) rfl ?_
        refine own_iload (n := 257) X1 hx (hb hby at_255) rfl rfl ?_
        refine own_iconst (n := 258) X1 hx (4 : Int32) (hb hby at_257) rfl rfl ?_
        by_cases c258 : len < (4 : Int32)
        · refine own_icmpYes (n := 270) X1 hx (hb hby at_258) (Jvm.Free.XT.ii_lt_t c258) (by decide) (by decide) ?_
          refine own_iconst (n := 271) X1 hx (1 : Int32) (hb hby at_270) rfl rfl ?_
          refine own_goto (n := 275) X1 hx (hb hby at_271) (by decide) (by decide) ?_
          refine own_istore (n := 277) X1 hx (hb hby at_275) (l' := #[.val (.int p1), .val (.int p2), .val (.int p3), .val (.int p4), .val (.int p5), .val (.int p6), .val (.int len), .val (.int b1), .val (.int b2), .val (.int b3), .val (.ref a), .val (.int k), .val (.int pb), .val (.int doc), .val (.int r1), .val (.int r1), .val (.int (1 : Int32))]) rfl rfl ?_
          refine own_iload (n := 279) X1 hx (hb hby at_277) rfl rfl ?_
          refine own_iload (n := 281) X1 hx (hb hby at_279) rfl rfl ?_
          refine own_icmpNo (n := 284) X1 hx (hb hby at_281) (Jvm.Free.XT.ii_ne_f rfl) rfl ?_
          refine own_iload (n := 286) X1 hx (hb hby at_284) rfl rfl ?_
          refine own_ifNo (n := 289) X1 hx (hb hby at_286) (Jvm.Free.XT.i0_eq_f (by decide)) rfl ?_
          refine own_iconst (n := 290) X1 hx (1 : Int32) (hb hby at_289) rfl rfl ?_
          refine own_goto (n := 294) X1 hx (hb hby at_290) (by decide) (by decide) ?_
          refine own_retN X1 hx lk hret (by simp) (hb hby at_294) (by decide) (by decide) ?_
          rw [e1]
          exact ⟨rfl, N1⟩
        · refine own_icmpNo (n := 261) X1 hx (hb hby at_258) (Jvm.Free.XT.ii_lt_f c258) rfl ?_
          refine own_aload (n := 263) X1 hx (hb hby at_261) rfl rfl rfl ?_
          refine own_iconst (n := 264) X1 hx (3 : Int32) (hb hby at_263) rfl rfl ?_
          refine own_iaload (n := 265) X1 hx hZ e1 FA (i := 3) o3 (by rw [Int32.lt_iff_toInt_lt] at c258; omega) (hb hby at_264) rfl ?_
          refine own_iload (n := 267) X1 hx (hb hby at_265) rfl rfl ?_
          refine own_icmpNo (n := 270) X1 hx (hb hby at_267) (Jvm.Free.XT.ii_ne_f (g3 (by rw [Int32.lt_iff_toInt_lt] at c258; omega))) rfl ?_
          refine own_iconst (n := 271) X1 hx (1 : Int32) (hb hby at_270) rfl rfl ?_
          refine own_goto (n := 275) X1 hx (hb hby at_271) (by decide) (by decide) ?_
          refine own_istore (n := 277) X1 hx (hb hby at_275) (l' := #[.val (.int p1), .val (.int p2), .val (.int p3), .val (.int p4), .val (.int p5), .val (.int p6), .val (.int len), .val (.int b1), .val (.int b2), .val (.int b3), .val (.ref a), .val (.int k), .val (.int pb), .val (.int doc), .val (.int r1), .val (.int r1), .val (.int (1 : Int32))]) rfl rfl ?_
          refine own_iload (n := 279) X1 hx (hb hby at_277) rfl rfl ?_
          refine own_iload (n := 281) X1 hx (hb hby at_279) rfl rfl ?_
          refine own_icmpNo (n := 284) X1 hx (hb hby at_281) (Jvm.Free.XT.ii_ne_f rfl) rfl ?_
          refine own_iload (n := 286) X1 hx (hb hby at_284) rfl rfl ?_
          refine own_ifNo (n := 289) X1 hx (hb hby at_286) (Jvm.Free.XT.i0_eq_f (by decide)) rfl ?_
          refine own_iconst (n := 290) X1 hx (1 : Int32) (hb hby at_289) rfl rfl ?_
          refine own_goto (n := 294) X1 hx (hb hby at_290) (by decide) (by decide) ?_
          refine own_retN X1 hx lk hret (by simp) (hb hby at_294) (by decide) (by decide) ?_
          rw [e1]
          exact ⟨rfl, N1⟩
    · refine own_icmpNo (n := 231) X1 hx (hb hby at_228) (Jvm.Free.XT.ii_lt_f c228) rfl ?_
      refine own_aload (n := 233) X1 hx (hb hby at_231) rfl rfl rfl ?_
      refine own_iconst (n := 234) X1 hx (1 : Int32) (hb hby at_233) rfl rfl ?_
      refine own_iaload (n := 235) X1 hx hZ e1 FA (i := 1) o1 (by rw [Int32.lt_iff_toInt_lt] at c228; omega) (hb hby at_234) rfl ?_
      refine own_iload (n := 237) X1 hx (hb hby at_235) rfl rfl ?_
      refine own_icmpNo (n := 240) X1 hx (hb hby at_237) (Jvm.Free.XT.ii_ne_f (g1 (by rw [Int32.lt_iff_toInt_lt] at c228; omega))) rfl ?_
      refine own_iload (n := 242) X1 hx (hb hby at_240) rfl rfl ?_
      refine own_iconst (n := 243) X1 hx (3 : Int32) (hb hby at_242) rfl rfl ?_
      by_cases c243 : len < (3 : Int32)
      · refine own_icmpYes (n := 255) X1 hx (hb hby at_243) (Jvm.Free.XT.ii_lt_t c243) (by decide) (by decide) ?_
        refine own_iload (n := 257) X1 hx (hb hby at_255) rfl rfl ?_
        refine own_iconst (n := 258) X1 hx (4 : Int32) (hb hby at_257) rfl rfl ?_
        by_cases c258 : len < (4 : Int32)
        · refine own_icmpYes (n := 270) X1 hx (hb hby at_258) (Jvm.Free.XT.ii_lt_t c258) (by decide) (by decide) ?_
          refine own_iconst (n := 271) X1 hx (1 : Int32) (hb hby at_270) rfl rfl ?_
          refine own_goto (n := 275) X1 hx (hb hby at_271) (by decide) (by decide) ?_
          refine own_istore (n := 277) X1 hx (hb hby at_275) (l' := #[.val (.int p1), .val (.int p2), .val (.int p3), .val (.int p4), .val (.int p5), .val (.int p6), .val (.int len), .val (.int b1), .val (.int b2), .val (.int b3), .val (.ref a), .val (.int k), .val (.int pb), .val (.int doc), .val (.int r1), .val (.int r1), .val (.int (1 : Int32))]) rfl rfl ?_
          refine own_iload (n := 279) X1 hx (hb hby at_277) rfl rfl ?_
          refine own_iload (n := 281) X1 hx (hb hby at_279) rfl rfl ?_
          refine own_icmpNo (n := 284) X1 hx (hb hby at_281) (Jvm.Free.XT.ii_ne_f rfl) rfl ?_
          refine own_iload (n := 286) X1 hx (hb hby at_284) rfl rfl ?_
          refine own_ifNo (n := 289) X1 hx (hb hby at_286) (Jvm.Free.XT.i0_eq_f (by decide)) rfl ?_
          refine own_iconst (n := 290) X1 hx (1 : Int32) (hb hby at_289) rfl rfl ?_
          refine own_goto (n := 294) X1 hx (hb hby at_290) (by decide) (by decide) ?_
          refine own_retN X1 hx lk hret (by simp) (hb hby at_294) (by decide) (by decide) ?_
          rw [e1]
          exact ⟨rfl, N1⟩
        · refine own_icmpNo (n := 261) X1 hx (hb hby at_258) (Jvm.Free.XT.ii_lt_f c258) rfl ?_
          refine own_aload (n := 263) X1 hx (hb hby at_261) rfl rfl rfl ?_
          refine own_iconst (n := 264) X1 hx (3 : Int32) (hb hby at_263) rfl rfl ?_
          refine own_iaload (n := 265) X1 hx hZ e1 FA (i := 3) o3 (by rw [Int32.lt_iff_toInt_lt] at c258; omega) (hb hby at_264) rfl ?_
          refine own_iload (n := 267) X1 hx (hb hby at_265) rfl rfl ?_
          refine own_icmpNo (n := 270) X1 hx (hb hby at_267) (Jvm.Free.XT.ii_ne_f (g3 (by rw [Int32.lt_iff_toInt_lt] at c258; omega))) rfl ?_
          refine own_iconst (n := 271) X1 hx (1 : Int32) (hb hby at_270) rfl rfl ?_
          refine own_goto (n := 275) X1 hx (hb hby at_271) (by decide) (by decide) ?_
          refine own_istore (n := 277) X1 hx (hb hby at_275) (l' := #[.val (.int p1), .val (.int p2), .val (.int p3), .val (.int p4), .val (.int p5), .val (.int p6), .val (.int len), .val (.int b1), .val (.int b2), .val (.int b3), .val (.ref a), .val (.int k), .val (.int pb), .val (.int doc), .val (.int r1), .val (.int r1), .val (.int (1 : Int32))]) rfl rfl ?_
          refine own_iload (n := 279) X1 hx (hb hby at_277) rfl rfl ?_
          refine own_iload (n := 281) X1 hx (hb hby at_279) rfl rfl ?_
          refine own_icmpNo (n := 284) X1 hx (hb hby at_281) (Jvm.Free.XT.ii_ne_f rfl) rfl ?_
          refine own_iload (n := 286) X1 hx (hb hby at_284) rfl rfl ?_
          refine own_ifNo (n := 289) X1 hx (hb hby at_286) (Jvm.Free.XT.i0_eq_f (by decide)) rfl ?_
          refine own_iconst (n := 290) X1 hx (1 : Int32) (hb hby at_289) rfl rfl ?_
          refine own_goto (n := 294) X1 hx (hb hby at_290) (by decide) (by decide) ?_
          refine own_retN X1 hx lk hret (by simp) (hb hby at_294) (by decide) (by decide) ?_
          rw [e1]
          exact ⟨rfl, N1⟩
      · refine own_icmpNo (n := 246) X1 hx (hb hby at_243) (Jvm.Free.XT.ii_lt_f c243) rfl ?_
        refine own_aload (n := 248) X1 hx (hb hby at_246) rfl rfl rfl ?_
        refine own_iconst (n := 249) X1 hx (2 : Int32) (hb hby at_248) rfl rfl ?_
        refine own_iaload (n := 250) X1 hx hZ e1 FA (i := 2) o2 (by rw [Int32.lt_iff_toInt_lt] at c243; omega) (hb hby at_249) rfl ?_
        refine own_iload (n := 252) X1 hx (hb hby at_250) rfl rfl ?_
        refine own_icmpNo (n := 255) X1 hx (hb hby at_252) (Jvm.Free.XT.ii_ne_f (g2 (by rw [Int32.lt_iff_toInt_lt] at c243; omega))) rfl ?_
        refine own_iload (n := 257) X1 hx (hb hby at_255) rfl rfl ?_
        refine own_iconst (n := 258) X1 hx (4 : Int32) (hb hby at_257) rfl rfl ?_
        by_cases c258 : len < (4 : Int32)
        · refine own_icmpYes (n := 270) X1 hx (hb hby at_258) (Jvm.Free.XT.ii_lt_t c258) (by decide) (by decide) ?_
          refine own_iconst (n := 271) X1 hx (1 : Int32) (hb hby at_270) rfl rfl ?_
          refine own_goto (n := 275) X1 hx (hb hby at_271) (by decide) (by decide) ?_
          refine own_istore (n := 277) X1 hx (hb hby at_275) (l' := #[.val (.int p1), .val (.int p2), .val (.int p3), .val (.int p4), .val (.int p5), .val (.int p6), .val (.int len), .val (.int b1), .val (.int b2), .val (.int b3), .val (.ref a), .val (.int k), .val (.int pb), .val (.int doc), .val (.int r1), .val (.int r1), .val (.int (1 : Int32))]) rfl rfl ?_
          refine own_iload (n := 279) X1 hx (hb hby at_277) rfl rfl ?_
          refine own_iload (n := 281) X1 hx (hb hby at_279) rfl rfl ?_
          refine own_icmpNo (n := 284) X1 hx (hb hby at_281) (Jvm.Free.XT.ii_ne_f rfl) rfl ?_
          refine own_iload (n := 286) X1 hx (hb hby at_284) rfl rfl ?_
          refine own_ifNo (n := 289) X1 hx (hb hby at_286) (Jvm.Free.XT.i0_eq_f (by decide)) rfl ?_
          refine own_iconst (n := 290) X1 hx (1 : Int32) (hb hby at_289) rfl rfl ?_
          refine own_goto (n := 294) X1 hx (hb hby at_290) (by decide) (by decide) ?_
          refine own_retN X1 hx lk hret (by simp) (hb hby at_294) (by decide) (by decide) ?_
          rw [e1]
          exact ⟨rfl, N1⟩
        · refine own_icmpNo (n := 261) X1 hx (hb hby at_258) (Jvm.Free.XT.ii_lt_f c258) rfl ?_
          refine own_aload (n := 263) X1 hx (hb hby at_261) rfl rfl rfl ?_
          refine own_iconst (n := 264) X1 hx (3 : Int32) (hb hby at_263) rfl rfl ?_
          refine own_iaload (n := 265) X1 hx hZ e1 FA (i := 3) o3 (by rw [Int32.lt_iff_toInt_lt] at c258; omega) (hb hby at_264) rfl ?_
          refine own_iload (n := 267) X1 hx (hb hby at_265) rfl rfl ?_
          refine own_icmpNo (n := 270) X1 hx (hb hby at_267) (Jvm.Free.XT.ii_ne_f (g3 (by rw [Int32.lt_iff_toInt_lt] at c258; omega))) rfl ?_
          refine own_iconst (n := 271) X1 hx (1 : Int32) (hb hby at_270) rfl rfl ?_
          refine own_goto (n := 275) X1 hx (hb hby at_271) (by decide) (by decide) ?_
          refine own_istore (n := 277) X1 hx (hb hby at_275) (l' := #[.val (.int p1), .val (.int p2), .val (.int p3), .val (.int p4), .val (.int p5), .val (.int p6), .val (.int len), .val (.int b1), .val (.int b2), .val (.int b3), .val (.ref a), .val (.int k), .val (.int pb), .val (.int doc), .val (.int r1), .val (.int r1), .val (.int (1 : Int32))]) rfl rfl ?_
          refine own_iload (n := 279) X1 hx (hb hby at_277) rfl rfl ?_
          refine own_iload (n := 281) X1 hx (hb hby at_279) rfl rfl ?_
          refine own_icmpNo (n := 284) X1 hx (hb hby at_281) (Jvm.Free.XT.ii_ne_f rfl) rfl ?_
          refine own_iload (n := 286) X1 hx (hb hby at_284) rfl rfl ?_
          refine own_ifNo (n := 289) X1 hx (hb hby at_286) (Jvm.Free.XT.i0_eq_f (by decide)) rfl ?_
          refine own_iconst (n := 290) X1 hx (1 : Int32) (hb hby at_289) rfl rfl ?_
          refine own_goto (n := 294) X1 hx (hb hby at_290) (by decide) (by decide) ?_
          refine own_retN X1 hx lk hret (by simp) (hb hby at_294) (by decide) (by decide) ?_
          rw [e1]
          exact ⟨rfl, N1⟩
  have blk193 : ∀ (TB : State) (hB : Heap) (lB : List Loc) (len : Int32) (b1 : Int32) (b2 : Int32) (b3 : Int32) (a : Addr) (N : Nat) (g : Nat → Int32) (k : Int32) (pb : Int32) (doc : Int32) (ex : Int32) (i : Nat) (XB : Stand p l e room_1 s m #[(.int p1), (.int p2), (.int p3), (.int p4), (.int p5), (.int p6)] below meth c TB lB (0 + 1) (0 + 4)) (eB : TB.heap = hB) (NB : Fr n0 lB) (ZB : n0 ≤ hB.size) (nb : n0 ≤ a) (hlen : len.toInt = (N : Int)) (hN1 : 1 ≤ N) (hN4 : N ≤ 4) (FA : IA Z hB a N g) (g0 : g 0 = 0) (g1 : 1 < N → g 1 = b1) (g2 : 2 < N → g 2 = b2) (g3 : 3 < N → g 3 = b3) (hd0 : 0 ≤ doc.toInt) (hex : ex.toInt = (i : Int)) (hE : LAST N 3 g doc i), Ends p e below s 16 128 (Q0 Z p1 p2 p3 p4 p5 p6  h0 n0) (TB.setTop (mkF m 193 #[.val (.int p1), .val (.int p2), .val (.int p3), .val (.int p4), .val (.int p5), .val (.int p6), .val (.int len), .val (.int b1), .val (.int b2), .val (.int b3), .val (.ref a), .val (.int k), .val (.int pb), .val (.int doc), .val (.int ex), .unset, .unset] [])) := by
    intro TB hB lB len b1 b2 b3 a N g k pb doc ex i XB eB NB ZB nb hlen hN1 hN4 FA g0 g1 g2 g3 hd0 hex hE
    refine own_iload (n := 195) XB hx (hb hby at_193) rfl rfl ?_
    refine own_iconst (n := 196) XB hx (3 : Int32) (hb hby at_195) rfl rfl ?_
    by_cases c196 : (3 : Int32) < len
    · refine own_icmpNo (n := 199) XB hx (hb hby at_196) (Jvm.Free.XT.ii_le_f c196) rfl ?_
      refine own_iload (n := 201) XB hx (hb hby at_199) rfl rfl ?_
      refine own_iload (n := 203) XB hx (hb hby at_201) rfl rfl ?_
      by_cases c203 : doc < b3
      · refine own_icmpYes (n := 209) XB hx (hb hby at_203) (Jvm.Free.XT.ii_gt_t c203) (by decide) (by decide) ?_
        show Ends p e below s 16 128 (Q0 Z p1 p2 p3 p4 p5 p6  h0 n0) (TB.setTop (mkF m 209 #[.val (.int p1), .val (.int p2), .val (.int p3), .val (.int p4), .val (.int p5), .val (.int p6), .val (.int len), .val (.int b1), .val (.int b2), .val (.int b3), .val (.ref a), .val (.int k), .val (.int pb), .val (.int doc), .val (.int ex), .unset, .unset] []))
        rw [Int32.lt_iff_toInt_lt] at c196 c203
        have hM := g3 (by omega)
        exact blk209 _ _ _ len b1 b2 b3 a N g k pb doc ex i XB eB NB ZB nb hlen hN1 hN4 FA g0 g1 g2 g3 hd0 hex (hE.up (Or.inr (by rw [hM]; omega)))
      · refine own_icmpNo (n := 206) XB hx (hb hby at_203) (Jvm.Free.XT.ii_gt_f c203) rfl ?_
        refine own_iconst (n := 207) XB hx (3 : Int32) (hb hby at_206) rfl rfl ?_
        refine own_istore (n := 209) XB hx (hb hby at_207) (l' := #[.val (.int p1), .val (.int p2), .val (.int p3), .val (.int p4), .val (.int p5), .val (.int p6), .val (.int len), .val (.int b1), .val (.int b2), .val (.int b3), .val (.ref a), .val (.int k), .val (.int pb), .val (.int doc), .val (.int (3 : Int32)), .unset, .unset]) rfl rfl ?_
        show Ends p e below s 16 128 (Q0 Z p1 p2 p3 p4 p5 p6  h0 n0) (TB.setTop (mkF m 209 #[.val (.int p1), .val (.int p2), .val (.int p3), .val (.int p4), .val (.int p5), .val (.int p6), .val (.int len), .val (.int b1), .val (.int b2), .val (.int b3), .val (.ref a), .val (.int k), .val (.int pb), .val (.int doc), .val (.int (3 : Int32)), .unset, .unset] []))
        rw [Int32.lt_iff_toInt_lt] at c196 c203
        have hM := g3 (by omega)
        exact blk209 _ _ _ len b1 b2 b3 a N g k pb doc (3 : Int32) (3) XB eB NB ZB nb hlen hN1 hN4 FA g0 g1 g2 g3 hd0 o3 (LAST.hit (by omega) (by rw [hM]; omega))
    · refine own_icmpYes (n := 209) XB hx (hb hby at_196) (Jvm.Free.XT.ii_le_t c196) (by decide) (by decide) ?_
      show Ends p e below s 16 128 (Q0 Z p1 p2 p3 p4 p5 p6  h0 n0) (TB.setTop (mkF m 209 #[.val (.int p1), .val (.int p2), .val (.int p3), .val (.int p4), .val (.int p5), .val (.int p6), .val (.int len), .val (.int b1), .val (.int b2), .val (.int b3), .val (.ref a), .val (.int k), .val (.int pb), .val (.int doc), .val (.int ex), .unset, .unset] []))
      rw [Int32.lt_iff_toInt_lt] at c196
      exact blk209 _ _ _ len b1 b2 b3 a N g k pb doc ex i XB eB NB ZB nb hlen hN1 hN4 FA g0 g1 g2 g3 hd0 hex (hE.up (Or.inl (by omega)))
  have blk177 : ∀ (TB : State) (hB : Heap) (lB : List Loc) (len : Int32) (b1 : Int32) (b2 : Int32) (b3 : Int32) (a : Addr) (N : Nat) (g : Nat → Int32) (k : Int32) (pb : Int32) (doc : Int32) (ex : Int32) (i : Nat) (XB : Stand p l e room_1 s m #[(.int p1), (.int p2), (.int p3), (.int p4), (.int p5), (.int p6)] below meth c TB lB (0 + 1) (0 + 4)) (eB : TB.heap = hB) (NB : Fr n0 lB) (ZB : n0 ≤ hB.size) (nb : n0 ≤ a) (hlen : len.toInt = (N : Int)) (hN1 : 1 ≤ N) (hN4 : N ≤ 4) (FA : IA Z hB a N g) (g0 : g 0 = 0) (g1 : 1 < N → g 1 = b1) (g2 : 2 < N → g 2 = b2) (g3 : 3 < N → g 3 = b3) (hd0 : 0 ≤ doc.toInt) (hex : ex.toInt = (i : Int)) (hE : LAST N 2 g doc i), Ends p e below s 16 128 (Q0 Z p1 p2 p3 p4 p5 p6  h0 n0) (TB.setTop (mkF m 177 #[.val (.int p1), .val (.int p2), .val (.int p3), .val (.int p4), .val (.int p5), .val (.int p6), .val (.int len), .val (.int b1), .val (.int b2), .val (.int b3), .val (.ref a), .val (.int k), .val (.int pb), .val (.int doc), .val (.int ex), .unset, .unset] [])) := by
    intro TB hB lB len b1 b2 b3 a N g k pb doc ex i XB eB NB ZB nb hlen hN1 hN4 FA g0 g1 g2 g3 hd0 hex hE
    refine own_iload (n := 179) XB hx (hb hby at_177) rfl rfl ?_
    refine own_iconst (n := 180) XB hx (2 : Int32) (hb hby at_179) rfl rfl ?_
    by_cases c180 : (2 : Int32) < len
    · refine own_icmpNo (n := 183) XB hx (hb hby at_180) (Jvm.Free.XT.ii_le_f c180) rfl ?_
      refine own_iload (n := 185) XB hx (hb hby at_183) rfl rfl ?_
      refine own_iload (n := 187) XB hx (hb hby at_185) rfl rfl ?_
      by_cases c187 : doc < b2
      · refine own_icmpYes (n := 193) XB hx (hb hby at_187) (Jvm.Free.XT.ii_gt_t c187) (by decide) (by decide) ?_
        show Ends p e below s 16 128 (Q0 Z p1 p2 p3 p4 p5 p6  h0 n0) (TB.setTop (mkF m 193 #[.val (.int p1), .val (.int p2), .val (.int p3), .val (.int p4), .val (.int p5), .val (.int p6), .val (.int len), .val (.int b1), .val (.int b2), .val (.int b3), .val (.ref a), .val (.int k), .val (.int pb), .val (.int doc), .val (.int ex), .unset, .unset] []))
        rw [Int32.lt_iff_toInt_lt] at c180 c187
        have hM := g2 (by omega)
        exact blk193 _ _ _ len b1 b2 b3 a N g k pb doc ex i XB eB NB ZB nb hlen hN1 hN4 FA g0 g1 g2 g3 hd0 hex (hE.up (Or.inr (by rw [hM]; omega)))
      · refine own_icmpNo (n := 190) XB hx (hb hby at_187) (Jvm.Free.XT.ii_gt_f c187) rfl ?_
        refine own_iconst (n := 191) XB hx (2 : Int32) (hb hby at_190) rfl rfl ?_
        refine own_istore (n := 193) XB hx (hb hby at_191) (l' := #[.val (.int p1), .val (.int p2), .val (.int p3), .val (.int p4), .val (.int p5), .val (.int p6), .val (.int len), .val (.int b1), .val (.int b2), .val (.int b3), .val (.ref a), .val (.int k), .val (.int pb), .val (.int doc), .val (.int (2 : Int32)), .unset, .unset]) rfl rfl ?_
        show Ends p e below s 16 128 (Q0 Z p1 p2 p3 p4 p5 p6  h0 n0) (TB.setTop (mkF m 193 #[.val (.int p1), .val (.int p2), .val (.int p3), .val (.int p4), .val (.int p5), .val (.int p6), .val (.int len), .val (.int b1), .val (.int b2), .val (.int b3), .val (.ref a), .val (.int k), .val (.int pb), .val (.int doc), .val (.int (2 : Int32)), .unset, .unset] []))
        rw [Int32.lt_iff_toInt_lt] at c180 c187
        have hM := g2 (by omega)
        exact blk193 _ _ _ len b1 b2 b3 a N g k pb doc (2 : Int32) (2) XB eB NB ZB nb hlen hN1 hN4 FA g0 g1 g2 g3 hd0 o2 (LAST.hit (by omega) (by rw [hM]; omega))
    · refine own_icmpYes (n := 193) XB hx (hb hby at_180) (Jvm.Free.XT.ii_le_t c180) (by decide) (by decide) ?_
      show Ends p e below s 16 128 (Q0 Z p1 p2 p3 p4 p5 p6  h0 n0) (TB.setTop (mkF m 193 #[.val (.int p1), .val (.int p2), .val (.int p3), .val (.int p4), .val (.int p5), .val (.int p6), .val (.int len), .val (.int b1), .val (.int b2), .val (.int b3), .val (.ref a), .val (.int k), .val (.int pb), .val (.int doc), .val (.int ex), .unset, .unset] []))
      rw [Int32.lt_iff_toInt_lt] at c180
      exact blk193 _ _ _ len b1 b2 b3 a N g k pb doc ex i XB eB NB ZB nb hlen hN1 hN4 FA g0 g1 g2 g3 hd0 hex (hE.up (Or.inl (by omega)))
  have blk161 : ∀ (TB : State) (hB : Heap) (lB : List Loc) (len : Int32) (b1 : Int32) (b2 : Int32) (b3 : Int32) (a : Addr) (N : Nat) (g : Nat → Int32) (k : Int32) (pb : Int32) (doc : Int32) (ex : Int32) (i : Nat) (XB : Stand p l e room_1 s m #[(.int p1), (.int p2), (.int p3), (.int p4), (.int p5), (.int p6)] below meth c TB lB (0 + 1) (0 + 4)) (eB : TB.heap = hB) (NB : Fr n0 lB) (ZB : n0 ≤ hB.size) (nb : n0 ≤ a) (hlen : len.toInt = (N : Int)) (hN1 : 1 ≤ N) (hN4 : N ≤ 4) (FA : IA Z hB a N g) (g0 : g 0 = 0) (g1 : 1 < N → g 1 = b1) (g2 : 2 < N → g 2 = b2) (g3 : 3 < N → g 3 = b3) (hd0 : 0 ≤ doc.toInt) (hex : ex.toInt = (i : Int)) (hE : LAST N 1 g doc i), Ends p e below s 16 128 (Q0 Z p1 p2 p3 p4 p5 p6  h0 n0) (TB.setTop (mkF m 161 #[.val (.int p1), .val (.int p2), .val (.int p3), .val (.int p4), .val (.int p5), .val (.int p6), .val (.int len), .val (.int b1), .val (.int b2), .val (.int b3), .val (.ref a), .val (.int k), .val (.int pb), .val (.int doc), .val (.int ex), .unset, .unset] [])) := by
    intro TB hB lB len b1 b2 b3 a N g k pb doc ex i XB eB NB ZB nb hlen hN1 hN4 FA g0 g1 g2 g3 hd0 hex hE
    refine own_iload (n := 163) XB hx (hb hby at_161) rfl rfl ?_
    refine own_iconst (n := 164) XB hx (1 : Int32) (hb hby at_163) rfl rfl ?_
    by_cases c164 : (1 : Int32) < len
    · refine own_icmpNo (n := 167) XB hx (hb hby at_164) (Jvm.Free.XT.ii_le_f c164) rfl ?_
      refine own_iload (n := 169) XB hx (hb hby at_167) rfl rfl ?_
      refine own_iload (n := 171) XB hx (hb hby at_169) rfl rfl ?_
      by_cases c171 : doc < b1
      · refine own_icmpYes (n := 177) XB hx (hb hby at_171) (Jvm.Free.XT.ii_gt_t c171) (by decide) (by decide) ?_
        show Ends p e below s 16 128 (Q0 Z p1 p2 p3 p4 p5 p6  h0 n0) (TB.setTop (mkF m 177 #[.val (.int p1), .val (.int p2), .val (.int p3), .val (.int p4), .val (.int p5), .val (.int p6), .val (.int len), .val (.int b1), .val (.int b2), .val (.int b3), .val (.ref a), .val (.int k), .val (.int pb), .val (.int doc), .val (.int ex), .unset, .unset] []))
        rw [Int32.lt_iff_toInt_lt] at c164 c171
        have hM := g1 (by omega)
        exact blk177 _ _ _ len b1 b2 b3 a N g k pb doc ex i XB eB NB ZB nb hlen hN1 hN4 FA g0 g1 g2 g3 hd0 hex (hE.up (Or.inr (by rw [hM]; omega)))
      · refine own_icmpNo (n := 174) XB hx (hb hby at_171) (Jvm.Free.XT.ii_gt_f c171) rfl ?_
        refine own_iconst (n := 175) XB hx (1 : Int32) (hb hby at_174) rfl rfl ?_
        refine own_istore (n := 177) XB hx (hb hby at_175) (l' := #[.val (.int p1), .val (.int p2), .val (.int p3), .val (.int p4), .val (.int p5), .val (.int p6), .val (.int len), .val (.int b1), .val (.int b2), .val (.int b3), .val (.ref a), .val (.int k), .val (.int pb), .val (.int doc), .val (.int (1 : Int32)), .unset, .unset]) rfl rfl ?_
        show Ends p e below s 16 128 (Q0 Z p1 p2 p3 p4 p5 p6  h0 n0) (TB.setTop (mkF m 177 #[.val (.int p1), .val (.int p2), .val (.int p3), .val (.int p4), .val (.int p5), .val (.int p6), .val (.int len), .val (.int b1), .val (.int b2), .val (.int b3), .val (.ref a), .val (.int k), .val (.int pb), .val (.int doc), .val (.int (1 : Int32)), .unset, .unset] []))
        rw [Int32.lt_iff_toInt_lt] at c164 c171
        have hM := g1 (by omega)
        exact blk177 _ _ _ len b1 b2 b3 a N g k pb doc (1 : Int32) (1) XB eB NB ZB nb hlen hN1 hN4 FA g0 g1 g2 g3 hd0 o1 (LAST.hit (by omega) (by rw [hM]; omega))
    · refine own_icmpYes (n := 177) XB hx (hb hby at_164) (Jvm.Free.XT.ii_le_t c164) (by decide) (by decide) ?_
      show Ends p e below s 16 128 (Q0 Z p1 p2 p3 p4 p5 p6  h0 n0) (TB.setTop (mkF m 177 #[.val (.int p1), .val (.int p2), .val (.int p3), .val (.int p4), .val (.int p5), .val (.int p6), .val (.int len), .val (.int b1), .val (.int b2), .val (.int b3), .val (.ref a), .val (.int k), .val (.int pb), .val (.int doc), .val (.int ex), .unset, .unset] []))
      rw [Int32.lt_iff_toInt_lt] at c164
      exact blk177 _ _ _ len b1 b2 b3 a N g k pb doc ex i XB eB NB ZB nb hlen hN1 hN4 FA g0 g1 g2 g3 hd0 hex (hE.up (Or.inl (by omega)))
  have blk158 : ∀ (TB : State) (hB : Heap) (lB : List Loc) (len : Int32) (b1 : Int32) (b2 : Int32) (b3 : Int32) (a : Addr) (N : Nat) (g : Nat → Int32) (k : Int32) (pb : Int32) (doc : Int32) (XB : Stand p l e room_1 s m #[(.int p1), (.int p2), (.int p3), (.int p4), (.int p5), (.int p6)] below meth c TB lB (0 + 1) (0 + 4)) (eB : TB.heap = hB) (NB : Fr n0 lB) (ZB : n0 ≤ hB.size) (nb : n0 ≤ a) (hlen : len.toInt = (N : Int)) (hN1 : 1 ≤ N) (hN4 : N ≤ 4) (FA : IA Z hB a N g) (g0 : g 0 = 0) (g1 : 1 < N → g 1 = b1) (g2 : 2 < N → g 2 = b2) (g3 : 3 < N → g 3 = b3) (hd0 : 0 ≤ doc.toInt), Ends p e below s 16 128 (Q0 Z p1 p2 p3 p4 p5 p6  h0 n0) (TB.setTop (mkF m 158 #[.val (.int p1), .val (.int p2), .val (.int p3), .val (.int p4), .val (.int p5), .val (.int p6), .val (.int len), .val (.int b1), .val (.int b2), .val (.int b3), .val (.ref a), .val (.int k), .val (.int pb), .val (.int doc), .unset, .unset, .unset] [])) := by
    intro TB hB lB len b1 b2 b3 a N g k pb doc XB eB NB ZB nb hlen hN1 hN4 FA g0 g1 g2 g3 hd0
    refine own_iconst (n := 159) XB hx (0 : Int32) (hb hby at_158) rfl rfl ?_
    refine own_istore (n := 161) XB hx (hb hby at_159) (l' := #[.val (.int p1), .val (.int p2), .val (.int p3), .val (.int p4), .val (.int p5), .val (.int p6), .val (.int len), .val (.int b1), .val (.int b2), .val (.int b3), .val (.ref a), .val (.int k), .val (.int pb), .val (.int doc), .val (.int (0 : Int32)), .unset, .unset]) rfl rfl ?_
    show Ends p e below s 16 128 (Q0 Z p1 p2 p3 p4 p5 p6  h0 n0) (TB.setTop (mkF m 161 #[.val (.int p1), .val (.int p2), .val (.int p3), .val (.int p4), .val (.int p5), .val (.int p6), .val (.int len), .val (.int b1), .val (.int b2), .val (.int b3), .val (.ref a), .val (.int k), .val (.int pb), .val (.int doc), .val (.int (0 : Int32)), .unset, .unset] []))
    exact blk161 _ _ _ len b1 b2 b3 a N g k pb doc (0 : Int32) (0) XB eB NB ZB nb hlen hN1 hN4 FA g0 g1 g2 g3 hd0 o0 (⟨by omega, by rw [g0]; omega, fun j h1 h2 h3 => by omega⟩)
  have blk128 : ∀ (TB : State) (hB : Heap) (lB : List Loc) (len : Int32) (b1 : Int32) (b2 : Int32) (b3 : Int32) (a : Addr) (N : Nat) (g : Nat → Int32) (k : Int32) (pb : Int32) (XB : Stand p l e room_1 s m #[(.int p1), (.int p2), (.int p3), (.int p4), (.int p5), (.int p6)] below meth c TB lB (0 + 1) (0 + 4)) (eB : TB.heap = hB) (NB : Fr n0 lB) (ZB : n0 ≤ hB.size) (nb : n0 ≤ a) (hlen : len.toInt = (N : Int)) (hN1 : 1 ≤ N) (hN4 : N ≤ 4) (FA : IA Z hB a N g) (g0 : g 0 = 0) (g1 : 1 < N → g 1 = b1) (g2 : 2 < N → g 2 = b2) (g3 : 3 < N → g 3 = b3), Ends p e below s 16 128 (Q0 Z p1 p2 p3 p4 p5 p6  h0 n0) (TB.setTop (mkF m 128 #[.val (.int p1), .val (.int p2), .val (.int p3), .val (.int p4), .val (.int p5), .val (.int p6), .val (.int len), .val (.int b1), .val (.int b2), .val (.int b3), .val (.ref a), .val (.int k), .val (.int pb), .unset, .unset, .unset, .unset] [])) := by
    intro TB hB lB len b1 b2 b3 a N g k pb XB eB NB ZB nb hlen hN1 hN4 FA g0 g1 g2 g3
    refine own_iload (n := 130) XB hx (hb hby at_128) rfl rfl ?_
    refine own_iconst (n := 131) XB hx (1 : Int32) (hb hby at_130) rfl rfl ?_
    refine own_iand (n := 132) XB hx (hb hby at_131) rfl ?_
    by_cases c132 : (p6 &&& (1 : Int32)) = 0
    · refine own_ifNo (n := 135) XB hx (hb hby at_132) (Jvm.Free.XT.i0_ne_f c132) rfl ?_
      refine own_iload (n := 137) XB hx (hb hby at_135) rfl rfl ?_
      refine own_ldc (n := 139) XB hx hZ hown (hw _ (List.mem_of_getElem? (i := 13) rfl)) (hb hby at_137) rfl ?_
      refine own_iand (n := 140) XB hx (hb hby at_139) rfl ?_
      refine own_goto (n := 156) XB hx (hb hby at_140) (by decide) (by decide) ?_
      refine own_istore (n := 158) XB hx (hb hby at_156) (l' := #[.val (.int p1), .val (.int p2), .val (.int p3), .val (.int p4), .val (.int p5), .val (.int p6), .val (.int len), .val (.int b1), .val (.int b2), .val (.int b3), .val (.ref a), .val (.int k), .val (.int pb), .val (.int (p5 &&& (2147483647 : Int32))), .unset, .unset, .unset]) rfl rfl ?_
      show Ends p e below s 16 128 (Q0 Z p1 p2 p3 p4 p5 p6  h0 n0) (TB.setTop (mkF m 158 #[.val (.int p1), .val (.int p2), .val (.int p3), .val (.int p4), .val (.int p5), .val (.int p6), .val (.int len), .val (.int b1), .val (.int b2), .val (.int b3), .val (.ref a), .val (.int k), .val (.int pb), .val (.int (p5 &&& (2147483647 : Int32))), .unset, .unset, .unset] []))
      exact blk158 _ _ _ len b1 b2 b3 a N g k pb _ XB eB NB ZB nb hlen hN1 hN4 FA g0 g1 g2 g3 (own_and0 _ _ (by decide))
    · refine own_ifYes (n := 143) XB hx (hb hby at_132) (Jvm.Free.XT.i0_ne_t c132) (by decide) (by decide) ?_
      refine own_iconst (n := 144) XB hx (0 : Int32) (hb hby at_143) rfl rfl ?_
      refine own_iload (n := 146) XB hx (hb hby at_144) rfl rfl ?_
      refine own_iload (n := 148) XB hx (hb hby at_146) rfl rfl ?_
      refine own_iconst (n := 149) XB hx (3 : Int32) (hb hby at_148) rfl rfl ?_
      refine own_iand (n := 150) XB hx (hb hby at_149) rfl ?_
      refine own_iadd (n := 151) XB hx (hb hby at_150) rfl ?_
      refine own_iconst (n := 152) XB hx (1 : Int32) (hb hby at_151) rfl rfl ?_
      refine own_isub (n := 153) XB hx (hb hby at_152) rfl ?_
      refine own_callS (n := 156) XB hx hZ hown (hw _ (List.mem_of_getElem? (i := 6) rfl)) (hw _ (List.mem_of_getElem? (i := 7) rfl)) (hw _ (List.mem_of_getElem? (i := 4) rfl)) (hw _ (List.mem_of_getElem? (i := 8) rfl)) (by decide) eB (rm2 l Z a0 hw [] (0 : Int32) ((pb + (p5 &&& (3 : Int32))) - (1 : Int32)) hB n0 ZB ) (W := 0) (by decide) (by decide) (by decide) (by decide) (by rw [hml]; rfl) (argsL := [(.int (0 : Int32)), (.int ((pb + (p5 &&& (3 : Int32))) - (1 : Int32)))]) (rest := []) pd_2 rfl (by rfl) (Nat.le_of_eq rfl) (hb hby at_153) rfl rfl ?_
      intro v2 T2 h2 L2 X2 e2 q2
      obtain ⟨rfl, M2, rfl⟩ := q2
      have N2 := Fr.app NB M2
      refine own_istore (n := 158) X2 hx (hb hby at_156) (l' := #[.val (.int p1), .val (.int p2), .val (.int p3), .val (.int p4), .val (.int p5), .val (.int p6), .val (.int len), .val (.int b1), .val (.int b2), .val (.int b3), .val (.ref a), .val (.int k), .val (.int pb), .val (.int (if (0 : Int32) < ((pb + (p5 &&& (3 : Int32))) - (1 : Int32)) then ((pb + (p5 &&& (3 : Int32))) - (1 : Int32)) else (0 : Int32))), .unset, .unset, .unset]) rfl rfl ?_
      show Ends p e below s 16 128 (Q0 Z p1 p2 p3 p4 p5 p6  h0 n0) (T2.setTop (mkF m 158 #[.val (.int p1), .val (.int p2), .val (.int p3), .val (.int p4), .val (.int p5), .val (.int p6), .val (.int len), .val (.int b1), .val (.int b2), .val (.int b3), .val (.ref a), .val (.int k), .val (.int pb), .val (.int (if (0 : Int32) < ((pb + (p5 &&& (3 : Int32))) - (1 : Int32)) then ((pb + (p5 &&& (3 : Int32))) - (1 : Int32)) else (0 : Int32))), .unset, .unset, .unset] []))
      exact blk158 _ _ _ len b1 b2 b3 a N g k pb _ X2 e2 N2 ZB nb hlen hN1 hN4 FA g0 g1 g2 g3 (by split <;> rename_i z <;> rw [Int32.lt_iff_toInt_lt] at z <;> omega)
  have blk93 : ∀ (TB : State) (hB : Heap) (lB : List Loc) (len : Int32) (b1 : Int32) (b2 : Int32) (b3 : Int32) (a : Addr) (N : Nat) (g : Nat → Int32) (k : Int32) (XB : Stand p l e room_1 s m #[(.int p1), (.int p2), (.int p3), (.int p4), (.int p5), (.int p6)] below meth c TB lB (0 + 1) (0 + 4)) (eB : TB.heap = hB) (NB : Fr n0 lB) (ZB : n0 ≤ hB.size) (nb : n0 ≤ a) (hlen : len.toInt = (N : Int)) (hN1 : 1 ≤ N) (hN4 : N ≤ 4) (FA : IA Z hB a N g) (g0 : g 0 = 0) (g1 : 1 < N → g 1 = b1) (g2 : 2 < N → g 2 = b2) (g3 : 3 < N → g 3 = b3), Ends p e below s 16 128 (Q0 Z p1 p2 p3 p4 p5 p6  h0 n0) (TB.setTop (mkF m 93 #[.val (.int p1), .val (.int p2), .val (.int p3), .val (.int p4), .val (.int p5), .val (.int p6), .val (.int len), .val (.int b1), .val (.int b2), .val (.int b3), .val (.ref a), .val (.int k), .unset, .unset, .unset, .unset, .unset] [])) := by
    intro TB hB lB len b1 b2 b3 a N g k XB eB NB ZB nb hlen hN1 hN4 FA g0 g1 g2 g3
    refine own_iload (n := 95) XB hx (hb hby at_93) rfl rfl ?_
    by_cases c95 : k = 0
    · refine own_ifNo (n := 98) XB hx (hb hby at_95) (Jvm.Free.XT.i0_ne_f c95) rfl ?_
      refine own_iconst (n := 99) XB hx (0 : Int32) (hb hby at_98) rfl rfl ?_
      refine own_goto (n := 126) XB hx (hb hby at_99) (by decide) (by decide) ?_
      refine own_istore (n := 128) XB hx (hb hby at_126) (l' := #[.val (.int p1), .val (.int p2), .val (.int p3), .val (.int p4), .val (.int p5), .val (.int p6), .val (.int len), .val (.int b1), .val (.int b2), .val (.int b3), .val (.ref a), .val (.int k), .val (.int (0 : Int32)), .unset, .unset, .unset, .unset]) rfl rfl ?_
      show Ends p e below s 16 128 (Q0 Z p1 p2 p3 p4 p5 p6  h0 n0) (TB.setTop (mkF m 128 #[.val (.int p1), .val (.int p2), .val (.int p3), .val (.int p4), .val (.int p5), .val (.int p6), .val (.int len), .val (.int b1), .val (.int b2), .val (.int b3), .val (.ref a), .val (.int k), .val (.int (0 : Int32)), .unset, .unset, .unset, .unset] []))
      exact blk128 _ _ _ len b1 b2 b3 a N g k (0 : Int32) XB eB NB ZB nb hlen hN1 hN4 FA g0 g1 g2 g3
    · refine own_ifYes (n := 102) XB hx (hb hby at_95) (Jvm.Free.XT.i0_ne_t c95) (by decide) (by decide) ?_
      refine own_iload (n := 104) XB hx (hb hby at_102) rfl rfl ?_
      refine own_iconst (n := 105) XB hx (1 : Int32) (hb hby at_104) rfl rfl ?_
      by_cases c105 : k = (1 : Int32)
      · refine own_icmpNo (n := 108) XB hx (hb hby at_105) (Jvm.Free.XT.ii_ne_f c105) rfl ?_
        refine own_iload (n := 110) XB hx (hb hby at_108) rfl rfl ?_
        refine own_goto (n := 126) XB hx (hb hby at_110) (by decide) (by decide) ?_
        refine own_istore (n := 128) XB hx (hb hby at_126) (l' := #[.val (.int p1), .val (.int p2), .val (.int p3), .val (.int p4), .val (.int p5), .val (.int p6), .val (.int len), .val (.int b1), .val (.int b2), .val (.int b3), .val (.ref a), .val (.int k), .val (.int b1), .unset, .unset, .unset, .unset]) rfl rfl ?_
        show Ends p e below s 16 128 (Q0 Z p1 p2 p3 p4 p5 p6  h0 n0) (TB.setTop (mkF m 128 #[.val (.int p1), .val (.int p2), .val (.int p3), .val (.int p4), .val (.int p5), .val (.int p6), .val (.int len), .val (.int b1), .val (.int b2), .val (.int b3), .val (.ref a), .val (.int k), .val (.int b1), .unset, .unset, .unset, .unset] []))
        exact blk128 _ _ _ len b1 b2 b3 a N g k b1 XB eB NB ZB nb hlen hN1 hN4 FA g0 g1 g2 g3
      · refine own_icmpYes (n := 113) XB hx (hb hby at_105) (Jvm.Free.XT.ii_ne_t c105) (by decide) (by decide) ?_
        refine own_iload (n := 115) XB hx (hb hby at_113) rfl rfl ?_
        refine own_iconst (n := 116) XB hx (2 : Int32) (hb hby at_115) rfl rfl ?_
        by_cases c116 : k = (2 : Int32)
        · refine own_icmpNo (n := 119) XB hx (hb hby at_116) (Jvm.Free.XT.ii_ne_f c116) rfl ?_
          refine own_iload (n := 121) XB hx (hb hby at_119) rfl rfl ?_
          refine own_goto (n := 126) XB hx (hb hby at_121) (by decide) (by decide) ?_
          refine own_istore (n := 128) XB hx (hb hby at_126) (l' := #[.val (.int p1), .val (.int p2), .val (.int p3), .val (.int p4), .val (.int p5), .val (.int p6), .val (.int len), .val (.int b1), .val (.int b2), .val (.int b3), .val (.ref a), .val (.int k), .val (.int b2), .unset, .unset, .unset, .unset]) rfl rfl ?_
          show Ends p e below s 16 128 (Q0 Z p1 p2 p3 p4 p5 p6  h0 n0) (TB.setTop (mkF m 128 #[.val (.int p1), .val (.int p2), .val (.int p3), .val (.int p4), .val (.int p5), .val (.int p6), .val (.int len), .val (.int b1), .val (.int b2), .val (.int b3), .val (.ref a), .val (.int k), .val (.int b2), .unset, .unset, .unset, .unset] []))
          exact blk128 _ _ _ len b1 b2 b3 a N g k b2 XB eB NB ZB nb hlen hN1 hN4 FA g0 g1 g2 g3
        · refine own_icmpYes (n := 124) XB hx (hb hby at_116) (Jvm.Free.XT.ii_ne_t c116) (by decide) (by decide) ?_
          refine own_iload (n := 126) XB hx (hb hby at_124) rfl rfl ?_
          refine own_istore (n := 128) XB hx (hb hby at_126) (l' := #[.val (.int p1), .val (.int p2), .val (.int p3), .val (.int p4), .val (.int p5), .val (.int p6), .val (.int len), .val (.int b1), .val (.int b2), .val (.int b3), .val (.ref a), .val (.int k), .val (.int b3), .unset, .unset, .unset, .unset]) rfl rfl ?_
          show Ends p e below s 16 128 (Q0 Z p1 p2 p3 p4 p5 p6  h0 n0) (TB.setTop (mkF m 128 #[.val (.int p1), .val (.int p2), .val (.int p3), .val (.int p4), .val (.int p5), .val (.int p6), .val (.int len), .val (.int b1), .val (.int b2), .val (.int b3), .val (.ref a), .val (.int k), .val (.int b3), .unset, .unset, .unset, .unset] []))
          exact blk128 _ _ _ len b1 b2 b3 a N g k b3 XB eB NB ZB nb hlen hN1 hN4 FA g0 g1 g2 g3
  have blk78 : ∀ (TB : State) (hB : Heap) (lB : List Loc) (len : Int32) (b1 : Int32) (b2 : Int32) (b3 : Int32) (a : Addr) (N : Nat) (g : Nat → Int32) (XB : Stand p l e room_1 s m #[(.int p1), (.int p2), (.int p3), (.int p4), (.int p5), (.int p6)] below meth c TB lB (0 + 1) (0 + 4)) (eB : TB.heap = hB) (NB : Fr n0 lB) (ZB : n0 ≤ hB.size) (nb : n0 ≤ a) (hlen : len.toInt = (N : Int)) (hN1 : 1 ≤ N) (hN4 : N ≤ 4) (FA : IA Z hB a N g) (g0 : g 0 = 0) (g1 : 1 < N → g 1 = b1) (g2 : 2 < N → g 2 = b2) (g3 : 3 < N → g 3 = b3), Ends p e below s 16 128 (Q0 Z p1 p2 p3 p4 p5 p6  h0 n0) (TB.setTop (mkF m 78 #[.val (.int p1), .val (.int p2), .val (.int p3), .val (.int p4), .val (.int p5), .val (.int p6), .val (.int len), .val (.int b1), .val (.int b2), .val (.int b3), .val (.ref a), .unset, .unset, .unset, .unset, .unset, .unset] [])) := by
    intro TB hB lB len b1 b2 b3 a N g XB eB NB ZB nb hlen hN1 hN4 FA g0 g1 g2 g3
    refine own_iload (n := 80) XB hx (hb hby at_78) rfl rfl ?_
    refine own_iconst (n := 81) XB hx (1 : Int32) (hb hby at_80) rfl rfl ?_
    refine own_iushr (n := 82) XB hx (hb hby at_81) rfl ?_
    refine own_iconst (n := 83) XB hx (3 : Int32) (hb hby at_82) rfl rfl ?_
    refine own_iand (n := 84) XB hx (hb hby at_83) rfl ?_
    refine own_iload (n := 86) XB hx (hb hby at_84) rfl rfl ?_
    refine own_iconst (n := 87) XB hx (1 : Int32) (hb hby at_86) rfl rfl ?_
    refine own_isub (n := 88) XB hx (hb hby at_87) rfl ?_
    refine own_callS (n := 91) XB hx hZ hown (hw _ (List.mem_of_getElem? (i := 2) rfl)) (hw _ (List.mem_of_getElem? (i := 3) rfl)) (hw _ (List.mem_of_getElem? (i := 4) rfl)) (hw _ (List.mem_of_getElem? (i := 5) rfl)) (by decide) eB (rm1 l Z a0 hw [] (((p6.toUInt32 >>> ((1 : Int32) &&& 31).toUInt32).toInt32) &&& (3 : Int32)) (len - (1 : Int32)) hB n0 ZB ) (W := 0) (by decide) (by decide) (by decide) (by decide) (by rw [hml]; rfl) (argsL := [(.int (((p6.toUInt32 >>> ((1 : Int32) &&& 31).toUInt32).toInt32) &&& (3 : Int32))), (.int (len - (1 : Int32)))]) (rest := []) pd_1 rfl (by rfl) (Nat.le_of_eq rfl) (hb hby at_88) rfl rfl ?_
    intro v3 T3 h3 L3 X3 e3 q3
    obtain ⟨rfl, M3, rfl⟩ := q3
    have N3 := Fr.app NB M3
    refine own_istore (n := 93) X3 hx (hb hby at_91) (l' := #[.val (.int p1), .val (.int p2), .val (.int p3), .val (.int p4), .val (.int p5), .val (.int p6), .val (.int len), .val (.int b1), .val (.int b2), .val (.int b3), .val (.ref a), .val (.int (if (len - (1 : Int32)) < (((p6.toUInt32 >>> ((1 : Int32) &&& 31).toUInt32).toInt32) &&& (3 : Int32)) then (len - (1 : Int32)) else (((p6.toUInt32 >>> ((1 : Int32) &&& 31).toUInt32).toInt32) &&& (3 : Int32)))), .unset, .unset, .unset, .unset, .unset]) rfl rfl ?_
    show Ends p e below s 16 128 (Q0 Z p1 p2 p3 p4 p5 p6  h0 n0) (T3.setTop (mkF m 93 #[.val (.int p1), .val (.int p2), .val (.int p3), .val (.int p4), .val (.int p5), .val (.int p6), .val (.int len), .val (.int b1), .val (.int b2), .val (.int b3), .val (.ref a), .val (.int (if (len - (1 : Int32)) < (((p6.toUInt32 >>> ((1 : Int32) &&& 31).toUInt32).toInt32) &&& (3 : Int32)) then (len - (1 : Int32)) else (((p6.toUInt32 >>> ((1 : Int32) &&& 31).toUInt32).toInt32) &&& (3 : Int32)))), .unset, .unset, .unset, .unset, .unset] []))
    exact blk93 _ _ _ len b1 b2 b3 a N g _ X3 e3 N3 ZB nb hlen hN1 hN4 FA g0 g1 g2 g3
  have blk66 : ∀ (TB : State) (hB : Heap) (lB : List Loc) (len : Int32) (b1 : Int32) (b2 : Int32) (b3 : Int32) (a : Addr) (N : Nat) (g : Nat → Int32) (XB : Stand p l e room_1 s m #[(.int p1), (.int p2), (.int p3), (.int p4), (.int p5), (.int p6)] below meth c TB lB (0 + 1) (0 + 4)) (eB : TB.heap = hB) (NB : Fr n0 lB) (ZB : n0 ≤ hB.size) (nb : n0 ≤ a) (hlen : len.toInt = (N : Int)) (hN1 : 1 ≤ N) (hN4 : N ≤ 4) (FA : IA Z hB a N g) (g0 : g 0 = 0) (g1 : 1 < N → g 1 = b1) (g2 : 2 < N → g 2 = b2), Ends p e below s 16 128 (Q0 Z p1 p2 p3 p4 p5 p6  h0 n0) (TB.setTop (mkF m 66 #[.val (.int p1), .val (.int p2), .val (.int p3), .val (.int p4), .val (.int p5), .val (.int p6), .val (.int len), .val (.int b1), .val (.int b2), .val (.int b3), .val (.ref a), .unset, .unset, .unset, .unset, .unset, .unset] [])) := by
    intro TB hB lB len b1 b2 b3 a N g XB eB NB ZB nb hlen hN1 hN4 FA g0 g1 g2
    refine own_iload (n := 68) XB hx (hb hby at_66) rfl rfl ?_
    refine own_iconst (n := 69) XB hx (3 : Int32) (hb hby at_68) rfl rfl ?_
    by_cases c69 : (3 : Int32) < len
    · refine own_icmpNo (n := 72) XB hx (hb hby at_69) (Jvm.Free.XT.ii_le_f c69) rfl ?_
      refine own_aload (n := 74) XB hx (hb hby at_72) rfl rfl rfl ?_
      refine own_iconst (n := 75) XB hx (3 : Int32) (hb hby at_74) rfl rfl ?_
      refine own_iload (n := 77) XB hx (hb hby at_75) rfl rfl ?_
      refine own_iastore (n := 78) XB hx hZ eB FA (i := 3) o3 (by rw [Int32.lt_iff_toInt_lt] at c69; omega) (hb hby at_77) rfl ?_
      intro T4 h4 X4 e4 W4 A4
      have N4 := Fr.snoc X4 NB nb
      have Z4 : n0 ≤ h4.size := Nat.le_trans ZB (Keep.of_wr W4).1
      show Ends p e below s 16 128 (Q0 Z p1 p2 p3 p4 p5 p6  h0 n0) (T4.setTop (mkF m 78 #[.val (.int p1), .val (.int p2), .val (.int p3), .val (.int p4), .val (.int p5), .val (.int p6), .val (.int len), .val (.int b1), .val (.int b2), .val (.int b3), .val (.ref a), .unset, .unset, .unset, .unset, .unset, .unset] []))
      exact blk78 _ _ _ len b1 b2 b3 a N (fun y => if y = 3 then b3 else g y) X4 e4 N4 Z4 nb hlen hN1 hN4 A4 (by simp [g0]) (fun z => by simp [g1 z]) (fun z => by simp [g2 z]) (fun _ => by simp)
    · refine own_icmpYes (n := 78) XB hx (hb hby at_69) (Jvm.Free.XT.ii_le_t c69) (by decide) (by decide) ?_
      show Ends p e below s 16 128 (Q0 Z p1 p2 p3 p4 p5 p6  h0 n0) (TB.setTop (mkF m 78 #[.val (.int p1), .val (.int p2), .val (.int p3), .val (.int p4), .val (.int p5), .val (.int p6), .val (.int len), .val (.int b1), .val (.int b2), .val (.int b3), .val (.ref a), .unset, .unset, .unset, .unset, .unset, .unset] []))
      rw [Int32.lt_iff_toInt_lt] at c69
      exact blk78 _ _ _ len b1 b2 b3 a N g XB eB NB ZB nb hlen hN1 hN4 FA g0 g1 g2 (fun z => by omega)
  have blk54 : ∀ (TB : State) (hB : Heap) (lB : List Loc) (len : Int32) (b1 : Int32) (b2 : Int32) (b3 : Int32) (a : Addr) (N : Nat) (g : Nat → Int32) (XB : Stand p l e room_1 s m #[(.int p1), (.int p2), (.int p3), (.int p4), (.int p5), (.int p6)] below meth c TB lB (0 + 1) (0 + 4)) (eB : TB.heap = hB) (NB : Fr n0 lB) (ZB : n0 ≤ hB.size) (nb : n0 ≤ a) (hlen : len.toInt = (N : Int)) (hN1 : 1 ≤ N) (hN4 : N ≤ 4) (FA : IA Z hB a N g) (g0 : g 0 = 0) (g1 : 1 < N → g 1 = b1), Ends p e below s 16 128 (Q0 Z p1 p2 p3 p4 p5 p6  h0 n0) (TB.setTop (mkF m 54 #[.val (.int p1), .val (.int p2), .val (.int p3), .val (.int p4), .val (.int p5), .val (.int p6), .val (.int len), .val (.int b1), .val (.int b2), .val (.int b3), .val (.ref a), .unset, .unset, .unset, .unset, .unset, .unset] [])) := by
    intro TB hB lB len b1 b2 b3 a N g XB eB NB ZB nb hlen hN1 hN4 FA g0 g1
    refine own_iload (n := 56) XB hx (hb hby at_54) rfl rfl ?_
    refine own_iconst (n := 57) XB hx (2 : Int32) (hb hby at_56) rfl rfl ?_
    by_cases c57 : (2 : Int32) < len
    · refine own_icmpNo (n := 60) XB hx (hb hby at_57) (Jvm.Free.XT.ii_le_f c57) rfl ?_
      refine own_aload (n := 62) XB hx (hb hby at_60) rfl rfl rfl ?_
      refine own_iconst (n := 63) XB hx (2 : Int32) (hb hby at_62) rfl rfl ?_
      refine own_iload (n := 65) XB hx (hb hby at_63) rfl rfl ?_
      refine own_iastore (n := 66) XB hx hZ eB FA (i := 2) o2 (by rw [Int32.lt_iff_toInt_lt] at c57; omega) (hb hby at_65) rfl ?_
      intro T5 h5 X5 e5 W5 A5
      have N5 := Fr.snoc X5 NB nb
      have Z5 : n0 ≤ h5.size := Nat.le_trans ZB (Keep.of_wr W5).1
      show Ends p e below s 16 128 (Q0 Z p1 p2 p3 p4 p5 p6  h0 n0) (T5.setTop (mkF m 66 #[.val (.int p1), .val (.int p2), .val (.int p3), .val (.int p4), .val (.int p5), .val (.int p6), .val (.int len), .val (.int b1), .val (.int b2), .val (.int b3), .val (.ref a), .unset, .unset, .unset, .unset, .unset, .unset] []))
      exact blk66 _ _ _ len b1 b2 b3 a N (fun y => if y = 2 then b2 else g y) X5 e5 N5 Z5 nb hlen hN1 hN4 A5 (by simp [g0]) (fun z => by simp [g1 z]) (fun _ => by simp)
    · refine own_icmpYes (n := 66) XB hx (hb hby at_57) (Jvm.Free.XT.ii_le_t c57) (by decide) (by decide) ?_
      show Ends p e below s 16 128 (Q0 Z p1 p2 p3 p4 p5 p6  h0 n0) (TB.setTop (mkF m 66 #[.val (.int p1), .val (.int p2), .val (.int p3), .val (.int p4), .val (.int p5), .val (.int p6), .val (.int len), .val (.int b1), .val (.int b2), .val (.int b3), .val (.ref a), .unset, .unset, .unset, .unset, .unset, .unset] []))
      rw [Int32.lt_iff_toInt_lt] at c57
      exact blk66 _ _ _ len b1 b2 b3 a N g XB eB NB ZB nb hlen hN1 hN4 FA g0 g1 (fun z => by omega)
  have blk42 : ∀ (TB : State) (hB : Heap) (lB : List Loc) (len : Int32) (b1 : Int32) (b2 : Int32) (b3 : Int32) (a : Addr) (N : Nat) (g : Nat → Int32) (XB : Stand p l e room_1 s m #[(.int p1), (.int p2), (.int p3), (.int p4), (.int p5), (.int p6)] below meth c TB lB (0 + 1) (0 + 4)) (eB : TB.heap = hB) (NB : Fr n0 lB) (ZB : n0 ≤ hB.size) (nb : n0 ≤ a) (hlen : len.toInt = (N : Int)) (hN1 : 1 ≤ N) (hN4 : N ≤ 4) (FA : IA Z hB a N g) (g0 : g 0 = 0), Ends p e below s 16 128 (Q0 Z p1 p2 p3 p4 p5 p6  h0 n0) (TB.setTop (mkF m 42 #[.val (.int p1), .val (.int p2), .val (.int p3), .val (.int p4), .val (.int p5), .val (.int p6), .val (.int len), .val (.int b1), .val (.int b2), .val (.int b3), .val (.ref a), .unset, .unset, .unset, .unset, .unset, .unset] [])) := by
    intro TB hB lB len b1 b2 b3 a N g XB eB NB ZB nb hlen hN1 hN4 FA g0
    refine own_iload (n := 44) XB hx (hb hby at_42) rfl rfl ?_
    refine own_iconst (n := 45) XB hx (1 : Int32) (hb hby at_44) rfl rfl ?_
    by_cases c45 : (1 : Int32) < len
    · refine own_icmpNo (n := 48) XB hx (hb hby at_45) (Jvm.Free.XT.ii_le_f c45) rfl ?_
      refine own_aload (n := 50) XB hx (hb hby at_48) rfl rfl rfl ?_
      refine own_iconst (n := 51) XB hx (1 : Int32) (hb hby at_50) rfl rfl ?_
      refine own_iload (n := 53) XB hx (hb hby at_51) rfl rfl ?_
      refine own_iastore (n := 54) XB hx hZ eB FA (i := 1) o1 (by rw [Int32.lt_iff_toInt_lt] at c45; omega) (hb hby at_53) rfl ?_
      intro T6 h6 X6 e6 W6 A6
      have N6 := Fr.snoc X6 NB nb
      have Z6 : n0 ≤ h6.size := Nat.le_trans ZB (Keep.of_wr W6).1
      show Ends p e below s 16 128 (Q0 Z p1 p2 p3 p4 p5 p6  h0 n0) (T6.setTop (mkF m 54 #[.val (.int p1), .val (.int p2), .val (.int p3), .val (.int p4), .val (.int p5), .val (.int p6), .val (.int len), .val (.int b1), .val (.int b2), .val (.int b3), .val (.ref a), .unset, .unset, .unset, .unset, .unset, .unset] []))
      exact blk54 _ _ _ len b1 b2 b3 a N (fun y => if y = 1 then b1 else g y) X6 e6 N6 Z6 nb hlen hN1 hN4 A6 (by simp [g0]) (fun _ => by simp)
    · refine own_icmpYes (n := 54) XB hx (hb hby at_45) (Jvm.Free.XT.ii_le_t c45) (by decide) (by decide) ?_
      show Ends p e below s 16 128 (Q0 Z p1 p2 p3 p4 p5 p6  h0 n0) (TB.setTop (mkF m 54 #[.val (.int p1), .val (.int p2), .val (.int p3), .val (.int p4), .val (.int p5), .val (.int p6), .val (.int len), .val (.int b1), .val (.int b2), .val (.int b3), .val (.ref a), .unset, .unset, .unset, .unset, .unset, .unset] []))
      rw [Int32.lt_iff_toInt_lt] at c45
      exact blk54 _ _ _ len b1 b2 b3 a N g XB eB NB ZB nb hlen hN1 hN4 FA g0 (fun z => by omega)
  refine own_iloadN (n := 1) X0 hx (hb hby at_0) rfl rfl ?_
  refine own_iconst (n := 2) X0 hx (3 : Int32) (hb hby at_1) rfl rfl ?_
  refine own_iand (n := 3) X0 hx (hb hby at_2) rfl ?_
  refine own_iconst (n := 4) X0 hx (1 : Int32) (hb hby at_3) rfl rfl ?_
  refine own_iadd (n := 5) X0 hx (hb hby at_4) rfl ?_
  refine own_istore (n := 7) X0 hx (hb hby at_5) (l' := #[.val (.int p1), .val (.int p2), .val (.int p3), .val (.int p4), .val (.int p5), .val (.int p6), .val (.int ((p1 &&& (3 : Int32)) + (1 : Int32))), .unset, .unset, .unset, .unset, .unset, .unset, .unset, .unset, .unset, .unset]) rfl rfl ?_
  show Ends p e below s 16 128 (Q0 Z p1 p2 p3 p4 p5 p6  h0 n0) (s₁.setTop (mkF m 7 #[.val (.int p1), .val (.int p2), .val (.int p3), .val (.int p4), .val (.int p5), .val (.int p6), .val (.int ((p1 &&& (3 : Int32)) + (1 : Int32))), .unset, .unset, .unset, .unset, .unset, .unset, .unset, .unset, .unset, .unset] []))
  generalize g_len : ((p1 &&& (3 : Int32)) + (1 : Int32)) = len
  refine own_iloadN (n := 8) X0 hx (hb hby at_7) rfl rfl ?_
  refine own_ldc (n := 10) X0 hx hZ hown (hw _ (List.mem_of_getElem? (i := 0) rfl)) (hb hby at_8) rfl ?_
  refine own_iand (n := 11) X0 hx (hb hby at_10) rfl ?_
  refine own_istore (n := 13) X0 hx (hb hby at_11) (l' := #[.val (.int p1), .val (.int p2), .val (.int p3), .val (.int p4), .val (.int p5), .val (.int p6), .val (.int len), .val (.int (p2 &&& (536870911 : Int32))), .unset, .unset, .unset, .unset, .unset, .unset, .unset, .unset, .unset]) rfl rfl ?_
  show Ends p e below s 16 128 (Q0 Z p1 p2 p3 p4 p5 p6  h0 n0) (s₁.setTop (mkF m 13 #[.val (.int p1), .val (.int p2), .val (.int p3), .val (.int p4), .val (.int p5), .val (.int p6), .val (.int len), .val (.int (p2 &&& (536870911 : Int32))), .unset, .unset, .unset, .unset, .unset, .unset, .unset, .unset, .unset] []))
  generalize g_b1 : (p2 &&& (536870911 : Int32)) = b1
  refine own_iload (n := 15) X0 hx (hb hby at_13) rfl rfl ?_
  refine own_iloadN (n := 16) X0 hx (hb hby at_15) rfl rfl ?_
  refine own_ldc (n := 18) X0 hx hZ hown (hw _ (List.mem_of_getElem? (i := 0) rfl)) (hb hby at_16) rfl ?_
  refine own_iand (n := 19) X0 hx (hb hby at_18) rfl ?_
  refine own_iadd (n := 20) X0 hx (hb hby at_19) rfl ?_
  refine own_istore (n := 22) X0 hx (hb hby at_20) (l' := #[.val (.int p1), .val (.int p2), .val (.int p3), .val (.int p4), .val (.int p5), .val (.int p6), .val (.int len), .val (.int b1), .val (.int (b1 + (p3 &&& (536870911 : Int32)))), .unset, .unset, .unset, .unset, .unset, .unset, .unset, .unset]) rfl rfl ?_
  show Ends p e below s 16 128 (Q0 Z p1 p2 p3 p4 p5 p6  h0 n0) (s₁.setTop (mkF m 22 #[.val (.int p1), .val (.int p2), .val (.int p3), .val (.int p4), .val (.int p5), .val (.int p6), .val (.int len), .val (.int b1), .val (.int (b1 + (p3 &&& (536870911 : Int32)))), .unset, .unset, .unset, .unset, .unset, .unset, .unset, .unset] []))
  generalize g_b2 : (b1 + (p3 &&& (536870911 : Int32))) = b2
  refine own_iload (n := 24) X0 hx (hb hby at_22) rfl rfl ?_
  refine own_iloadN (n := 25) X0 hx (hb hby at_24) rfl rfl ?_
  refine own_ldc (n := 27) X0 hx hZ hown (hw _ (List.mem_of_getElem? (i := 0) rfl)) (hb hby at_25) rfl ?_
  refine own_iand (n := 28) X0 hx (hb hby at_27) rfl ?_
  refine own_iadd (n := 29) X0 hx (hb hby at_28) rfl ?_
  refine own_istore (n := 31) X0 hx (hb hby at_29) (l' := #[.val (.int p1), .val (.int p2), .val (.int p3), .val (.int p4), .val (.int p5), .val (.int p6), .val (.int len), .val (.int b1), .val (.int b2), .val (.int (b2 + (p4 &&& (536870911 : Int32)))), .unset, .unset, .unset, .unset, .unset, .unset, .unset]) rfl rfl ?_
  show Ends p e below s 16 128 (Q0 Z p1 p2 p3 p4 p5 p6  h0 n0) (s₁.setTop (mkF m 31 #[.val (.int p1), .val (.int p2), .val (.int p3), .val (.int p4), .val (.int p5), .val (.int p6), .val (.int len), .val (.int b1), .val (.int b2), .val (.int (b2 + (p4 &&& (536870911 : Int32)))), .unset, .unset, .unset, .unset, .unset, .unset, .unset] []))
  generalize g_b3 : (b2 + (p4 &&& (536870911 : Int32))) = b3
  refine own_iload (n := 33) X0 hx (hb hby at_31) rfl rfl ?_
  obtain ⟨N, hlen, hN1, hN4⟩ := own_len p1
  rw [g_len] at hlen
  refine own_newI (n := 35) X0 hx hZ (hw _ (List.mem_of_getElem? (i := 1) rfl)) e0 (i := N) (cap := 4) hlen hN4 (by decide) (by decide) (by decide) (hb hby at_33) rfl ?_
  intro T7 h7 b7 X7 e7 g7 E7 A7
  have Z7 : n0 ≤ h7.size := Nat.le_trans Z0 E7.1
  have nb_b7 : n0 ≤ b7 := Nat.le_trans Z0 (Nat.le_of_eq g7.symm)
  refine own_astore (n := 37) X7 hx (hb hby at_35) rfl (l' := #[.val (.int p1), .val (.int p2), .val (.int p3), .val (.int p4), .val (.int p5), .val (.int p6), .val (.int len), .val (.int b1), .val (.int b2), .val (.int b3), .val (.ref b7), .unset, .unset, .unset, .unset, .unset, .unset]) rfl rfl ?_
  refine own_aload (n := 39) X7 hx (hb hby at_37) rfl rfl rfl ?_
  refine own_iconst (n := 40) X7 hx (0 : Int32) (hb hby at_39) rfl rfl ?_
  refine own_iconst (n := 41) X7 hx (0 : Int32) (hb hby at_40) rfl rfl ?_
  refine own_iastore (n := 42) X7 hx hZ e7 A7 (i := 0) o0 (by omega) (hb hby at_41) rfl ?_
  intro T8 h8 X8 e8 W8 A8
  have N8 := Fr.snoc X8 N0 nb_b7
  have Z8 : n0 ≤ h8.size := Nat.le_trans Z7 (Keep.of_wr W8).1
  show Ends p e below s 16 128 (Q0 Z p1 p2 p3 p4 p5 p6  h0 n0) (T8.setTop (mkF m 42 #[.val (.int p1), .val (.int p2), .val (.int p3), .val (.int p4), .val (.int p5), .val (.int p6), .val (.int len), .val (.int b1), .val (.int b2), .val (.int b3), .val (.ref b7), .unset, .unset, .unset, .unset, .unset, .unset] []))
  exact blk42 _ _ _ len b1 b2 b3 b7 N (fun y => if y = 0 then (0 : Int32) else (fun _ => 0) y) X8 e8 N8 Z8 nb_b7 hlen hN1 hN4 A8 (by simp)
theorem comes_1 {Post : Tables → Env → Array Value → State → Outcome → State → Prop} (hpost : ∀ tb e args s v u, (limb_1_1.after args s (.returned v) u = true ∧ limb_1_2.after args s (.returned v) u = true ∧ True) → FrameEnd s (.returned v) u (Jvm.fieldLocs frame_1_writes args s ++ Jvm.arrayLocs frame_1_arrays args s ++ Jvm.staticLocs frame_1_statics s) 16 128 → Post tb e args s (.returned v) u) :
    ArmFor flags0 classFile x code maxLocals ret World_1 tables_1 room_1 Calls_1 rest_1 Pre_1 Post := by
  intro l hfl _ _ p e ha hc hk s m args below hf hA hF happ hP
  obtain ⟨hcalls, hrest, hpre⟩ := hP
  obtain ⟨-, -, -, hnamed, -, -, -, hat⟩ := (Spec.applies_iff hf).mp happ
  obtain ⟨hg, hn⟩ := and_e (Cond.before_iff.mp (show (Jvm.Cond.and given_1 narrow_1).before args s = true from hpre))
  obtain ⟨hcount, hg0⟩ := and_e hg
  obtain ⟨hi0, hg1⟩ := and_e hg0
  obtain ⟨hi1, hg2⟩ := and_e hg1
  obtain ⟨hi2, hg3⟩ := and_e hg2
  obtain ⟨hi3, hg4⟩ := and_e hg3
  obtain ⟨hi4, hg5⟩ := and_e hg4
  obtain ⟨w0, w1, w2, w3, w4, w5, rfl⟩ : ∃ w0 w1 w2 w3 w4 w5 : Value, args = #[w0, w1, w2, w3, w4, w5] := by
    have hs : args.size = 6 := by simpa [Cond.value, given_1] using hcount
    obtain ⟨L⟩ := args
    match L, hs with
    | [w0, w1, w2, w3, w4, w5], _ => exact ⟨w0, w1, w2, w3, w4, w5, rfl⟩
  have hw := fun d (hd : d ∈ tables_1) => atoms_spec (ws := Jvm.Cond.code x code maxLocals ret :: tables_1) hat d (List.mem_cons_of_mem _ hd)
  have hfit : Fit s := fun {y c} hc i hi => by
    obtain ⟨ha, rfl⟩ := Array.getElem?_eq_some_iff.mp hc
    have q := List.all_eq_true.mp ((Array.all_eq_true_iff_forall_mem.mp hF) _ (Array.getElem_mem ha)) i (List.mem_range.mpr hi)
    simpa [Array.getElem?_eq_getElem hi] using q
  obtain ⟨i0, j0⟩ := is_v hi0
  obtain rfl : w0 = (.int i0) := Option.some.inj j0
  obtain ⟨i1, j1⟩ := is_v hi1
  obtain rfl : w1 = (.int i1) := Option.some.inj j1
  obtain ⟨i2, j2⟩ := is_v hi2
  obtain rfl : w2 = (.int i2) := Option.some.inj j2
  obtain ⟨i3, j3⟩ := is_v hi3
  obtain rfl : w3 = (.int i3) := Option.some.inj j3
  obtain ⟨i4, j4⟩ := is_v hi4
  obtain rfl : w4 = (.int i4) := Option.some.inj j4
  obtain ⟨i5, j5⟩ := is_v hg5
  obtain rfl : w5 = (.int i5) := Option.some.inj j5
  obtain ⟨n, o, h1, h2, h3, _, L, rfl, ⟨rfl, N⟩, hq⟩ := rm0 l s _ hw tables_1 i0 i1 i2 i3 i4 i5  s.heap s.heap.size (Nat.le_refl _)  p e ha hc hk s m _ below hf ((Spec.applies_iff_loose hf).mp happ).1 ⟨rfl, State.Warmed39.refl s, rfl⟩ trivial
  refine ⟨n, _, h1, h2, h3, hpost _ _ _ _ _ _ ⟨Cond.after_iff.mpr rfl, Cond.after_iff.mpr (eq_i res_at (Term.int_eval (1)) rfl), trivial⟩ ⟨hq.1, hq.2.1, (hq.2.2.sift fun y hy => Or.inr (N y hy)).mono (by decide) (by decide)⟩⟩
theorem main_1_1 : Claimed_1_1 := comes_1 fun _ _ _ _ _ _ h hF => ⟨h.1, hF⟩
theorem main_1_2 : Claimed_1_2 := comes_1 fun _ _ _ _ _ _ h hF => ⟨h.2.1, hF⟩
end Jvm.Pilot.@@N@@
namespace Jvm.Pilot.@@N@@
open Jvm Jvm.ClassFile Sem Op Lib Jvm.Free Jvm.Stand Jvm.Pilot.@@N@@.Jvm.D
/-! MADE BY PROGRAM (witnessworld.py) out of the Statement's table words and the real class files: 12 classes; the members and pool entries that the words name. The judged class is class 1, her method 1. -/
namespace start1
open Jvm.ClassFile
def u (s : String) : CpInfo := .utf8 (stringToUtf16 s)
/-- a pool by its gaps: so many unusable entries, then the entry; so many at the end -/
def gap : Nat → List CpInfo → List CpInfo
  | 0, r => r
  | n + 1, r => .unusable :: gap n r
def poolList (es : List (Nat × CpInfo)) (last : Nat) : List CpInfo := es.foldr (fun e r => gap e.1 (e.2 :: r)) (gap last [])
def pool (es : List (Nat × CpInfo)) (last : Nat) : Array CpInfo := ⟨poolList es last⟩
def fileOf (pool : Array CpInfo) (this : Nat) (attrs : Array Attribute := #[]) (ms : Array MethodInfo := #[]) (fl : Nat := 33) (sup : Nat := 0) (ifs : Array Nat := #[]) (fds : Array FieldInfo := #[]) : ClassFile where
  minorVersion := 0
  majorVersion := 65
  constantPool := pool
  accessFlags := fl
  thisClass := this
  superClass := sup
  interfaces := ifs
  fields := fds
  methods := ms
  attributes := attrs
def plain (name : String) (sup : Option ClassId) : Class where
  name := name
  kind := .ordinary
  loader := none
  accessFlags := 33
  super := sup
  interfaces := #[]
  cf := none
  fields := #[]
  methods := #[]
  instanceTypes := #[]
  staticTypes := #[]
  resolved := #[]
  callSites := []
  init := .initialized
  statics := none
  mirror := none

def pool0 : Array CpInfo := pool [(5, u "<init>"), (0, u "()V"), (1, .class_ 10), (1, u "java/lang/Object")] 113

def k0m0 : Method := { name := "<init>", desc := "()V", sig := { parameters := [], returnType := none }, accessFlags := 1, code := none }
/-- java/lang/Object -/
def k0 : Class := { plain "java/lang/Object" none with
  accessFlags := 33
  interfaces := #[]
  cf := some (fileOf pool0 8 #[] #[{ accessFlags := 1, nameIndex := 5, descriptorIndex := 6, attributes := #[] }] 33 0 #[] #[])
  fields := #[]
  methods := #[k0m0]
  instanceTypes := #[]
  staticTypes := #[]
  resolved := Array.replicate 124 none
  statics := none }

def pool1 : Array CpInfo := pool [(2, .class_ 4), (1, u "java/lang/Object"), (0, u "<init>"), (0, u "()V"), (0, .integer 536870911), (0, .methodref 9 10), (0, .class_ 11), (0, .nameAndType 12 13), (0, u "java/lang/Math"), (0, u "min"), (0, u "(II)I"), (0, .integer 2147483647), (0, .methodref 9 16), (0, .nameAndType 17 13), (0, u "max"), (0, .methodref 19 20), (0, .class_ 21), (0, .nameAndType 22 23), (0, u "com/example/avocet/avocet/index/Index"), (0, u "segmentOf"), (0, u "([II)I"), (0, .class_ 25), (0, u "com/example/avocet/avocet/index/IndexSegmentOfPinLaw"), (2, u "law"), (0, u "(IIIIII)Z")] 5

def k1m0 : Method := { name := "<init>", desc := "()V", sig := { parameters := [], returnType := none }, accessFlags := 1, code := none }
def k1c1 : Code := { maxStack := 4, maxLocals := 17, code := code, exceptionTable := #[], attributes := #[] }
def k1m1 : Method := { name := "law", desc := "(IIIIII)Z", sig := { parameters := [.int, .int, .int, .int, .int, .int], returnType := some .boolean }, accessFlags := 9, code := some k1c1 }
/-- com/example/avocet/avocet/index/IndexSegmentOfPinLaw -/
def k1 : Class := { plain "com/example/avocet/avocet/index/IndexSegmentOfPinLaw" (some 0) with
  accessFlags := 49
  interfaces := #[]
  cf := some (fileOf pool1 24 #[] #[{ accessFlags := 1, nameIndex := 5, descriptorIndex := 6, attributes := #[] }, { accessFlags := 9, nameIndex := 28, descriptorIndex := 29, attributes := #[] }] 49 2 #[] #[])
  fields := #[]
  methods := #[k1m0, k1m1]
  instanceTypes := #[]
  staticTypes := #[]
  resolved := Array.replicate 35 none
  statics := none }

def pool2 : Array CpInfo := pool [(1, .class_ 2), (0, u "java/lang/Math"), (1, .class_ 6), (1, u "java/lang/Object"), (0, u "<init>"), (0, u "()V"), (89, .class_ 100), (1, u "java/lang/Math$RandomNumberGeneratorHolder"), (71, u "negativeZeroFloatBits"), (0, u "J"), (2, u "negativeZeroDoubleBits"), (21, u "max"), (2, u "min"), (43, u "$assertionsDisabled"), (0, u "Z"), (88, u "(II)I"), (2, u "twoToTheDoubleScaleDown"), (0, u "D"), (4, u "twoToTheDoubleScaleUp"), (9, u "E"), (3, u "PI"), (2, u "TAU"), (2, u "DEGREES_TO_RADIANS"), (0, u "RADIANS_TO_DEGREES")] 94

def k2m0 : Method := { name := "<init>", desc := "()V", sig := { parameters := [], returnType := none }, accessFlags := 2, code := none }
def k2c1 : Code := { maxStack := 2, maxLocals := 2, code := jdk_29_method_65_code, exceptionTable := #[], attributes := #[] }
def k2m1 : Method := { name := "max", desc := "(II)I", sig := { parameters := [.int, .int], returnType := some .int }, accessFlags := 9, code := some k2c1 }
def k2c2 : Code := { maxStack := 2, maxLocals := 2, code := jdk_29_method_69_code, exceptionTable := #[], attributes := #[] }
def k2m2 : Method := { name := "min", desc := "(II)I", sig := { parameters := [.int, .int], returnType := some .int }, accessFlags := 9, code := some k2c2 }
/-- java/lang/Math -/
def k2 : Class := { plain "java/lang/Math" (some 0) with
  accessFlags := 49
  interfaces := #[]
  cf := some (fileOf pool2 1 #[.nestMembers #[98]] #[{ accessFlags := 2, nameIndex := 7, descriptorIndex := 8, attributes := #[] }, { accessFlags := 9, nameIndex := 198, descriptorIndex := 335, attributes := #[] }, { accessFlags := 9, nameIndex := 201, descriptorIndex := 335, attributes := #[] }] 49 4 #[] #[{ accessFlags := 25, nameIndex := 354, descriptorIndex := 339, attributes := #[] }, { accessFlags := 25, nameIndex := 358, descriptorIndex := 339, attributes := #[] }, { accessFlags := 25, nameIndex := 361, descriptorIndex := 339, attributes := #[] }, { accessFlags := 26, nameIndex := 364, descriptorIndex := 339, attributes := #[] }, { accessFlags := 26, nameIndex := 365, descriptorIndex := 339, attributes := #[] }, { accessFlags := 26, nameIndex := 172, descriptorIndex := 173, attributes := #[] }, { accessFlags := 26, nameIndex := 176, descriptorIndex := 173, attributes := #[] }, { accessFlags := 8, nameIndex := 344, descriptorIndex := 339, attributes := #[] }, { accessFlags := 8, nameIndex := 338, descriptorIndex := 339, attributes := #[] }, { accessFlags := 4120, nameIndex := 245, descriptorIndex := 246, attributes := #[] }])
  fields := #[{ name := "E", type := .double, accessFlags := 25, slot := 0, constantValue := 0 }, { name := "PI", type := .double, accessFlags := 25, slot := 1, constantValue := 0 }, { name := "TAU", type := .double, accessFlags := 25, slot := 2, constantValue := 0 }, { name := "DEGREES_TO_RADIANS", type := .double, accessFlags := 26, slot := 3, constantValue := 0 }, { name := "RADIANS_TO_DEGREES", type := .double, accessFlags := 26, slot := 4, constantValue := 0 }, { name := "negativeZeroFloatBits", type := .long, accessFlags := 26, slot := 5, constantValue := 0 }, { name := "negativeZeroDoubleBits", type := .long, accessFlags := 26, slot := 6, constantValue := 0 }, { name := "twoToTheDoubleScaleUp", type := .double, accessFlags := 8, slot := 7, constantValue := 0 }, { name := "twoToTheDoubleScaleDown", type := .double, accessFlags := 8, slot := 8, constantValue := 0 }, { name := "$assertionsDisabled", type := .boolean, accessFlags := 4120, slot := 9, constantValue := 0 }]
  methods := #[k2m0, k2m1, k2m2]
  instanceTypes := #[]
  staticTypes := #[.double, .double, .double, .double, .double, .long, .long, .double, .double, .boolean]
  resolved := Array.replicate 460 none
  statics := none }

def pool3 : Array CpInfo := pool [(1, .class_ 2), (0, u "java/lang/AutoCloseable"), (0, .class_ 4), (0, u "java/lang/Object")] 7

/-- java/lang/AutoCloseable -/
def k3 : Class := { plain "java/lang/AutoCloseable" (some 0) with
  accessFlags := 1537
  interfaces := #[]
  cf := some (fileOf pool3 1 #[] #[] 1537 3 #[] #[])
  fields := #[]
  methods := #[]
  instanceTypes := #[]
  staticTypes := #[]
  resolved := Array.replicate 12 none
  statics := none }

def pool4 : Array CpInfo := pool [(1, .class_ 2), (0, u "java/io/Closeable"), (0, .class_ 4), (0, u "java/lang/Object"), (0, .class_ 6), (0, u "java/lang/AutoCloseable")] 7

/-- java/io/Closeable -/
def k4 : Class := { plain "java/io/Closeable" (some 0) with
  accessFlags := 1537
  interfaces := #[3]
  cf := some (fileOf pool4 1 #[] #[] 1537 3 #[5] #[])
  fields := #[]
  methods := #[]
  instanceTypes := #[]
  staticTypes := #[]
  resolved := Array.replicate 14 none
  statics := none }

def pool5 : Array CpInfo := pool [(2, .class_ 4), (1, u "java/lang/Object"), (3, .class_ 10), (1, u "com/example/avocet/avocet/index/Index"), (0, u "segments"), (0, u "Ljava/util/List;"), (2, u "segmentBases"), (0, u "[I"), (2, u "ids"), (0, u "[Ljava/lang/String;"), (36, u "fields"), (0, u "Ljava/util/Map;"), (113, u "segmentOf"), (0, u "([II)I"), (36, .class_ 211), (0, u "java/io/Closeable")] 40

def k5c0 : Code := { maxStack := 2, maxLocals := 3, code := prog_26_method_14_code, exceptionTable := #[], attributes := #[] }
def k5m0 : Method := { name := "segmentOf", desc := "([II)I", sig := { parameters := [(.array .int), .int], returnType := some .int }, accessFlags := 8, code := some k5c0 }
/-- com/example/avocet/avocet/index/Index -/
def k5 : Class := { plain "com/example/avocet/avocet/index/Index" (some 0) with
  accessFlags := 49
  interfaces := #[4]
  cf := some (fileOf pool5 8 #[] #[{ accessFlags := 8, nameIndex := 172, descriptorIndex := 173, attributes := #[] }] 49 2 #[210] #[{ accessFlags := 18, nameIndex := 11, descriptorIndex := 12, attributes := #[] }, { accessFlags := 18, nameIndex := 15, descriptorIndex := 16, attributes := #[] }, { accessFlags := 18, nameIndex := 19, descriptorIndex := 20, attributes := #[] }, { accessFlags := 18, nameIndex := 57, descriptorIndex := 58, attributes := #[] }])
  fields := #[{ name := "segments", type := (.object "java/util/List"), accessFlags := 18, slot := 0, constantValue := 0 }, { name := "segmentBases", type := (.array .int), accessFlags := 18, slot := 1, constantValue := 0 }, { name := "ids", type := (.array (.object "java/lang/String")), accessFlags := 18, slot := 2, constantValue := 0 }, { name := "fields", type := (.object "java/util/Map"), accessFlags := 18, slot := 3, constantValue := 0 }]
  methods := #[k5m0]
  instanceTypes := #[(.object "java/util/List"), (.array .int), (.array (.object "java/lang/String")), (.object "java/util/Map")]
  staticTypes := #[]
  resolved := Array.replicate 252 none
  statics := none }

def pool6 : Array CpInfo := pool [(1, u "java/lang/Cloneable"), (0, .class_ 1), (0, u "java/lang/Object"), (0, .class_ 3)] 3

/-- java/lang/Cloneable -/
def k6 : Class := { plain "java/lang/Cloneable" (some 0) with
  accessFlags := 1537
  interfaces := #[]
  cf := some (fileOf pool6 2 #[] #[] 1537 4 #[] #[])
  fields := #[]
  methods := #[]
  instanceTypes := #[]
  staticTypes := #[]
  resolved := Array.replicate 8 none
  statics := none }

def pool7 : Array CpInfo := pool [(1, u "java/io/Serializable"), (0, .class_ 1), (0, u "java/lang/Object"), (0, .class_ 3)] 3

/-- java/io/Serializable -/
def k7 : Class := { plain "java/io/Serializable" (some 0) with
  accessFlags := 1537
  interfaces := #[]
  cf := some (fileOf pool7 2 #[] #[] 1537 4 #[] #[])
  fields := #[]
  methods := #[]
  instanceTypes := #[]
  staticTypes := #[]
  resolved := Array.replicate 8 none
  statics := none }

/-- the primitive byte -/
def k8 : Class := { plain "byte" none with kind := .primitive 'B', accessFlags := 0x411 }
/-- [B -/
def k9 : Class := { plain "[B" (some 0) with kind := .array 8 .byte, interfaces := #[6, 7], accessFlags := 1041 }

/-- the primitive int -/
def k10 : Class := { plain "int" none with kind := .primitive 'I', accessFlags := 0x411 }
/-- [I -/
def k11 : Class := { plain "[I" (some 0) with kind := .array 10 .int, interfaces := #[6, 7], accessFlags := 1041 }

def heap : Heap := #[]
def classes : Array Class := #[k0, k1, k2, k3, k4, k5, k6, k7, k8, k9, k10, k11]
def interned : List (Array UInt16 × Addr) := []
def slotsUsed : Nat := 0
def theMethod : MethodId := ⟨1, 1⟩
def args0 : Array Value := #[.int 5, .int 5, .int 5, .int 5, .int 5, .int 5]
def aboutOver (below : List Frame) : State where
  vm := { classes := classes, interned := interned.toArray }
  heap := heap
  slotsUsed := slotsUsed
  threads := #[{ frames := .invoking theMethod args0 :: below }]
def below0 : List Frame := [.native { method := ⟨0, 0⟩, args := #[] }]
def about1 : State := aboutOver below0
def p0 : Program := .bare "" "" ""
def e0 : Env := launch0.env 0 0 0
theorem w_frames : about1.frames = Frame.invoking theMethod args0 :: below0 := rfl
set_option maxRecDepth 65536 in
theorem w_args : argsFit about1.vm theMethod args0 = true := by decide +kernel
set_option maxRecDepth 65536 in
theorem w_heap : heapFits about1 = true := by decide +kernel
set_option maxRecDepth 65536 in
theorem w_runnable : about1.curStatus? = some .runnable := by decide +kernel
set_option maxRecDepth 65536 in
theorem w_alone : about1.alone = true := by decide +kernel
set_option maxRecDepth 65536 in
theorem w_named : about1.methodNamed? x = some theMethod := by decide +kernel
set_option maxRecDepth 65536 in
theorem w_hears : about1.hears theMethod below0 = true := by decide +kernel
set_option maxRecDepth 65536 in
theorem w_ripe : about1.ripe theMethod args0 below0 = true := by decide +kernel
theorem w_running : about1.status = .running := rfl
set_option maxRecDepth 65536 in
theorem w_room : about1.hasRoom e0.platform room_1 = true :=
  launch0.hasRoom_least _ room_1 (by decide +kernel) (by decide +kernel) (by decide +kernel) (by decide +kernel) (by decide +kernel) (by decide +kernel)
theorem allAtoms_all (ts : List Jvm.Cond) (a : Array Jvm.Value) (st : Jvm.State) : (allAtoms ts).before a st = ts.all (fun c => c.before a st) := by
  induction ts with
  | nil => rfl
  | cons c t ih =>
    show (Jvm.Cond.and c (allAtoms t)).before a st = _
    rw [Jvm.Cond.before_and, ih, List.all_cons]
def words1 : List Jvm.Cond := Jvm.Cond.code x code maxLocals ret :: tables_1
/-- a 'code' word, met by the world's own term for the bytes: nothing is compared byte by byte -/
theorem code_word {y : MethodName} {bytes : ByteArray} {mx : Nat} {rt : Option FieldType} {a : Array Value} {s : State} {m : MethodId} {meth : Method} {c : Code} (h1 : s.methodNamed? y = some m) (h2 : s.vm.method? m = some meth) (h3 : meth.code = some c) (h4 : c.code = bytes)
    (h5 : (c.maxLocals == mx && c.exceptionTable.isEmpty && decide (c.maxStack ≤ mostOperands) && decide (meth.sig.returnType = rt) && !meth.locks && decide (parseMethodDescriptor y.desc = some meth.sig)) = true) : (Jvm.Cond.code y bytes mx rt).before a s = true := by
  simp only [Bool.and_eq_true, beq_iff_eq, Bool.not_eq_true', decide_eq_true_eq] at h5
  obtain ⟨⟨⟨⟨⟨g1, g2⟩, g3⟩, g4⟩, g5⟩, g6⟩ := h5
  simp [Cond.before, Cond.holds, Cond.value, h1, h2, h3, h4, g1, g2, g3, g4, g5, g6]
def isCode : Jvm.Cond → Bool
  | .code _ _ _ _ => true
  | _ => false
theorem all_split {L : List Jvm.Cond} {P : Jvm.Cond → Bool} (h1 : L.all (fun c => isCode c || P c) = true) (h2 : ∀ c ∈ L.filter isCode, P c = true) : L.all P = true := by
  refine List.all_eq_true.mpr fun c hc => ?_
  have h := List.all_eq_true.mp h1 c hc
  rcases Bool.eq_false_or_eq_true (isCode c) with hi | hi
  · exact h2 c (List.mem_filter.mpr ⟨hc, hi⟩)
  · simpa [hi] using h
set_option maxRecDepth 65536 in
theorem w_c0 : (Jvm.Cond.code x code maxLocals ret).before args0 about1 = true := code_word (m := ⟨1, 1⟩) (meth := k1m1) (c := k1c1) (by decide +kernel) rfl rfl rfl (by decide +kernel)
set_option maxRecDepth 65536 in
theorem w_c1 : (Jvm.Cond.code ({ cls := "java/lang/Math", name := "min", desc := "(II)I" } : Jvm.MethodName) jdk_29_method_69_code (2 : Nat) (Option.some Jvm.ClassFile.FieldType.int)).before args0 about1 = true := code_word (m := ⟨2, 2⟩) (meth := k2m2) (c := k2c2) (by decide +kernel) rfl rfl rfl (by decide +kernel)
set_option maxRecDepth 65536 in
theorem w_c2 : (Jvm.Cond.code ({ cls := "java/lang/Math", name := "max", desc := "(II)I" } : Jvm.MethodName) jdk_29_method_65_code (2 : Nat) (Option.some Jvm.ClassFile.FieldType.int)).before args0 about1 = true := code_word (m := ⟨2, 1⟩) (meth := k2m1) (c := k2c1) (by decide +kernel) rfl rfl rfl (by decide +kernel)
set_option maxRecDepth 65536 in
theorem w_c3 : (Jvm.Cond.code ({ cls := "com/example/avocet/avocet/index/Index", name := "segmentOf", desc := "([II)I" } : Jvm.MethodName) prog_26_method_14_code (3 : Nat) (Option.some Jvm.ClassFile.FieldType.int)).before args0 about1 = true := code_word (m := ⟨5, 0⟩) (meth := k5m0) (c := k5c0) (by decide +kernel) rfl rfl rfl (by decide +kernel)
def codes1 : List Jvm.Cond := [Jvm.Cond.code x code maxLocals ret, Jvm.Cond.code ({ cls := "java/lang/Math", name := "min", desc := "(II)I" } : Jvm.MethodName) jdk_29_method_69_code (2 : Nat) (Option.some Jvm.ClassFile.FieldType.int), Jvm.Cond.code ({ cls := "java/lang/Math", name := "max", desc := "(II)I" } : Jvm.MethodName) jdk_29_method_65_code (2 : Nat) (Option.some Jvm.ClassFile.FieldType.int), Jvm.Cond.code ({ cls := "com/example/avocet/avocet/index/Index", name := "segmentOf", desc := "([II)I" } : Jvm.MethodName) prog_26_method_14_code (3 : Nat) (Option.some Jvm.ClassFile.FieldType.int)]
set_option maxRecDepth 65536 in
theorem codes_eq : words1.filter isCode = codes1 := rfl
theorem w_codes : ∀ c ∈ words1.filter isCode, c.before args0 about1 = true := by
  rw [codes_eq]
  intro c hc
  simp only [codes1, List.mem_cons, List.not_mem_nil, or_false] at hc
  rcases hc with rfl | rfl | rfl | rfl
  · exact w_c0
  · exact w_c1
  · exact w_c2
  · exact w_c3
set_option maxRecDepth 65536 in
theorem w_t1 : words1.all (fun c => isCode c || c.before args0 about1) = true := by decide +kernel
theorem w_tables : (allAtoms (Jvm.Cond.code x code maxLocals ret :: tables_1)).before args0 about1 = true := by
  rw [allAtoms_all]
  show words1.all (fun c => c.before args0 about1) = true
  refine all_split ?_ w_codes
  rw [w_t1]
set_option maxRecDepth 65536 in
theorem w_case : (Jvm.Cond.and given_1 narrow_1).before args0 about1 = true := by decide +kernel
theorem w_applies : (headSpec (Jvm.Cond.code x code maxLocals ret :: tables_1) room_1).applies x e0.platform about1 = true :=
  (Spec.applies_iff w_frames).mpr ⟨w_running, w_runnable, w_alone, w_named, w_hears, w_ripe, w_room, w_tables⟩
theorem atStart : AtStart classFile x code maxLocals ret World_1 tables_1 room_1 Calls_1 rest_1 Pre_1 launch0 p0 e0 about1 theMethod args0 below0 :=
  ⟨lists_1, trivial, launch0.admits_env _ _ _, launch0.least_env, fairChoices_fair.cas, fairChoices_fair.clock, w_frames, w_args, w_heap, w_applies, trivial, trivial, w_case⟩
end start1
theorem witness_1 : WitnessClaimed_1 := ⟨start1.p0, start1.e0, start1.about1, start1.theMethod, start1.args0, start1.below0, start1.atStart⟩
end Jvm.Pilot.@@N@@
