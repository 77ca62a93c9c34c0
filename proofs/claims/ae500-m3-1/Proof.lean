import JvmDerived
import JvmDerived.Pilot.@@N@@Statement
import JvmDerived.Pilot.@@N@@Code
set_option linter.unusedVariables false
set_option linter.unusedSimpArgs false
set_option maxRecDepth 65536
set_option maxHeartbeats 4000000
namespace Jvm.Pilot.@@N@@
open Jvm Jvm.ClassFile Sem Op Lib Jvm.Free Jvm.Stand Jvm.LawKit Jvm.RoadKit Bundle Jvm.Pilot.@@N@@.Jvm.D
section Own
variable {p : Program} {l : Launch} {e : Env} {R : Room} {s : State} {m : MethodId} {args : Array Value} {below : List Frame} {meth : Method} {c : Code} {T : State} {locs : List Loc} {cells slots : Nat} {K J : Nat} {Q : Option Value → Heap → List Loc → Prop} {Z : State} {a0 : Array Value} {h : Heap}
/-- from U the run comes to its end, and what it leaves is Q's -/
def Ends (p : Program) (e : Env) (below : List Frame) (s : State) (K J : Nat) (Q : Option Value → Heap → List Loc → Prop) (U : State) : Prop :=
  ∃ s₂ o, Steps p.tables e below U s₂ ∧ s₂.status = .running ∧ Ended s₂ below o ∧ ∃ v L, o = .returned v ∧ Q v s₂.heap L ∧ FrameEnd s o s₂ L K J
theorem Ends.via {A B : State} (h : ∀ t, Steps p.tables e below A t → Steps p.tables e below B t) (k : Ends p e below s K J Q A) : Ends p e below s K J Q B := by
  obtain ⟨s2, o, h1, h2⟩ := k
  exact ⟨s2, o, h _ h1, h2⟩
theorem Ends.tr {A B : State} (h : Steps p.tables e below B A) (k : Ends p e below s K J Q A) : Ends p e below s K J Q B := by
  obtain ⟨s2, o, h1, h2⟩ := k
  exact ⟨s2, o, h.trans h1, h2⟩
theorem Ends.cast {g g' : JFrame} (q : g = g') (k : Ends p e below s K J Q (T.setTop g')) : Ends p e below s K J Q (T.setTop g) := q ▸ k
theorem own_iadd (X : Stand p l e R s m args below meth c T locs cells slots) (hx : p.tables.exec = Jvm.exec) {pc n : Nat} {Ls : Array Slot} {st : List Value} {x y : Int32} (hd : decode c.code pc = .ok (.iadd, 1))  (hn : pc + 1 = n) (k : Ends p e below s K J Q (T.setTop (mkF m n Ls (.int (x + y) :: st)))) : Ends p e below s K J Q (T.setTop (mkF m pc Ls (.int y :: .int x :: st))) := by
  subst hn
  exact Ends.via (fun t h => XS.iadd X.here hx rfl hd rfl h) k
theorem own_iand (X : Stand p l e R s m args below meth c T locs cells slots) (hx : p.tables.exec = Jvm.exec) {pc n : Nat} {Ls : Array Slot} {st : List Value} {x y : Int32} (hd : decode c.code pc = .ok (.iand, 1))  (hn : pc + 1 = n) (k : Ends p e below s K J Q (T.setTop (mkF m n Ls (.int (x &&& y) :: st)))) : Ends p e below s K J Q (T.setTop (mkF m pc Ls (.int y :: .int x :: st))) := by
  subst hn
  exact Ends.via (fun t h => XS.iand X.here hx rfl hd rfl h) k
theorem own_ladd (X : Stand p l e R s m args below meth c T locs cells slots) (hx : p.tables.exec = Jvm.exec) {pc n : Nat} {Ls : Array Slot} {st : List Value} {x y : Int64} (hd : decode c.code pc = .ok (.ladd, 1))  (hn : pc + 1 = n) (k : Ends p e below s K J Q (T.setTop (mkF m n Ls (.long (x + y) :: st)))) : Ends p e below s K J Q (T.setTop (mkF m pc Ls (.long y :: .long x :: st))) := by
  subst hn
  exact Ends.via (fun t h => XS.ladd X.here hx rfl hd rfl h) k
theorem own_lsub (X : Stand p l e R s m args below meth c T locs cells slots) (hx : p.tables.exec = Jvm.exec) {pc n : Nat} {Ls : Array Slot} {st : List Value} {x y : Int64} (hd : decode c.code pc = .ok (.lsub, 1))  (hn : pc + 1 = n) (k : Ends p e below s K J Q (T.setTop (mkF m n Ls (.long (x - y) :: st)))) : Ends p e below s K J Q (T.setTop (mkF m pc Ls (.long y :: .long x :: st))) := by
  subst hn
  exact Ends.via (fun t h => XS.lsub X.here hx rfl hd rfl h) k
theorem own_lmul (X : Stand p l e R s m args below meth c T locs cells slots) (hx : p.tables.exec = Jvm.exec) {pc n : Nat} {Ls : Array Slot} {st : List Value} {x y : Int64} (hd : decode c.code pc = .ok (.lmul, 1))  (hn : pc + 1 = n) (k : Ends p e below s K J Q (T.setTop (mkF m n Ls (.long (x * y) :: st)))) : Ends p e below s K J Q (T.setTop (mkF m pc Ls (.long y :: .long x :: st))) := by
  subst hn
  exact Ends.via (fun t h => XS.lmul X.here hx rfl hd rfl h) k
theorem own_ldiv (X : Stand p l e R s m args below meth c T locs cells slots) (hx : p.tables.exec = Jvm.exec) {pc n : Nat} {Ls : Array Slot} {st : List Value} {x y : Int64} (hd : decode c.code pc = .ok (.ldiv, 1)) (hy : y ≠ 0) (hn : pc + 1 = n) (k : Ends p e below s K J Q (T.setTop (mkF m n Ls (.long (x / y) :: st)))) : Ends p e below s K J Q (T.setTop (mkF m pc Ls (.long y :: .long x :: st))) := by
  subst hn
  exact Ends.via (fun t h => XS.ldiv X.here hx rfl hd rfl hy h) k
theorem own_i2l (X : Stand p l e R s m args below meth c T locs cells slots) (hx : p.tables.exec = Jvm.exec) {pc n : Nat} {Ls : Array Slot} {st : List Value} {x : Int32} (hd : decode c.code pc = .ok (.i2l, 1))  (hn : pc + 1 = n) (k : Ends p e below s K J Q (T.setTop (mkF m n Ls (.long x.toInt64 :: st)))) : Ends p e below s K J Q (T.setTop (mkF m pc Ls (.int x :: st))) := by
  subst hn
  exact Ends.via (fun t h => XS.i2l X.here hx rfl hd rfl h) k
theorem own_l2i (X : Stand p l e R s m args below meth c T locs cells slots) (hx : p.tables.exec = Jvm.exec) {pc n : Nat} {Ls : Array Slot} {st : List Value} {x : Int64} (hd : decode c.code pc = .ok (.l2i, 1))  (hn : pc + 1 = n) (k : Ends p e below s K J Q (T.setTop (mkF m n Ls (.int x.toInt32 :: st)))) : Ends p e below s K J Q (T.setTop (mkF m pc Ls (.long x :: st))) := by
  subst hn
  exact Ends.via (fun t h => XS.l2i X.here hx rfl hd rfl h) k
theorem own_lcmp (X : Stand p l e R s m args below meth c T locs cells slots) (hx : p.tables.exec = Jvm.exec) {pc n : Nat} {Ls : Array Slot} {st : List Value} {x y : Int64} (hd : decode c.code pc = .ok (.lcmp, 1))  (hn : pc + 1 = n) (k : Ends p e below s K J Q (T.setTop (mkF m n Ls (.int (lcmpW x y) :: st)))) : Ends p e below s K J Q (T.setTop (mkF m pc Ls (.long y :: .long x :: st))) := by
  subst hn
  exact Ends.via (fun t h => XS.lcmp X.here hx rfl hd rfl h) k
theorem own_iconst (X : Stand p l e R s m args below meth c T locs cells slots) (hx : p.tables.exec = Jvm.exec) {pc n : Nat} {Ls : Array Slot} {st : List Value} {i : Int} (v : Int32) (hd : decode c.code pc = .ok (.iconst i, 1)) (hv : Int32.ofInt i = v) (hn : pc + 1 = n) (k : Ends p e below s K J Q (T.setTop (mkF m n Ls (.int v :: st)))) : Ends p e below s K J Q (T.setTop (mkF m pc Ls st)) := by
  subst hn hv
  exact Ends.via (fun t h => XS.iconst X.here hx rfl hd h) k
theorem own_sipush (X : Stand p l e R s m args below meth c T locs cells slots) (hx : p.tables.exec = Jvm.exec) {pc n : Nat} {Ls : Array Slot} {st : List Value} {i : Int} (v : Int32) (hd : decode c.code pc = .ok (.sipush i, 3)) (hv : (Int16.ofInt i).toInt32 = v) (hn : pc + 3 = n) (k : Ends p e below s K J Q (T.setTop (mkF m n Ls (.int v :: st)))) : Ends p e below s K J Q (T.setTop (mkF m pc Ls st)) := by
  subst hn hv
  exact Ends.via (fun t h => XS.sipush X.here hx rfl hd h) k
theorem own_lconst (X : Stand p l e R s m args below meth c T locs cells slots) (hx : p.tables.exec = Jvm.exec) {pc n : Nat} {Ls : Array Slot} {st : List Value} {i : Fin 2} (v : Int64) (hd : decode c.code pc = .ok (.lconst i, 1)) (hv : Int64.ofNat i = v) (hn : pc + 1 = n) (k : Ends p e below s K J Q (T.setTop (mkF m n Ls (.long v :: st)))) : Ends p e below s K J Q (T.setTop (mkF m pc Ls st)) := by
  subst hn hv
  exact Ends.via (fun t h => XS.lconst X.here hx rfl hd h) k
theorem own_iload (X : Stand p l e R s m args below meth c T locs cells slots) (hx : p.tables.exec = Jvm.exec) {pc n : Nat} {Ls : Array Slot} {st : List Value} {i : Nat} {v : Int32} (hd : decode c.code pc = .ok (.iload i, 2)) (hl : Ls[i]? = some (.val (.int v))) (hn : pc + 2 = n) (k : Ends p e below s K J Q (T.setTop (mkF m n Ls (.int v :: st)))) : Ends p e below s K J Q (T.setTop (mkF m pc Ls (st))) := by
  subst hn
  exact Ends.via (fun t h => XS.iload X.here hx rfl hd hl h) k
theorem own_iloadN (X : Stand p l e R s m args below meth c T locs cells slots) (hx : p.tables.exec = Jvm.exec) {pc n : Nat} {Ls : Array Slot} {st : List Value} {i : Fin 4} {v : Int32} (hd : decode c.code pc = .ok (.iload_n i, 1)) (hl : Ls[i.val]? = some (.val (.int v))) (hn : pc + 1 = n) (k : Ends p e below s K J Q (T.setTop (mkF m n Ls (.int v :: st)))) : Ends p e below s K J Q (T.setTop (mkF m pc Ls (st))) := by
  subst hn
  exact Ends.via (fun t h => XS.iloadN X.here hx rfl hd hl h) k
theorem own_istore (X : Stand p l e R s m args below meth c T locs cells slots) (hx : p.tables.exec = Jvm.exec) {pc n : Nat} {Ls : Array Slot} {st : List Value} {i : Nat} {v : Int32} {l' : Array Slot} (hd : decode c.code pc = .ok (.istore i, 2)) (hl : storeLocals Ls i (.int v) = some l') (hn : pc + 2 = n) (k : Ends p e below s K J Q (T.setTop (mkF m n l' (st)))) : Ends p e below s K J Q (T.setTop (mkF m pc Ls (.int v :: st))) := by
  subst hn
  exact Ends.via (fun t h => XS.istore X.here hx rfl hd rfl hl h) k
theorem own_istoreN (X : Stand p l e R s m args below meth c T locs cells slots) (hx : p.tables.exec = Jvm.exec) {pc n : Nat} {Ls : Array Slot} {st : List Value} {i : Fin 4} {v : Int32} {l' : Array Slot} (hd : decode c.code pc = .ok (.istore_n i, 1)) (hl : storeLocals Ls i.val (.int v) = some l') (hn : pc + 1 = n) (k : Ends p e below s K J Q (T.setTop (mkF m n l' (st)))) : Ends p e below s K J Q (T.setTop (mkF m pc Ls (.int v :: st))) := by
  subst hn
  exact Ends.via (fun t h => XS.istoreN X.here hx rfl hd rfl hl h) k
theorem own_lload (X : Stand p l e R s m args below meth c T locs cells slots) (hx : p.tables.exec = Jvm.exec) {pc n : Nat} {Ls : Array Slot} {st : List Value} {i : Nat} {v : Int64} (hd : decode c.code pc = .ok (.lload i, 2)) (hl : Ls[i]? = some (.val (.long v))) (hn : pc + 2 = n) (k : Ends p e below s K J Q (T.setTop (mkF m n Ls (.long v :: st)))) : Ends p e below s K J Q (T.setTop (mkF m pc Ls (st))) := by
  subst hn
  exact Ends.via (fun t h => XS.lload X.here hx rfl hd hl h) k
theorem own_lstore (X : Stand p l e R s m args below meth c T locs cells slots) (hx : p.tables.exec = Jvm.exec) {pc n : Nat} {Ls : Array Slot} {st : List Value} {i : Nat} {v : Int64} {l' : Array Slot} (hd : decode c.code pc = .ok (.lstore i, 2)) (hl : storeLocals Ls i (.long v) = some l') (hn : pc + 2 = n) (k : Ends p e below s K J Q (T.setTop (mkF m n l' (st)))) : Ends p e below s K J Q (T.setTop (mkF m pc Ls (.long v :: st))) := by
  subst hn
  exact Ends.via (fun t h => XS.lstore X.here hx rfl hd rfl hl h) k
theorem own_goto (X : Stand p l e R s m args below meth c T locs cells slots) (hx : p.tables.exec = Jvm.exec) {pc n : Nat} {Ls : Array Slot} {st : List Value} {o : Int} (hd : decode c.code pc = .ok (.goto o, 3)) (ho : 0 ≤ (pc : Int) + o) (hp : ((pc : Int) + o).toNat = n) (k : Ends p e below s K J Q (T.setTop (mkF m n Ls st))) : Ends p e below s K J Q (T.setTop (mkF m pc Ls st)) :=
  Ends.via (fun t h => XS.goto X.here hx rfl (pc0 := pc) rfl hd ho hp h) k
theorem own_ifYes (X : Stand p l e R s m args below meth c T locs cells slots) (hx : p.tables.exec = Jvm.exec) {pc n : Nat} {Ls : Array Slot} {st : List Value} {o : Int} {cd : ClassFile.Cond} {x : Int32} (hd : decode c.code pc = .ok (.ifCond cd o, 3)) (hc : ifCond.holds cd x = true) (ho : 0 ≤ (pc : Int) + o) (hp : ((pc : Int) + o).toNat = n) (k : Ends p e below s K J Q (T.setTop (mkF m n Ls st))) : Ends p e below s K J Q (T.setTop (mkF m pc Ls (.int x :: st))) :=
  Ends.via (fun t h => XS.ifYes X.here hx rfl (pc0 := pc) rfl hd rfl hc ho hp h) k
theorem own_ifNo (X : Stand p l e R s m args below meth c T locs cells slots) (hx : p.tables.exec = Jvm.exec) {pc n : Nat} {Ls : Array Slot} {st : List Value} {o : Int} {cd : ClassFile.Cond} {x : Int32} (hd : decode c.code pc = .ok (.ifCond cd o, 3)) (hc : ifCond.holds cd x = false) (hn : pc + 3 = n) (k : Ends p e below s K J Q (T.setTop (mkF m n Ls st))) : Ends p e below s K J Q (T.setTop (mkF m pc Ls (.int x :: st))) := by
  subst hn
  exact Ends.via (fun t h => XS.ifNo X.here hx rfl hd rfl hc h) k
theorem own_icmpNo (X : Stand p l e R s m args below meth c T locs cells slots) (hx : p.tables.exec = Jvm.exec) {pc n : Nat} {Ls : Array Slot} {st : List Value} {o : Int} {cd : ClassFile.Cond} {x y : Int32} (hd : decode c.code pc = .ok (.if_icmp cd o, 3)) (hc : if_icmp.holds cd x y = false) (hn : pc + 3 = n) (k : Ends p e below s K J Q (T.setTop (mkF m n Ls st))) : Ends p e below s K J Q (T.setTop (mkF m pc Ls (.int y :: .int x :: st))) := by
  subst hn
  exact Ends.via (fun t h => XS.icmpNo X.here hx rfl hd rfl hc h) k
theorem lw_eq_t {x y : Int64} (h : x = y) : ifCond.holds .eq (lcmpW x y) = true := Jvm.Free.XT.ll_eq_t h
theorem lw_eq_f {x y : Int64} (h : ¬ x = y) : ifCond.holds .eq (lcmpW x y) = false := Jvm.Free.XT.ll_eq_f h
theorem lw_ne_t {x y : Int64} (h : ¬ x = y) : ifCond.holds .ne (lcmpW x y) = true := Jvm.Free.XT.ll_ne_t h
theorem lw_ne_f {x y : Int64} (h : x = y) : ifCond.holds .ne (lcmpW x y) = false := Jvm.Free.XT.ll_ne_f h
theorem lw_lt_t {x y : Int64} (h : x < y) : ifCond.holds .lt (lcmpW x y) = true := Jvm.Free.XT.ll_lt_t h
theorem lw_lt_f {x y : Int64} (h : ¬ x < y) : ifCond.holds .lt (lcmpW x y) = false := Jvm.Free.XT.ll_lt_f h
theorem lw_ge_t {x y : Int64} (h : ¬ x < y) : ifCond.holds .ge (lcmpW x y) = true := Jvm.Free.XT.ll_ge_t h
theorem lw_ge_f {x y : Int64} (h : x < y) : ifCond.holds .ge (lcmpW x y) = false := Jvm.Free.XT.ll_ge_f h
theorem lw_gt_t {x y : Int64} (h : y < x) : ifCond.holds .gt (lcmpW x y) = true := Jvm.Free.XT.ll_gt_t h
theorem lw_gt_f {x y : Int64} (h : ¬ y < x) : ifCond.holds .gt (lcmpW x y) = false := Jvm.Free.XT.ll_gt_f h
theorem lw_le_t {x y : Int64} (h : ¬ y < x) : ifCond.holds .le (lcmpW x y) = true := Jvm.Free.XT.ll_le_t h
theorem lw_le_f {x y : Int64} (h : y < x) : ifCond.holds .le (lcmpW x y) = false := Jvm.Free.XT.ll_le_f h
theorem own_ldc (X : Stand p l e R s m args below meth c T locs cells slots) (hx : p.tables.exec = Jvm.exec) (hZ : Z.Warmed39 s.vm) {own : String} (hown : s.vm.findClass own = some m.cls) {pc n : Nat} {Ls : Array Slot} {st : List Value} {i : Nat} {v : Int32} (w : (Cond.constant own i v).before a0 Z = true) (hd : decode c.code pc = .ok (.ldc i, 2)) (hn : pc + 2 = n) (k : Ends p e below s K J Q (T.setTop (mkF m n Ls (.int v :: st)))) : Ends p e below s K J Q (T.setTop (mkF m pc Ls st)) := by
  subst hn
  exact Ends.via (fun t h => X.ldcI hx hown (mvT hZ w) rfl hd h) k
theorem own_retI (X : Stand p l e R s m args below meth c T locs cells slots) (hx : p.tables.exec = Jvm.exec) (lk : meth.locks = false) {pc : Nat} {Ls : Array Slot} {rest : List Value} {z : Int32} (hret : meth.sig.returnType = some .int)  (hd : decode c.code pc = .ok (.ireturn, 1)) (hK : cells ≤ K) (hJ : slots ≤ J) (hq : Q (some (.int z)) T.heap locs) : Ends p e below s K J Q (T.setTop (mkF m pc Ls (.int z :: rest))) := by
  obtain ⟨fs, hr, hrun, hended, hW, hsame⟩ := X.leave (v := (some (.int z))) (fun h => by rw [hret] at h; cases h) lk
  exact ⟨_, _, retOut X hx (w := .int z) (t := .int) hret rfl (Or.inl ⟨rfl, Or.inl rfl, z, rfl⟩) hd hr, hrun, hended, _, _, rfl, hq, ⟨_, rfl⟩, hW, hsame.mono hK hJ⟩
theorem own_retN (X : Stand p l e R s m args below meth c T locs cells slots) (hx : p.tables.exec = Jvm.exec) (lk : meth.locks = false) {pc : Nat} {Ls : Array Slot} {rest : List Value} {z : Int32} {t : FieldType}  (hret : meth.sig.returnType = some t) (ht : t = .boolean ∨ t = .byte ∨ t = .char ∨ t = .short) (hd : decode c.code pc = .ok (.ireturn, 1)) (hK : cells ≤ K) (hJ : slots ≤ J) (hq : Q (some (.int (nar t z))) T.heap locs) : Ends p e below s K J Q (T.setTop (mkF m pc Ls (.int z :: rest))) := by
  obtain ⟨fs, hr, hrun, hended, hW, hsame⟩ := X.leave (v := (some (.int (nar t z)))) (fun h => by rw [hret] at h; cases h) lk
  exact ⟨_, _, Jvm.RoadKit.retN X hx hret ht hd hr, hrun, hended, _, _, rfl, hq, ⟨_, rfl⟩, hW, hsame.mono hK hJ⟩
theorem own_callS (X : Stand p l e R s m args below meth c T locs cells slots) (hx : p.tables.exec = Jvm.exec) (hZ : Z.Warmed39 s.vm) {own : String} {index : Nat} {y : MethodName} {bytes : ByteArray} {maxL : Nat} {ret : Option FieldType} (hown : s.vm.findClass own = some m.cls) (wl : (Cond.methodLink own index y).before a0 Z = true) (ws : (Cond.static y).before a0 Z = true) (wz : (Cond.initialized y.cls).before a0 Z = true) (wc : (Cond.code y bytes maxL ret).before a0 Z = true) (hy : y.cls ≠ "java/lang/invoke/MethodHandle" ∧ y.cls ≠ "java/lang/invoke/VarHandle") (eT : T.heap = h)
    {rm : Room} {Qc : Option Value → Heap → List Loc → Prop} {as' : Array Value} (hM : MetFree l y (head1 [Cond.code y bytes maxL ret] rm) (fun a U => a = as' ∧ Z.Warmed39 U.vm ∧ U.heap = h) (fun _ _ _ _ _ => True) (fun _ U o U' => ∃ v L, o = .returned v ∧ Qc v U'.heap L ∧ FrameEnd U o U' L rm.cells rm.slots)) {W : Nat} (hf : rm.frames + 1 ≤ R.frames) (hl : W + (maxL + 11) + rm.locals ≤ R.locals) (hc : cells + rm.cells ≤ R.cells) (hsl : slots + rm.slots ≤ R.slots) {pc n : Nat} {Ls : Array Slot} (hsize : Ls.size = c.maxLocals) {argsL rest : List Value} {ps : List FieldType} {r : Option FieldType} (hpd : parseMethodDescriptor y.desc = some ⟨ps, r⟩) (hlen : argsL.length = ps.length) (has : argsL.toArray = as') (hW : 0 + (rest.map fun v => v.category).sum ≤ W) (hd : decode c.code pc = .ok (.invokestatic index, 3)) (hn : pc + 3 = n) {st : List Value} (hst : st = argsL.reverse ++ rest)
    (k : ∀ v T' h' L', Stand p l e R s m args below meth c T' (locs ++ L') (cells + rm.cells) (slots + rm.slots) → T'.heap = h' → Qc v h' L' → Ends p e below s K J Q (T'.setTop (mkF m n Ls (v.toList ++ rest)))) : Ends p e below s K J Q (T.setTop (mkF m pc Ls st)) := by
  subst hn
  obtain ⟨v, _, ⟨T18, L18, k18, n18⟩, -, X18, ⟨Lc18, hQ18, l18, y18, z18⟩, st18⟩ := Jvm.LawKit.callS X hx hown (mvT hZ wl) (mvT hZ ws) (mvT hZ wz) (mvT hZ wc) hy (backOf (W := W) hM hZ wc wz hf hl) (g := mkF m pc Ls st) rfl hsize (argsL := argsL) (rest := rest) (lenOf hpd hlen) hst hW hd (fun _ _ => ⟨has, eT, hc, hsl⟩)
  dsimp only [Pt.U, Pt.locs, Pt.cells, Pt.slots] at X18 l18 y18 z18 st18 hQ18
  subst l18 y18 z18
  exact Ends.via (fun t h => st18 t h) (k v T18 _ Lc18 X18 rfl hQ18)
end Own
theorem own_mask (x : Int32) : 0 ≤ (x &&& (2147483647 : Int32)).toInt := (c_and x 2147483647 (by decide)).1
theorem own_mask1 (x : Int32) : 0 ≤ (x &&& (255 : Int32)).toInt ∧ (x &&& (255 : Int32)).toInt ≤ 255 := c_and x 255 (by decide)
theorem own_bc {c b : Int32} (hc : 0 ≤ c.toInt) (hb : 0 < b.toInt) : ((((c.toInt64 + b.toInt64) - (1 : Int64)) / b.toInt64).toInt32).toInt = (c.toInt + b.toInt - 1) / b.toInt := by
  have h1 := rng32 c
  have h2 := rng32 b
  have e1 : (c.toInt64 + b.toInt64).toInt = c.toInt + b.toInt := by
    have := c_ladd c.toInt64 b.toInt64
    have r := rng64 (c.toInt64 + b.toInt64)
    rw [c_i2l, c_i2l] at this
    omega
  have e2 : ((c.toInt64 + b.toInt64) - (1 : Int64)).toInt = c.toInt + b.toInt - 1 := by
    have := c_lsub (c.toInt64 + b.toInt64) 1
    have r := rng64 ((c.toInt64 + b.toInt64) - 1)
    have o : (1 : Int64).toInt = 1 := rfl
    rw [e1, o] at this
    omega
  have hne : b.toInt64 ≠ -1 := fun q => by
    have := congrArg Int64.toInt q
    rw [c_i2l] at this
    have o : (-1 : Int64).toInt = -1 := rfl
    omega
  have e3 := (c_ldiv ((c.toInt64 + b.toInt64) - (1 : Int64)) b.toInt64 b.toInt (c_i2l b) hne).1 (by omega)
  rw [e2] at e3
  have e4 := c_l2i (((c.toInt64 + b.toInt64) - (1 : Int64)) / b.toInt64)
  have r := rng32 ((((c.toInt64 + b.toInt64) - (1 : Int64)) / b.toInt64).toInt32)
  rw [e3] at e4
  have hq0 : 0 ≤ (c.toInt + b.toInt - 1) / b.toInt := Int.ediv_nonneg (by omega) (by omega)
  have hq1 : (c.toInt + b.toInt - 1) / b.toInt < 2147483648 := by
    apply Int.ediv_lt_of_lt_mul hb
    have : 2147483648 + b.toInt - 1 ≤ 2147483648 * b.toInt := by
      have : 0 ≤ (b.toInt - 1) * 2147483647 := Int.mul_nonneg (by omega) (by omega)
      omega
    omega
  omega
theorem own_qb {c b q : Int} (hb : 0 < b) (h : q = (c + b - 1) / b) : (q - 1) * b < c ∧ c ≤ q * b := by
  have h1 := Int.mul_ediv_add_emod (c + b - 1) b
  have h2 := Int.emod_nonneg (c + b - 1) (Int.ne_of_gt hb)
  have h3 := Int.emod_lt_of_pos (c + b - 1) hb
  rw [← h, Int.mul_comm] at h1
  rw [Int.sub_mul, Int.one_mul]
  omega
theorem own_prods {r b c : Int32} (h1 : (r.toInt - 1) * b.toInt < c.toInt) (h2 : c.toInt ≤ r.toInt * b.toInt) (hr : 1 ≤ r.toInt) (hb : 0 < b.toInt) :
    (r.toInt64 - (1 : Int64)) * b.toInt64 < c.toInt64 ∧ ¬ r.toInt64 * b.toInt64 < c.toInt64 := by
  have b1 := rng32 r
  have b2 := rng32 b
  have b3 := rng32 c
  have hrb : (r.toInt - 1) * b.toInt = r.toInt * b.toInt - b.toInt := by rw [Int.sub_mul, Int.one_mul]
  have hp : 0 < r.toInt * b.toInt := Int.mul_pos (by omega) hb
  rw [Int64.lt_iff_toInt_lt, Int64.lt_iff_toInt_lt, c_i2l]
  have e1 : (r.toInt64 - (1 : Int64)).toInt = r.toInt - 1 := by
    have := c_lsub r.toInt64 1
    have q := rng64 (r.toInt64 - 1)
    have o : (1 : Int64).toInt = 1 := rfl
    rw [c_i2l, o] at this
    omega
  have e2 := c_lmul (r.toInt64 - (1 : Int64)) b.toInt64
  have q2 := rng64 ((r.toInt64 - (1 : Int64)) * b.toInt64)
  have e3 := c_lmul r.toInt64 b.toInt64
  have q3 := rng64 (r.toInt64 * b.toInt64)
  rw [e1, c_i2l, hrb] at e2
  rw [c_i2l, c_i2l] at e3
  omega
theorem d1_0 : decode prog_48_method_3_code 0 = .ok (.iload_n 0, 1) := by decide +kernel
theorem d1_1 : decode prog_48_method_3_code 1 = .ok (.i2l, 1) := by decide +kernel
theorem d1_2 : decode prog_48_method_3_code 2 = .ok (.iload_n 1, 1) := by decide +kernel
theorem d1_3 : decode prog_48_method_3_code 3 = .ok (.i2l, 1) := by decide +kernel
theorem d1_4 : decode prog_48_method_3_code 4 = .ok (.ladd, 1) := by decide +kernel
theorem d1_5 : decode prog_48_method_3_code 5 = .ok (.lconst 1, 1) := by decide +kernel
theorem d1_6 : decode prog_48_method_3_code 6 = .ok (.lsub, 1) := by decide +kernel
theorem d1_7 : decode prog_48_method_3_code 7 = .ok (.iload_n 1, 1) := by decide +kernel
theorem d1_8 : decode prog_48_method_3_code 8 = .ok (.i2l, 1) := by decide +kernel
theorem d1_9 : decode prog_48_method_3_code 9 = .ok (.ldiv, 1) := by decide +kernel
theorem d1_10 : decode prog_48_method_3_code 10 = .ok (.l2i, 1) := by decide +kernel
theorem d1_11 : decode prog_48_method_3_code 11 = .ok (.ireturn, 1) := by decide +kernel
theorem pn_1 : plainName "com/example/vernier_search/verniersearch/index/SegmentFormat" = true := by first | (simp [plainName, overriddenIn]; done) | decide +kernel
theorem ef_1 (m : MethodId) (p1 : Int32) (p2 : Int32) : entryFrame m #[(.int p1), (.int p2)] 2 = mkF m 0 #[.val (.int p1), .val (.int p2)] [] := by first | rfl | (simp [entryFrame, mkF, argsToLocals, Value.category]; done)
theorem pd_1 : parseMethodDescriptor "(II)I" = some ⟨[.int, .int], some .int⟩ := by decide +kernel
def Q1 (Z : State) (p1 : Int32) (p2 : Int32)  (h0 : Heap) (n0 : Nat) (v : Option Value) (h : Heap) (L : List Loc) : Prop := v = some (.int ((((p1.toInt64 + p2.toInt64) - (1 : Int64)) / p2.toInt64).toInt32)) ∧ Fr n0 L ∧ h0 = h
theorem rm1 (l : Launch) (Z : State) (a0 : Array Value) (hw : ∀ d ∈ tables_1, d.before a0 Z = true) (ws : List Jvm.Cond) (p1 : Int32) (p2 : Int32)  (h0 : Heap) (n0 : Nat) (Z0 : n0 ≤ h0.size) (hnz : p2.toInt64 ≠ 0) :
    MetFree l (⟨"com/example/vernier_search/verniersearch/index/SegmentFormat", "blockCount", "(II)I"⟩ : MethodName) (head1 (Jvm.Cond.code (⟨"com/example/vernier_search/verniersearch/index/SegmentFormat", "blockCount", "(II)I"⟩ : MethodName) prog_48_method_3_code 2 (some .int) :: ws) ({ frames := 0, cells := 0, slots := 0, locals := 0 } : Room)) (fun a U => a = #[(.int p1), (.int p2)] ∧ Z.Warmed39 U.vm ∧ U.heap = h0) (fun _ _ _ _ _ => True) (fun _ U o U' => ∃ v L, o = .returned v ∧ (Q1 Z p1 p2  h0 n0) v U'.heap L ∧ FrameEnd U o U' L ({ frames := 0, cells := 0, slots := 0, locals := 0 } : Room).cells ({ frames := 0, cells := 0, slots := 0, locals := 0 } : Room).slots) := by
  refine MetFree.of_bodySF (plainFor_of_name pn_1) hisR ?_
  intro p e s m args below meth c s₁ Bd hml0 hP hK
  obtain ⟨rfl, hZ, hh⟩ := hP
  have hx := Bd.exec
  have hby := Bd.bytes
  have hml : c.maxLocals = 2 := hml0
  have hown : s.vm.findClass "com/example/vernier_search/verniersearch/index/SegmentFormat" = some m.cls := findClass_of_methodNamed Bd.named
  have hnm := (name_of_methodNamed Bd.named Bd.method).1
  have X0 : Stand p l e ({ frames := 0, cells := 0, slots := 0, locals := 0 } : Room) s m #[(.int p1), (.int p2)] below meth c s₁ [] 0 0 := Stand.of_body Bd
  have e0 : s₁.heap = h0 := by rw [← hh, Bd.state]; rfl
  have N0 := Fr.nil n0
  have lk : meth.locks = false := BodyLoose.notSynchronized Bd
  have hret := Bd.returns
  show Ends p e below s ({ frames := 0, cells := 0, slots := 0, locals := 0 } : Room).cells ({ frames := 0, cells := 0, slots := 0, locals := 0 } : Room).slots (Q1 Z p1 p2  h0 n0) (s₁.setTop (entryFrame m #[(.int p1), (.int p2)] 2))
  refine Ends.cast (ef_1 m p1 p2) ?_
  refine own_iloadN (n := 1) X0 hx (hb hby d1_0) rfl rfl ?_
  refine own_i2l (n := 2) X0 hx (hb hby d1_1) rfl ?_
  refine own_iloadN (n := 3) X0 hx (hb hby d1_2) rfl rfl ?_
  refine own_i2l (n := 4) X0 hx (hb hby d1_3) rfl ?_
  refine own_ladd (n := 5) X0 hx (hb hby d1_4) rfl ?_
  refine own_lconst (n := 6) X0 hx (1 : Int64) (hb hby d1_5) rfl rfl ?_
  refine own_lsub (n := 7) X0 hx (hb hby d1_6) rfl ?_
  refine own_iloadN (n := 8) X0 hx (hb hby d1_7) rfl rfl ?_
  refine own_i2l (n := 9) X0 hx (hb hby d1_8) rfl ?_
  refine own_ldiv (n := 10) X0 hx (hb hby d1_9) hnz rfl ?_
  refine own_l2i (n := 11) X0 hx (hb hby d1_10) rfl ?_
  refine own_retI X0 hx lk hret (hb hby d1_11) (by decide) (by decide) ?_
  rw [e0]
  exact ⟨rfl, N0, rfl⟩
theorem pn_0 : plainName "com/example/vernier_search/verniersearch/index/SegmentFormatBlockCountPinLaw" = true := by first | (simp [plainName, overriddenIn]; done) | decide +kernel
theorem ef_0 (m : MethodId) (p1 : Int32) (p2 : Int32) (p3 : Int32) : entryFrame m #[(.int p1), (.int p2), (.int p3)] maxLocals = mkF m 0 #[.val (.int p1), .val (.int p2), .val (.int p3), .unset, .unset, .unset, .unset, .unset, .unset, .unset, .unset, .unset] [] := by first | rfl | (simp [entryFrame, mkF, argsToLocals, Value.category, maxLocals]; done)
def Q0 (Z : State) (p1 : Int32) (p2 : Int32) (p3 : Int32)  (h0 : Heap) (n0 : Nat) (v : Option Value) (h : Heap) (L : List Loc) : Prop := v = some (.int 1) ∧ Fr n0 L
theorem rm0 (l : Launch) (Z : State) (a0 : Array Value) (hw : ∀ d ∈ tables_1, d.before a0 Z = true) (ws : List Jvm.Cond) (p1 : Int32) (p2 : Int32) (p3 : Int32)  (h0 : Heap) (n0 : Nat) (Z0 : n0 ≤ h0.size)  :
    MetFree l x (head1 (Jvm.Cond.code x code maxLocals ret :: ws) room_1) (fun a U => a = #[(.int p1), (.int p2), (.int p3)] ∧ Z.Warmed39 U.vm ∧ U.heap = h0) (fun _ _ _ _ _ => True) (fun _ U o U' => ∃ v L, o = .returned v ∧ (Q0 Z p1 p2 p3  h0 n0) v U'.heap L ∧ FrameEnd U o U' L 0 0) := by
  refine MetFree.of_bodySF (plainFor_of_name pn_0) hisR ?_
  intro p e s m args below meth c s₁ Bd hml0 hP hK
  obtain ⟨rfl, hZ, hh⟩ := hP
  have hx := Bd.exec
  have hby := Bd.bytes
  have hml : c.maxLocals = 12 := hml0
  have hown : s.vm.findClass "com/example/vernier_search/verniersearch/index/SegmentFormatBlockCountPinLaw" = some m.cls := findClass_of_methodNamed Bd.named
  have hnm := (name_of_methodNamed Bd.named Bd.method).1
  have X0 : Stand p l e room_1 s m #[(.int p1), (.int p2), (.int p3)] below meth c s₁ [] 0 0 := Stand.of_body Bd
  have e0 : s₁.heap = h0 := by rw [← hh, Bd.state]; rfl
  have N0 := Fr.nil n0
  have lk : meth.locks = false := BodyLoose.notSynchronized Bd
  have hret := Bd.returns
  show Ends p e below s 0 0 (Q0 Z p1 p2 p3  h0 n0) (s₁.setTop (entryFrame m #[(.int p1), (.int p2), (.int p3)] maxLocals))
  refine Ends.cast (ef_0 m p1 p2 p3) ?_
  have blk34 : ∀ c3 b4 : Int32, 0 ≤ c3.toInt → 0 < b4.toInt → Ends p e below s 0 0 (Q0 Z p1 p2 p3  h0 n0) (s₁.setTop (mkF m 34 #[.val (.int p1), .val (.int p2), .val (.int p3), .val (.int c3), .val (.int b4), .unset, .unset, .unset, .unset, .unset, .unset, .unset] [])) := by
    intro c3 b4 hc hb4
    refine own_iloadN (n := 35) X0 hx (hb hby at_34) rfl rfl ?_
    refine own_iload (n := 37) X0 hx (hb hby at_35) rfl rfl ?_
    refine own_callS (n := 40) X0 hx hZ hown (hw _ (List.mem_of_getElem? (i := 1) rfl)) (hw _ (List.mem_of_getElem? (i := 2) rfl)) (hw _ (List.mem_of_getElem? (i := 3) rfl)) (hw _ (List.mem_of_getElem? (i := 4) rfl)) (by decide) e0 (rm1 l Z a0 hw [] c3 b4 h0 n0 Z0 (fun q => by have := congrArg Int64.toInt q; rw [c_i2l] at this; have o : (0 : Int64).toInt = 0 := rfl; omega)) (W := 0) (by decide) (by decide) (by decide) (by decide) (by rw [hml]; rfl) (argsL := [(.int c3), (.int b4)]) (rest := []) pd_1 rfl (by rfl) (Nat.le_of_eq rfl) (hb hby at_37) rfl rfl ?_
    intro v1 T1 h1 L1 X1 e1 q1
    obtain ⟨rfl, M1, rfl⟩ := q1
    have N1 := Fr.app N0 M1
    refine own_istore (n := 42) X1 hx (hb hby at_40) (l' := #[.val (.int p1), .val (.int p2), .val (.int p3), .val (.int c3), .val (.int b4), .val (.int ((((c3.toInt64 + b4.toInt64) - (1 : Int64)) / b4.toInt64).toInt32)), .unset, .unset, .unset, .unset, .unset, .unset]) rfl rfl ?_
    show Ends p e below s 0 0 (Q0 Z p1 p2 p3  h0 n0) (T1.setTop (mkF m 42 #[.val (.int p1), .val (.int p2), .val (.int p3), .val (.int c3), .val (.int b4), .val (.int ((((c3.toInt64 + b4.toInt64) - (1 : Int64)) / b4.toInt64).toInt32)), .unset, .unset, .unset, .unset, .unset, .unset] []))
    generalize g_r5 : ((((c3.toInt64 + b4.toInt64) - (1 : Int64)) / b4.toInt64).toInt32) = r5
    have hr : r5.toInt = (c3.toInt + b4.toInt - 1) / b4.toInt := by rw [← g_r5]; exact own_bc hc hb4
    have hq1 := (own_qb hb4 hr).1
    have hq2 := (own_qb hb4 hr).2
    have hr0 : c3 = 0 → r5 = 0 := fun q => Int32.toInt_inj.mp (by rw [hr, q]; exact Int.ediv_eq_zero_of_lt (by have o : (0 : Int32).toInt = 0 := rfl; omega) (by have o : (0 : Int32).toInt = 0 := rfl; omega))
    have hr1' : ¬ c3 = 0 → 1 ≤ r5.toInt := fun q => by
      have hcp : 0 < c3.toInt := by
        rcases Int.lt_or_eq_of_le hc with h | h
        · exact h
        · exact absurd (Int32.toInt_inj.mp (show c3.toInt = (0 : Int32).toInt from h.symm)) q
      have : ¬ r5.toInt ≤ 0 := fun z => by
        have : r5.toInt * b4.toInt ≤ 0 := Int.mul_nonpos_of_nonpos_of_nonneg z (by omega)
        omega
      omega
    have hr1 : ¬ c3 = 0 → ¬ r5 < 1 := fun q => by have := hr1' q; rw [Int32.lt_iff_toInt_lt]; have o : (1 : Int32).toInt = 1 := rfl; omega
    refine own_iloadN (n := 43) X1 hx (hb hby at_42) rfl rfl ?_
    by_cases c43 : c3 = 0
    · refine own_ifNo (n := 46) X1 hx (hb hby at_43) (Jvm.Free.XT.i0_ne_f c43) rfl ?_
      refine own_iload (n := 48) X1 hx (hb hby at_46) rfl rfl ?_
      refine own_ifNo (n := 51) X1 hx (hb hby at_48) (Jvm.Free.XT.i0_ne_f (hr0 c43)) rfl ?_
      refine own_iconst (n := 52) X1 hx (1 : Int32) (hb hby at_51) rfl rfl ?_
      refine own_goto (n := 56) X1 hx (hb hby at_52) (by decide) (by decide) ?_
      refine own_retN X1 hx lk hret (by simp) (hb hby at_56) (by decide) (by decide) ?_
      rw [e1]
      exact ⟨rfl, N1⟩
    · refine own_ifYes (n := 57) X1 hx (hb hby at_43) (Jvm.Free.XT.i0_ne_t c43) (by decide) (by decide) ?_
      refine own_iload (n := 59) X1 hx (hb hby at_57) rfl rfl ?_
      refine own_i2l (n := 60) X1 hx (hb hby at_59) rfl ?_
      refine own_lstore (n := 62) X1 hx (hb hby at_60) (l' := #[.val (.int p1), .val (.int p2), .val (.int p3), .val (.int c3), .val (.int b4), .val (.int r5), .val (.long (r5.toInt64)), .second, .unset, .unset, .unset, .unset]) rfl rfl ?_
      refine own_iload (n := 64) X1 hx (hb hby at_62) rfl rfl ?_
      refine own_i2l (n := 65) X1 hx (hb hby at_64) rfl ?_
      refine own_lstore (n := 67) X1 hx (hb hby at_65) (l' := #[.val (.int p1), .val (.int p2), .val (.int p3), .val (.int c3), .val (.int b4), .val (.int r5), .val (.long (r5.toInt64)), .second, .val (.long (b4.toInt64)), .second, .unset, .unset]) rfl rfl ?_
      refine own_iloadN (n := 68) X1 hx (hb hby at_67) rfl rfl ?_
      refine own_i2l (n := 69) X1 hx (hb hby at_68) rfl ?_
      refine own_lstore (n := 71) X1 hx (hb hby at_69) (l' := #[.val (.int p1), .val (.int p2), .val (.int p3), .val (.int c3), .val (.int b4), .val (.int r5), .val (.long (r5.toInt64)), .second, .val (.long (b4.toInt64)), .second, .val (.long (c3.toInt64)), .second]) rfl rfl ?_
      refine own_iload (n := 73) X1 hx (hb hby at_71) rfl rfl ?_
      refine own_iconst (n := 74) X1 hx (1 : Int32) (hb hby at_73) rfl rfl ?_
      refine own_icmpNo (n := 77) X1 hx (hb hby at_74) (Jvm.Free.XT.ii_lt_f (hr1 c43)) rfl ?_
      refine own_lload (n := 79) X1 hx (hb hby at_77) rfl rfl ?_
      refine own_lconst (n := 80) X1 hx (1 : Int64) (hb hby at_79) rfl rfl ?_
      refine own_lsub (n := 81) X1 hx (hb hby at_80) rfl ?_
      refine own_lload (n := 83) X1 hx (hb hby at_81) rfl rfl ?_
      refine own_lmul (n := 84) X1 hx (hb hby at_83) rfl ?_
      refine own_lload (n := 86) X1 hx (hb hby at_84) rfl rfl ?_
      refine own_lcmp (n := 87) X1 hx (hb hby at_86) rfl ?_
      refine own_ifNo (n := 90) X1 hx (hb hby at_87) (lw_ge_f (own_prods hq1 hq2 (hr1' c43) hb4).1) rfl ?_
      refine own_lload (n := 92) X1 hx (hb hby at_90) rfl rfl ?_
      refine own_lload (n := 94) X1 hx (hb hby at_92) rfl rfl ?_
      refine own_lmul (n := 95) X1 hx (hb hby at_94) rfl ?_
      refine own_lload (n := 97) X1 hx (hb hby at_95) rfl rfl ?_
      refine own_lcmp (n := 98) X1 hx (hb hby at_97) rfl ?_
      refine own_ifNo (n := 101) X1 hx (hb hby at_98) (lw_lt_f (own_prods hq1 hq2 (hr1' c43) hb4).2) rfl ?_
      refine own_iconst (n := 102) X1 hx (1 : Int32) (hb hby at_101) rfl rfl ?_
      refine own_goto (n := 106) X1 hx (hb hby at_102) (by decide) (by decide) ?_
      refine own_retN X1 hx lk hret (by simp) (hb hby at_106) (by decide) (by decide) ?_
      rw [e1]
      exact ⟨rfl, N1⟩
  have blk26 : ∀ c3 b4 : Int32, 0 ≤ c3.toInt → 0 ≤ b4.toInt → Ends p e below s 0 0 (Q0 Z p1 p2 p3  h0 n0) (s₁.setTop (mkF m 26 #[.val (.int p1), .val (.int p2), .val (.int p3), .val (.int c3), .val (.int b4), .unset, .unset, .unset, .unset, .unset, .unset, .unset] [])) := by
    intro c3 b4 hc hb4
    refine own_iload (n := 28) X0 hx (hb hby at_26) rfl rfl ?_
    by_cases c28 : b4 = 0
    · refine own_ifNo (n := 31) X0 hx (hb hby at_28) (Jvm.Free.XT.i0_ne_f c28) rfl ?_
      refine own_iconst (n := 32) X0 hx (1 : Int32) (hb hby at_31) rfl rfl ?_
      refine own_istore (n := 34) X0 hx (hb hby at_32) (l' := #[.val (.int p1), .val (.int p2), .val (.int p3), .val (.int c3), .val (.int (1 : Int32)), .unset, .unset, .unset, .unset, .unset, .unset, .unset]) rfl rfl ?_
      show Ends p e below s 0 0 (Q0 Z p1 p2 p3  h0 n0) (s₁.setTop (mkF m 34 #[.val (.int p1), .val (.int p2), .val (.int p3), .val (.int c3), .val (.int (1 : Int32)), .unset, .unset, .unset, .unset, .unset, .unset, .unset] []))
      exact blk34 c3 (1 : Int32) hc (by decide)
    · refine own_ifYes (n := 34) X0 hx (hb hby at_28) (Jvm.Free.XT.i0_ne_t c28) (by decide) (by decide) ?_
      show Ends p e below s 0 0 (Q0 Z p1 p2 p3  h0 n0) (s₁.setTop (mkF m 34 #[.val (.int p1), .val (.int p2), .val (.int p3), .val (.int c3), .val (.int b4), .unset, .unset, .unset, .unset, .unset, .unset, .unset] []))
      exact blk34 c3 b4 hc (by have : b4.toInt ≠ 0 := fun q => c28 (Int32.toInt_inj.mp q); omega)
  refine own_iloadN (n := 1) X0 hx (hb hby at_0) rfl rfl ?_
  refine own_ldc (n := 3) X0 hx hZ hown (hw _ (List.mem_of_getElem? (i := 0) rfl)) (hb hby at_1) rfl ?_
  refine own_iand (n := 4) X0 hx (hb hby at_3) rfl ?_
  refine own_istoreN (n := 5) X0 hx (hb hby at_4) (l' := #[.val (.int p1), .val (.int p2), .val (.int p3), .val (.int (p1 &&& (2147483647 : Int32))), .unset, .unset, .unset, .unset, .unset, .unset, .unset, .unset]) rfl rfl ?_
  refine own_iloadN (n := 6) X0 hx (hb hby at_5) rfl rfl ?_
  refine own_ldc (n := 8) X0 hx hZ hown (hw _ (List.mem_of_getElem? (i := 0) rfl)) (hb hby at_6) rfl ?_
  refine own_iand (n := 9) X0 hx (hb hby at_8) rfl ?_
  refine own_istore (n := 11) X0 hx (hb hby at_9) (l' := #[.val (.int p1), .val (.int p2), .val (.int p3), .val (.int (p1 &&& (2147483647 : Int32))), .val (.int (p2 &&& (2147483647 : Int32))), .unset, .unset, .unset, .unset, .unset, .unset, .unset]) rfl rfl ?_
  refine own_iloadN (n := 12) X0 hx (hb hby at_11) rfl rfl ?_
  refine own_iconst (n := 13) X0 hx (1 : Int32) (hb hby at_12) rfl rfl ?_
  refine own_iand (n := 14) X0 hx (hb hby at_13) rfl ?_
  by_cases c14 : (p3 &&& (1 : Int32)) = 0
  · refine own_ifYes (n := 26) X0 hx (hb hby at_14) (Jvm.Free.XT.i0_eq_t c14) (by decide) (by decide) ?_
    show Ends p e below s 0 0 (Q0 Z p1 p2 p3  h0 n0) (s₁.setTop (mkF m 26 #[.val (.int p1), .val (.int p2), .val (.int p3), .val (.int (p1 &&& (2147483647 : Int32))), .val (.int (p2 &&& (2147483647 : Int32))), .unset, .unset, .unset, .unset, .unset, .unset, .unset] []))
    exact blk26 _ _ (own_mask _) (own_mask _)
  · refine own_ifNo (n := 17) X0 hx (hb hby at_14) (Jvm.Free.XT.i0_eq_f c14) rfl ?_
    refine own_iloadN (n := 18) X0 hx (hb hby at_17) rfl rfl ?_
    refine own_sipush (n := 21) X0 hx (255 : Int32) (hb hby at_18) rfl rfl ?_
    refine own_iand (n := 22) X0 hx (hb hby at_21) rfl ?_
    refine own_iconst (n := 23) X0 hx (1 : Int32) (hb hby at_22) rfl rfl ?_
    refine own_iadd (n := 24) X0 hx (hb hby at_23) rfl ?_
    refine own_istore (n := 26) X0 hx (hb hby at_24) (l' := #[.val (.int p1), .val (.int p2), .val (.int p3), .val (.int (p1 &&& (2147483647 : Int32))), .val (.int ((p2 &&& (255 : Int32)) + (1 : Int32))), .unset, .unset, .unset, .unset, .unset, .unset, .unset]) rfl rfl ?_
    show Ends p e below s 0 0 (Q0 Z p1 p2 p3  h0 n0) (s₁.setTop (mkF m 26 #[.val (.int p1), .val (.int p2), .val (.int p3), .val (.int (p1 &&& (2147483647 : Int32))), .val (.int ((p2 &&& (255 : Int32)) + (1 : Int32))), .unset, .unset, .unset, .unset, .unset, .unset, .unset] []))
    exact blk26 _ _ (own_mask _) (by have := own_mask1 p2; have q := c_iadd (p2 &&& 255) 1; have r := rng32 ((p2 &&& 255) + 1); have o : (1 : Int32).toInt = 1 := rfl; omega)
theorem comes_1 {Post : Tables → Env → Array Value → State → Outcome → State → Prop} (hpost : ∀ tb e args s v u, (limb_1_1.after args s (.returned v) u = true ∧ limb_1_2.after args s (.returned v) u = true ∧ True) → FrameEnd s (.returned v) u (Jvm.fieldLocs frame_1_writes args s ++ Jvm.arrayLocs frame_1_arrays args s ++ Jvm.staticLocs frame_1_statics s) 0 0 → Post tb e args s (.returned v) u) :
    ArmFor flags0 classFile x code maxLocals ret World_1 tables_1 room_1 Calls_1 rest_1 Pre_1 Post := by
  intro l hfl _ _ p e ha hc hk s m args below hf hA hF happ hP
  obtain ⟨hcalls, hrest, hpre⟩ := hP
  obtain ⟨-, -, -, hnamed, -, -, -, hat⟩ := (Spec.applies_iff hf).mp happ
  obtain ⟨hg, hn⟩ := and_e (Cond.before_iff.mp (show (Jvm.Cond.and given_1 narrow_1).before args s = true from hpre))
  obtain ⟨hcount, hg0⟩ := and_e hg
  obtain ⟨hi0, hg1⟩ := and_e hg0
  obtain ⟨hi1, hg2⟩ := and_e hg1
  obtain ⟨w0, w1, w2, rfl⟩ : ∃ w0 w1 w2 : Value, args = #[w0, w1, w2] := by
    have hs : args.size = 3 := by simpa [Cond.value, given_1] using hcount
    obtain ⟨L⟩ := args
    match L, hs with
    | [w0, w1, w2], _ => exact ⟨w0, w1, w2, rfl⟩
  have hw := fun d (hd : d ∈ tables_1) => atoms_spec (ws := Jvm.Cond.code x code maxLocals ret :: tables_1) hat d (List.mem_cons_of_mem _ hd)
  have hfit : Fit s := fun {y c} hc i hi => by
    obtain ⟨ha, rfl⟩ := Array.getElem?_eq_some_iff.mp hc
    have q := List.all_eq_true.mp ((Array.all_eq_true_iff_forall_mem.mp hF) _ (Array.getElem_mem ha)) i (List.mem_range.mpr hi)
    simpa [Array.getElem?_eq_getElem hi] using q
  obtain ⟨i0, j0⟩ := is_v hi0
  obtain rfl : w0 = (.int i0) := Option.some.inj j0
  obtain ⟨i1, j1⟩ := is_v hi1
  obtain rfl : w1 = (.int i1) := Option.some.inj j1
  obtain ⟨i2, j2⟩ := is_v hg2
  obtain rfl : w2 = (.int i2) := Option.some.inj j2
  obtain ⟨n, o, h1, h2, h3, _, L, rfl, ⟨rfl, N⟩, hq⟩ := rm0 l s _ hw tables_1 i0 i1 i2  s.heap s.heap.size (Nat.le_refl _)  p e ha hc hk s m _ below hf ((Spec.applies_iff_loose hf).mp happ).1 ⟨rfl, State.Warmed39.refl s, rfl⟩ trivial
  refine ⟨n, _, h1, h2, h3, hpost _ _ _ _ _ _ ⟨Cond.after_iff.mpr rfl, Cond.after_iff.mpr (eq_i res_at (Term.int_eval (1)) rfl), trivial⟩ ⟨hq.1, hq.2.1, (hq.2.2.sift fun y hy => Or.inr (N y hy)).mono (by decide) (by decide)⟩⟩
theorem main_1_1 : Claimed_1_1 := comes_1 fun _ _ _ _ _ _ h hF => ⟨h.1, hF⟩
theorem main_1_2 : Claimed_1_2 := comes_1 fun _ _ _ _ _ _ h hF => ⟨h.2.1, hF⟩
end Jvm.Pilot.@@N@@
namespace Jvm.Pilot.@@N@@
open Jvm Jvm.ClassFile Sem Op Lib Jvm.Free Jvm.Stand Jvm.Pilot.@@N@@.Jvm.D
/-! MADE BY PROGRAM (witnessworld.py) out of the Statement's table words and the real class files: 9 classes; the members and pool entries that the words name. The judged class is class 1, her method 1. -/
namespace start1
open Jvm.ClassFile
def u (s : String) : CpInfo := .utf8 (stringToUtf16 s)
/-- a pool by its gaps: so many unusable entries, then the entry; so many at the end -/
def gap : Nat → List CpInfo → List CpInfo
  | 0, r => r
  | n + 1, r => .unusable :: gap n r
def poolList (es : List (Nat × CpInfo)) (last : Nat) : List CpInfo := es.foldr (fun e r => gap e.1 (e.2 :: r)) (gap last [])
def pool (es : List (Nat × CpInfo)) (last : Nat) : Array CpInfo := ⟨poolList es last⟩
def fileOf (pool : Array CpInfo) (this : Nat) (attrs : Array Attribute := #[]) (ms : Array MethodInfo := #[]) (fl : Nat := 33) (sup : Nat := 0) (ifs : Array Nat := #[]) (fds : Array FieldInfo := #[]) : ClassFile where
  minorVersion := 0
  majorVersion := 65
  constantPool := pool
  accessFlags := fl
  thisClass := this
  superClass := sup
  interfaces := ifs
  fields := fds
  methods := ms
  attributes := attrs
def plain (name : String) (sup : Option ClassId) : Class where
  name := name
  kind := .ordinary
  loader := none
  accessFlags := 33
  super := sup
  interfaces := #[]
  cf := none
  fields := #[]
  methods := #[]
  instanceTypes := #[]
  staticTypes := #[]
  resolved := #[]
  callSites := []
  init := .initialized
  statics := none
  mirror := none

def pool0 : Array CpInfo := pool [(5, u "<init>"), (0, u "()V"), (1, .class_ 10), (1, u "java/lang/Object")] 113

def k0m0 : Method := { name := "<init>", desc := "()V", sig := { parameters := [], returnType := none }, accessFlags := 1, code := none }
/-- java/lang/Object -/
def k0 : Class := { plain "java/lang/Object" none with
  accessFlags := 33
  interfaces := #[]
  cf := some (fileOf pool0 8 #[] #[{ accessFlags := 1, nameIndex := 5, descriptorIndex := 6, attributes := #[] }] 33 0 #[] #[])
  fields := #[]
  methods := #[k0m0]
  instanceTypes := #[]
  staticTypes := #[]
  resolved := Array.replicate 124 none
  statics := none }

def pool1 : Array CpInfo := pool [(2, .class_ 4), (1, u "java/lang/Object"), (0, u "<init>"), (0, u "()V"), (0, .integer 2147483647), (0, .methodref 9 10), (0, .class_ 11), (0, .nameAndType 12 13), (0, u "com/example/vernier_search/verniersearch/index/SegmentFormat"), (0, u "blockCount"), (0, u "(II)I"), (0, .class_ 15), (0, u "com/example/vernier_search/verniersearch/index/SegmentFormatBlockCountPinLaw"), (2, u "law"), (0, u "(III)Z")] 3

def k1m0 : Method := { name := "<init>", desc := "()V", sig := { parameters := [], returnType := none }, accessFlags := 2, code := none }
def k1c1 : Code := { maxStack := 4, maxLocals := 12, code := code, exceptionTable := #[], attributes := #[] }
def k1m1 : Method := { name := "law", desc := "(III)Z", sig := { parameters := [.int, .int, .int], returnType := some .boolean }, accessFlags := 9, code := some k1c1 }
/-- com/example/vernier_search/verniersearch/index/SegmentFormatBlockCountPinLaw -/
def k1 : Class := { plain "com/example/vernier_search/verniersearch/index/SegmentFormatBlockCountPinLaw" (some 0) with
  accessFlags := 49
  interfaces := #[]
  cf := some (fileOf pool1 14 #[] #[{ accessFlags := 2, nameIndex := 5, descriptorIndex := 6, attributes := #[] }, { accessFlags := 9, nameIndex := 18, descriptorIndex := 19, attributes := #[] }] 49 2 #[] #[])
  fields := #[]
  methods := #[k1m0, k1m1]
  instanceTypes := #[]
  staticTypes := #[]
  resolved := Array.replicate 23 none
  statics := none }

def pool2 : Array CpInfo := pool [(2, .class_ 4), (1, u "java/lang/Object"), (0, u "<init>"), (0, u "()V"), (5, .class_ 14), (1, u "com/example/vernier_search/verniersearch/index/SegmentFormat"), (0, u "FILE_NAME"), (0, u "Ljava/util/regex/Pattern;"), (13, .class_ 32), (1, u "com/example/vernier_search/verniersearch/index/SegmentFormat$Section"), (4, u "FOOTER_LENGTH"), (0, u "I"), (6, u "MAGIC"), (2, u "VERSION"), (1, u "HEADER_LENGTH"), (1, u "BLOCK_SIZE"), (1, u "ID_BLOCK_SIZE"), (1, u "LENGTH_BLOCK_SIZE"), (0, u "TERM_BLOCK_SIZE"), (3, u "blockCount"), (0, u "(II)I")] 22

def k2m0 : Method := { name := "<init>", desc := "()V", sig := { parameters := [], returnType := none }, accessFlags := 2, code := none }
def k2c1 : Code := { maxStack := 4, maxLocals := 2, code := prog_48_method_3_code, exceptionTable := #[], attributes := #[] }
def k2m1 : Method := { name := "blockCount", desc := "(II)I", sig := { parameters := [.int, .int], returnType := some .int }, accessFlags := 8, code := some k2c1 }
/-- com/example/vernier_search/verniersearch/index/SegmentFormat -/
def k2 : Class := { plain "com/example/vernier_search/verniersearch/index/SegmentFormat" (some 0) with
  accessFlags := 32
  interfaces := #[]
  cf := some (fileOf pool2 12 #[.nestMembers #[30]] #[{ accessFlags := 2, nameIndex := 5, descriptorIndex := 6, attributes := #[] }, { accessFlags := 8, nameIndex := 61, descriptorIndex := 62, attributes := #[] }] 32 2 #[] #[{ accessFlags := 24, nameIndex := 45, descriptorIndex := 38, attributes := #[] }, { accessFlags := 24, nameIndex := 48, descriptorIndex := 38, attributes := #[] }, { accessFlags := 24, nameIndex := 50, descriptorIndex := 38, attributes := #[] }, { accessFlags := 24, nameIndex := 37, descriptorIndex := 38, attributes := #[] }, { accessFlags := 24, nameIndex := 52, descriptorIndex := 38, attributes := #[] }, { accessFlags := 24, nameIndex := 54, descriptorIndex := 38, attributes := #[] }, { accessFlags := 24, nameIndex := 56, descriptorIndex := 38, attributes := #[] }, { accessFlags := 24, nameIndex := 57, descriptorIndex := 38, attributes := #[] }, { accessFlags := 26, nameIndex := 15, descriptorIndex := 16, attributes := #[] }])
  fields := #[{ name := "MAGIC", type := .int, accessFlags := 24, slot := 0, constantValue := 0 }, { name := "VERSION", type := .int, accessFlags := 24, slot := 1, constantValue := 0 }, { name := "HEADER_LENGTH", type := .int, accessFlags := 24, slot := 2, constantValue := 0 }, { name := "FOOTER_LENGTH", type := .int, accessFlags := 24, slot := 3, constantValue := 0 }, { name := "BLOCK_SIZE", type := .int, accessFlags := 24, slot := 4, constantValue := 0 }, { name := "ID_BLOCK_SIZE", type := .int, accessFlags := 24, slot := 5, constantValue := 0 }, { name := "LENGTH_BLOCK_SIZE", type := .int, accessFlags := 24, slot := 6, constantValue := 0 }, { name := "TERM_BLOCK_SIZE", type := .int, accessFlags := 24, slot := 7, constantValue := 0 }, { name := "FILE_NAME", type := (.object "java/util/regex/Pattern"), accessFlags := 26, slot := 8, constantValue := 0 }]
  methods := #[k2m0, k2m1]
  instanceTypes := #[]
  staticTypes := #[.int, .int, .int, .int, .int, .int, .int, .int, (.object "java/util/regex/Pattern")]
  resolved := Array.replicate 85 none
  statics := none }

def pool3 : Array CpInfo := pool [(1, u "java/lang/Cloneable"), (0, .class_ 1), (0, u "java/lang/Object"), (0, .class_ 3)] 3

/-- java/lang/Cloneable -/
def k3 : Class := { plain "java/lang/Cloneable" (some 0) with
  accessFlags := 1537
  interfaces := #[]
  cf := some (fileOf pool3 2 #[] #[] 1537 4 #[] #[])
  fields := #[]
  methods := #[]
  instanceTypes := #[]
  staticTypes := #[]
  resolved := Array.replicate 8 none
  statics := none }

def pool4 : Array CpInfo := pool [(1, u "java/io/Serializable"), (0, .class_ 1), (0, u "java/lang/Object"), (0, .class_ 3)] 3

/-- java/io/Serializable -/
def k4 : Class := { plain "java/io/Serializable" (some 0) with
  accessFlags := 1537
  interfaces := #[]
  cf := some (fileOf pool4 2 #[] #[] 1537 4 #[] #[])
  fields := #[]
  methods := #[]
  instanceTypes := #[]
  staticTypes := #[]
  resolved := Array.replicate 8 none
  statics := none }

/-- the primitive byte -/
def k5 : Class := { plain "byte" none with kind := .primitive 'B', accessFlags := 0x411 }
/-- [B -/
def k6 : Class := { plain "[B" (some 0) with kind := .array 5 .byte, interfaces := #[3, 4], accessFlags := 1041 }

/-- the primitive int -/
def k7 : Class := { plain "int" none with kind := .primitive 'I', accessFlags := 0x411 }
/-- [I -/
def k8 : Class := { plain "[I" (some 0) with kind := .array 7 .int, interfaces := #[3, 4], accessFlags := 1041 }

def heap : Heap := #[]
def classes : Array Class := #[k0, k1, k2, k3, k4, k5, k6, k7, k8]
def interned : List (Array UInt16 × Addr) := []
def slotsUsed : Nat := 0
def theMethod : MethodId := ⟨1, 1⟩
def args0 : Array Value := #[.int 5, .int 300, .int 7]
def aboutOver (below : List Frame) : State where
  vm := { classes := classes, interned := interned.toArray }
  heap := heap
  slotsUsed := slotsUsed
  threads := #[{ frames := .invoking theMethod args0 :: below }]
def below0 : List Frame := [.native { method := ⟨0, 0⟩, args := #[] }]
def about1 : State := aboutOver below0
def p0 : Program := .bare "" "" ""
def e0 : Env := launch0.env 0 0 0
theorem w_frames : about1.frames = Frame.invoking theMethod args0 :: below0 := rfl
set_option maxRecDepth 65536 in
theorem w_args : argsFit about1.vm theMethod args0 = true := by decide +kernel
set_option maxRecDepth 65536 in
theorem w_heap : heapFits about1 = true := by decide +kernel
set_option maxRecDepth 65536 in
theorem w_runnable : about1.curStatus? = some .runnable := by decide +kernel
set_option maxRecDepth 65536 in
theorem w_alone : about1.alone = true := by decide +kernel
set_option maxRecDepth 65536 in
theorem w_named : about1.methodNamed? x = some theMethod := by decide +kernel
set_option maxRecDepth 65536 in
theorem w_hears : about1.hears theMethod below0 = true := by decide +kernel
set_option maxRecDepth 65536 in
theorem w_ripe : about1.ripe theMethod args0 below0 = true := by decide +kernel
theorem w_running : about1.status = .running := rfl
set_option maxRecDepth 65536 in
theorem w_room : about1.hasRoom e0.platform room_1 = true :=
  launch0.hasRoom_least _ room_1 (by decide +kernel) (by decide +kernel) (by decide +kernel) (by decide +kernel) (by decide +kernel) (by decide +kernel)
theorem allAtoms_all (ts : List Jvm.Cond) (a : Array Jvm.Value) (st : Jvm.State) : (allAtoms ts).before a st = ts.all (fun c => c.before a st) := by
  induction ts with
  | nil => rfl
  | cons c t ih =>
    show (Jvm.Cond.and c (allAtoms t)).before a st = _
    rw [Jvm.Cond.before_and, ih, List.all_cons]
def words1 : List Jvm.Cond := Jvm.Cond.code x code maxLocals ret :: tables_1
/-- a 'code' word, met by the world's own term for the bytes: nothing is compared byte by byte -/
theorem code_word {y : MethodName} {bytes : ByteArray} {mx : Nat} {rt : Option FieldType} {a : Array Value} {s : State} {m : MethodId} {meth : Method} {c : Code} (h1 : s.methodNamed? y = some m) (h2 : s.vm.method? m = some meth) (h3 : meth.code = some c) (h4 : c.code = bytes)
    (h5 : (c.maxLocals == mx && c.exceptionTable.isEmpty && decide (c.maxStack ≤ mostOperands) && decide (meth.sig.returnType = rt) && !meth.locks && decide (parseMethodDescriptor y.desc = some meth.sig)) = true) : (Jvm.Cond.code y bytes mx rt).before a s = true := by
  simp only [Bool.and_eq_true, beq_iff_eq, Bool.not_eq_true', decide_eq_true_eq] at h5
  obtain ⟨⟨⟨⟨⟨g1, g2⟩, g3⟩, g4⟩, g5⟩, g6⟩ := h5
  simp [Cond.before, Cond.holds, Cond.value, h1, h2, h3, h4, g1, g2, g3, g4, g5, g6]
def isCode : Jvm.Cond → Bool
  | .code _ _ _ _ => true
  | _ => false
theorem all_split {L : List Jvm.Cond} {P : Jvm.Cond → Bool} (h1 : L.all (fun c => isCode c || P c) = true) (h2 : ∀ c ∈ L.filter isCode, P c = true) : L.all P = true := by
  refine List.all_eq_true.mpr fun c hc => ?_
  have h := List.all_eq_true.mp h1 c hc
  rcases Bool.eq_false_or_eq_true (isCode c) with hi | hi
  · exact h2 c (List.mem_filter.mpr ⟨hc, hi⟩)
  · simpa [hi] using h
set_option maxRecDepth 65536 in
theorem w_c0 : (Jvm.Cond.code x code maxLocals ret).before args0 about1 = true := code_word (m := ⟨1, 1⟩) (meth := k1m1) (c := k1c1) (by decide +kernel) rfl rfl rfl (by decide +kernel)
set_option maxRecDepth 65536 in
theorem w_c1 : (Jvm.Cond.code ({ cls := "com/example/vernier_search/verniersearch/index/SegmentFormat", name := "blockCount", desc := "(II)I" } : Jvm.MethodName) prog_48_method_3_code (2 : Nat) (Option.some Jvm.ClassFile.FieldType.int)).before args0 about1 = true := code_word (m := ⟨2, 1⟩) (meth := k2m1) (c := k2c1) (by decide +kernel) rfl rfl rfl (by decide +kernel)
def codes1 : List Jvm.Cond := [Jvm.Cond.code x code maxLocals ret, Jvm.Cond.code ({ cls := "com/example/vernier_search/verniersearch/index/SegmentFormat", name := "blockCount", desc := "(II)I" } : Jvm.MethodName) prog_48_method_3_code (2 : Nat) (Option.some Jvm.ClassFile.FieldType.int)]
set_option maxRecDepth 65536 in
theorem codes_eq : words1.filter isCode = codes1 := rfl
theorem w_codes : ∀ c ∈ words1.filter isCode, c.before args0 about1 = true := by
  rw [codes_eq]
  intro c hc
  simp only [codes1, List.mem_cons, List.not_mem_nil, or_false] at hc
  rcases hc with rfl | rfl
  · exact w_c0
  · exact w_c1
set_option maxRecDepth 65536 in
theorem w_t1 : words1.all (fun c => isCode c || c.before args0 about1) = true := by decide +kernel
theorem w_tables : (allAtoms (Jvm.Cond.code x code maxLocals ret :: tables_1)).before args0 about1 = true := by
  rw [allAtoms_all]
  show words1.all (fun c => c.before args0 about1) = true
  refine all_split ?_ w_codes
  rw [w_t1]
set_option maxRecDepth 65536 in
theorem w_case : (Jvm.Cond.and given_1 narrow_1).before args0 about1 = true := by decide +kernel
theorem w_applies : (headSpec (Jvm.Cond.code x code maxLocals ret :: tables_1) room_1).applies x e0.platform about1 = true :=
  (Spec.applies_iff w_frames).mpr ⟨w_running, w_runnable, w_alone, w_named, w_hears, w_ripe, w_room, w_tables⟩
theorem atStart : AtStart classFile x code maxLocals ret World_1 tables_1 room_1 Calls_1 rest_1 Pre_1 launch0 p0 e0 about1 theMethod args0 below0 :=
  ⟨lists_1, trivial, launch0.admits_env _ _ _, launch0.least_env, fairChoices_fair.cas, fairChoices_fair.clock, w_frames, w_args, w_heap, w_applies, trivial, trivial, w_case⟩
end start1
theorem witness_1 : WitnessClaimed_1 := ⟨start1.p0, start1.e0, start1.about1, start1.theMethod, start1.args0, start1.below0, start1.atStart⟩
end Jvm.Pilot.@@N@@
