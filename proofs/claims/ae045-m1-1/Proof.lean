import JvmDerived
import JvmDerived.Pilot.@@N@@Statement
import JvmDerived.Pilot.@@N@@Code
set_option linter.unusedVariables false
set_option linter.unusedSimpArgs false
set_option maxRecDepth 65536
set_option maxHeartbeats 4000000
namespace Jvm.Pilot.@@N@@
open Jvm Jvm.ClassFile Sem Op Lib Jvm.Free Jvm.Stand Jvm.LawKit Jvm.RoadKit Bundle Jvm.Pilot.@@N@@.Jvm.D
section Own
variable {p : Program} {l : Launch} {e : Env} {R : Room} {s : State} {m : MethodId} {args : Array Value} {below : List Frame} {meth : Method} {c : Code} {T : State} {locs : List Loc} {cells slots : Nat} {K J : Nat} {Q : Option Value → Heap → List Loc → Prop} {Z : State} {a0 : Array Value} {h : Heap}
/-- from U the run comes to its end, and what it leaves is Q's -/
def Ends (p : Program) (e : Env) (below : List Frame) (s : State) (K J : Nat) (Q : Option Value → Heap → List Loc → Prop) (U : State) : Prop :=
  ∃ s₂ o, Steps p.tables e below U s₂ ∧ s₂.status = .running ∧ Ended s₂ below o ∧ ∃ v L, o = .returned v ∧ Q v s₂.heap L ∧ FrameEnd s o s₂ L K J
theorem Ends.via {A B : State} (h : ∀ t, Steps p.tables e below A t → Steps p.tables e below B t) (k : Ends p e below s K J Q A) : Ends p e below s K J Q B := by
  obtain ⟨s2, o, h1, h2⟩ := k
  exact ⟨s2, o, h _ h1, h2⟩
theorem Ends.tr {A B : State} (h : Steps p.tables e below B A) (k : Ends p e below s K J Q A) : Ends p e below s K J Q B := by
  obtain ⟨s2, o, h1, h2⟩ := k
  exact ⟨s2, o, h.trans h1, h2⟩
theorem Ends.cast {g g' : JFrame} (q : g = g') (k : Ends p e below s K J Q (T.setTop g')) : Ends p e below s K J Q (T.setTop g) := q ▸ k
theorem own_isub (X : Stand p l e R s m args below meth c T locs cells slots) (hx : p.tables.exec = Jvm.exec) {pc n : Nat} {Ls : Array Slot} {st : List Value} {x y : Int32} (hd : decode c.code pc = .ok (.isub, 1))  (hn : pc + 1 = n) (k : Ends p e below s K J Q (T.setTop (mkF m n Ls (.int (x - y) :: st)))) : Ends p e below s K J Q (T.setTop (mkF m pc Ls (.int y :: .int x :: st))) := by
  subst hn
  exact Ends.via (fun t h => XS.isub X.here hx rfl hd rfl h) k
theorem own_iand (X : Stand p l e R s m args below meth c T locs cells slots) (hx : p.tables.exec = Jvm.exec) {pc n : Nat} {Ls : Array Slot} {st : List Value} {x y : Int32} (hd : decode c.code pc = .ok (.iand, 1))  (hn : pc + 1 = n) (k : Ends p e below s K J Q (T.setTop (mkF m n Ls (.int (x &&& y) :: st)))) : Ends p e below s K J Q (T.setTop (mkF m pc Ls (.int y :: .int x :: st))) := by
  subst hn
  exact Ends.via (fun t h => XS.iand X.here hx rfl hd rfl h) k
theorem own_lsub (X : Stand p l e R s m args below meth c T locs cells slots) (hx : p.tables.exec = Jvm.exec) {pc n : Nat} {Ls : Array Slot} {st : List Value} {x y : Int64} (hd : decode c.code pc = .ok (.lsub, 1))  (hn : pc + 1 = n) (k : Ends p e below s K J Q (T.setTop (mkF m n Ls (.long (x - y) :: st)))) : Ends p e below s K J Q (T.setTop (mkF m pc Ls (.long y :: .long x :: st))) := by
  subst hn
  exact Ends.via (fun t h => XS.lsub X.here hx rfl hd rfl h) k
theorem own_lmul (X : Stand p l e R s m args below meth c T locs cells slots) (hx : p.tables.exec = Jvm.exec) {pc n : Nat} {Ls : Array Slot} {st : List Value} {x y : Int64} (hd : decode c.code pc = .ok (.lmul, 1))  (hn : pc + 1 = n) (k : Ends p e below s K J Q (T.setTop (mkF m n Ls (.long (x * y) :: st)))) : Ends p e below s K J Q (T.setTop (mkF m pc Ls (.long y :: .long x :: st))) := by
  subst hn
  exact Ends.via (fun t h => XS.lmul X.here hx rfl hd rfl h) k
theorem own_land (X : Stand p l e R s m args below meth c T locs cells slots) (hx : p.tables.exec = Jvm.exec) {pc n : Nat} {Ls : Array Slot} {st : List Value} {x y : Int64} (hd : decode c.code pc = .ok (.land, 1))  (hn : pc + 1 = n) (k : Ends p e below s K J Q (T.setTop (mkF m n Ls (.long (x &&& y) :: st)))) : Ends p e below s K J Q (T.setTop (mkF m pc Ls (.long y :: .long x :: st))) := by
  subst hn
  exact Ends.via (fun t h => XS.land X.here hx rfl hd rfl h) k
theorem own_ishl (X : Stand p l e R s m args below meth c T locs cells slots) (hx : p.tables.exec = Jvm.exec) {pc n : Nat} {Ls : Array Slot} {st : List Value} {x y : Int32} (hd : decode c.code pc = .ok (.ishl, 1))  (hn : pc + 1 = n) (k : Ends p e below s K J Q (T.setTop (mkF m n Ls (.int (x <<< (y &&& 31)) :: st)))) : Ends p e below s K J Q (T.setTop (mkF m pc Ls (.int y :: .int x :: st))) := by
  subst hn
  exact Ends.via (fun t h => XS.ishl X.here hx rfl hd rfl h) k
theorem own_ishr (X : Stand p l e R s m args below meth c T locs cells slots) (hx : p.tables.exec = Jvm.exec) {pc n : Nat} {Ls : Array Slot} {st : List Value} {x y : Int32} (hd : decode c.code pc = .ok (.ishr, 1))  (hn : pc + 1 = n) (k : Ends p e below s K J Q (T.setTop (mkF m n Ls (.int (x >>> (y &&& 31)) :: st)))) : Ends p e below s K J Q (T.setTop (mkF m pc Ls (.int y :: .int x :: st))) := by
  subst hn
  exact Ends.via (fun t h => XS.ishr X.here hx rfl hd rfl h) k
theorem own_ldiv (X : Stand p l e R s m args below meth c T locs cells slots) (hx : p.tables.exec = Jvm.exec) {pc n : Nat} {Ls : Array Slot} {st : List Value} {x y : Int64} (hd : decode c.code pc = .ok (.ldiv, 1)) (hy : y ≠ 0) (hn : pc + 1 = n) (k : Ends p e below s K J Q (T.setTop (mkF m n Ls (.long (x / y) :: st)))) : Ends p e below s K J Q (T.setTop (mkF m pc Ls (.long y :: .long x :: st))) := by
  subst hn
  exact Ends.via (fun t h => XS.ldiv X.here hx rfl hd rfl hy h) k
theorem own_irem (X : Stand p l e R s m args below meth c T locs cells slots) (hx : p.tables.exec = Jvm.exec) {pc n : Nat} {Ls : Array Slot} {st : List Value} {x y : Int32} (hd : decode c.code pc = .ok (.irem, 1)) (hy : y ≠ 0) (hn : pc + 1 = n) (k : Ends p e below s K J Q (T.setTop (mkF m n Ls (.int (x % y) :: st)))) : Ends p e below s K J Q (T.setTop (mkF m pc Ls (.int y :: .int x :: st))) := by
  subst hn
  exact Ends.via (fun t h => iremM X hx rfl hd rfl hy h) k
theorem own_lneg (X : Stand p l e R s m args below meth c T locs cells slots) (hx : p.tables.exec = Jvm.exec) {pc n : Nat} {Ls : Array Slot} {st : List Value} {x : Int64} (hd : decode c.code pc = .ok (.lneg, 1))  (hn : pc + 1 = n) (k : Ends p e below s K J Q (T.setTop (mkF m n Ls (.long (-x) :: st)))) : Ends p e below s K J Q (T.setTop (mkF m pc Ls (.long x :: st))) := by
  subst hn
  exact Ends.via (fun t h => XS.lneg X.here hx rfl hd rfl h) k
theorem own_i2l (X : Stand p l e R s m args below meth c T locs cells slots) (hx : p.tables.exec = Jvm.exec) {pc n : Nat} {Ls : Array Slot} {st : List Value} {x : Int32} (hd : decode c.code pc = .ok (.i2l, 1))  (hn : pc + 1 = n) (k : Ends p e below s K J Q (T.setTop (mkF m n Ls (.long x.toInt64 :: st)))) : Ends p e below s K J Q (T.setTop (mkF m pc Ls (.int x :: st))) := by
  subst hn
  exact Ends.via (fun t h => XS.i2l X.here hx rfl hd rfl h) k
theorem own_lcmp (X : Stand p l e R s m args below meth c T locs cells slots) (hx : p.tables.exec = Jvm.exec) {pc n : Nat} {Ls : Array Slot} {st : List Value} {x y : Int64} (hd : decode c.code pc = .ok (.lcmp, 1))  (hn : pc + 1 = n) (k : Ends p e below s K J Q (T.setTop (mkF m n Ls (.int (lcmpW x y) :: st)))) : Ends p e below s K J Q (T.setTop (mkF m pc Ls (.long y :: .long x :: st))) := by
  subst hn
  exact Ends.via (fun t h => XS.lcmp X.here hx rfl hd rfl h) k
theorem own_iconst (X : Stand p l e R s m args below meth c T locs cells slots) (hx : p.tables.exec = Jvm.exec) {pc n : Nat} {Ls : Array Slot} {st : List Value} {i : Int} (v : Int32) (hd : decode c.code pc = .ok (.iconst i, 1)) (hv : Int32.ofInt i = v) (hn : pc + 1 = n) (k : Ends p e below s K J Q (T.setTop (mkF m n Ls (.int v :: st)))) : Ends p e below s K J Q (T.setTop (mkF m pc Ls st)) := by
  subst hn hv
  exact Ends.via (fun t h => XS.iconst X.here hx rfl hd h) k
theorem own_bipush (X : Stand p l e R s m args below meth c T locs cells slots) (hx : p.tables.exec = Jvm.exec) {pc n : Nat} {Ls : Array Slot} {st : List Value} {i : Int} (v : Int32) (hd : decode c.code pc = .ok (.bipush i, 2)) (hv : (Int8.ofInt i).toInt32 = v) (hn : pc + 2 = n) (k : Ends p e below s K J Q (T.setTop (mkF m n Ls (.int v :: st)))) : Ends p e below s K J Q (T.setTop (mkF m pc Ls st)) := by
  subst hn hv
  exact Ends.via (fun t h => XS.bipush X.here hx rfl hd h) k
theorem own_sipush (X : Stand p l e R s m args below meth c T locs cells slots) (hx : p.tables.exec = Jvm.exec) {pc n : Nat} {Ls : Array Slot} {st : List Value} {i : Int} (v : Int32) (hd : decode c.code pc = .ok (.sipush i, 3)) (hv : (Int16.ofInt i).toInt32 = v) (hn : pc + 3 = n) (k : Ends p e below s K J Q (T.setTop (mkF m n Ls (.int v :: st)))) : Ends p e below s K J Q (T.setTop (mkF m pc Ls st)) := by
  subst hn hv
  exact Ends.via (fun t h => XS.sipush X.here hx rfl hd h) k
theorem own_iload (X : Stand p l e R s m args below meth c T locs cells slots) (hx : p.tables.exec = Jvm.exec) {pc n : Nat} {Ls : Array Slot} {st : List Value} {i : Nat} {v : Int32} (hd : decode c.code pc = .ok (.iload i, 2)) (hl : Ls[i]? = some (.val (.int v))) (hn : pc + 2 = n) (k : Ends p e below s K J Q (T.setTop (mkF m n Ls (.int v :: st)))) : Ends p e below s K J Q (T.setTop (mkF m pc Ls (st))) := by
  subst hn
  exact Ends.via (fun t h => XS.iload X.here hx rfl hd hl h) k
theorem own_iloadN (X : Stand p l e R s m args below meth c T locs cells slots) (hx : p.tables.exec = Jvm.exec) {pc n : Nat} {Ls : Array Slot} {st : List Value} {i : Fin 4} {v : Int32} (hd : decode c.code pc = .ok (.iload_n i, 1)) (hl : Ls[i.val]? = some (.val (.int v))) (hn : pc + 1 = n) (k : Ends p e below s K J Q (T.setTop (mkF m n Ls (.int v :: st)))) : Ends p e below s K J Q (T.setTop (mkF m pc Ls (st))) := by
  subst hn
  exact Ends.via (fun t h => XS.iloadN X.here hx rfl hd hl h) k
theorem own_istore (X : Stand p l e R s m args below meth c T locs cells slots) (hx : p.tables.exec = Jvm.exec) {pc n : Nat} {Ls : Array Slot} {st : List Value} {i : Nat} {v : Int32} {l' : Array Slot} (hd : decode c.code pc = .ok (.istore i, 2)) (hl : storeLocals Ls i (.int v) = some l') (hn : pc + 2 = n) (k : Ends p e below s K J Q (T.setTop (mkF m n l' (st)))) : Ends p e below s K J Q (T.setTop (mkF m pc Ls (.int v :: st))) := by
  subst hn
  exact Ends.via (fun t h => XS.istore X.here hx rfl hd rfl hl h) k
theorem own_istoreN (X : Stand p l e R s m args below meth c T locs cells slots) (hx : p.tables.exec = Jvm.exec) {pc n : Nat} {Ls : Array Slot} {st : List Value} {i : Fin 4} {v : Int32} {l' : Array Slot} (hd : decode c.code pc = .ok (.istore_n i, 1)) (hl : storeLocals Ls i.val (.int v) = some l') (hn : pc + 1 = n) (k : Ends p e below s K J Q (T.setTop (mkF m n l' (st)))) : Ends p e below s K J Q (T.setTop (mkF m pc Ls (.int v :: st))) := by
  subst hn
  exact Ends.via (fun t h => XS.istoreN X.here hx rfl hd rfl hl h) k
theorem own_lload (X : Stand p l e R s m args below meth c T locs cells slots) (hx : p.tables.exec = Jvm.exec) {pc n : Nat} {Ls : Array Slot} {st : List Value} {i : Nat} {v : Int64} (hd : decode c.code pc = .ok (.lload i, 2)) (hl : Ls[i]? = some (.val (.long v))) (hn : pc + 2 = n) (k : Ends p e below s K J Q (T.setTop (mkF m n Ls (.long v :: st)))) : Ends p e below s K J Q (T.setTop (mkF m pc Ls (st))) := by
  subst hn
  exact Ends.via (fun t h => XS.lload X.here hx rfl hd hl h) k
theorem own_lloadN (X : Stand p l e R s m args below meth c T locs cells slots) (hx : p.tables.exec = Jvm.exec) {pc n : Nat} {Ls : Array Slot} {st : List Value} {i : Fin 4} {v : Int64} (hd : decode c.code pc = .ok (.lload_n i, 1)) (hl : Ls[i.val]? = some (.val (.long v))) (hn : pc + 1 = n) (k : Ends p e below s K J Q (T.setTop (mkF m n Ls (.long v :: st)))) : Ends p e below s K J Q (T.setTop (mkF m pc Ls (st))) := by
  subst hn
  exact Ends.via (fun t h => XS.lloadN X.here hx rfl hd hl h) k
theorem own_lstore (X : Stand p l e R s m args below meth c T locs cells slots) (hx : p.tables.exec = Jvm.exec) {pc n : Nat} {Ls : Array Slot} {st : List Value} {i : Nat} {v : Int64} {l' : Array Slot} (hd : decode c.code pc = .ok (.lstore i, 2)) (hl : storeLocals Ls i (.long v) = some l') (hn : pc + 2 = n) (k : Ends p e below s K J Q (T.setTop (mkF m n l' (st)))) : Ends p e below s K J Q (T.setTop (mkF m pc Ls (.long v :: st))) := by
  subst hn
  exact Ends.via (fun t h => XS.lstore X.here hx rfl hd rfl hl h) k
theorem own_lstoreN (X : Stand p l e R s m args below meth c T locs cells slots) (hx : p.tables.exec = Jvm.exec) {pc n : Nat} {Ls : Array Slot} {st : List Value} {i : Fin 4} {v : Int64} {l' : Array Slot} (hd : decode c.code pc = .ok (.lstore_n i, 1)) (hl : storeLocals Ls i.val (.long v) = some l') (hn : pc + 1 = n) (k : Ends p e below s K J Q (T.setTop (mkF m n l' (st)))) : Ends p e below s K J Q (T.setTop (mkF m pc Ls (.long v :: st))) := by
  subst hn
  exact Ends.via (fun t h => XS.lstoreN X.here hx rfl hd rfl hl h) k
theorem own_goto (X : Stand p l e R s m args below meth c T locs cells slots) (hx : p.tables.exec = Jvm.exec) {pc n : Nat} {Ls : Array Slot} {st : List Value} {o : Int} (hd : decode c.code pc = .ok (.goto o, 3)) (ho : 0 ≤ (pc : Int) + o) (hp : ((pc : Int) + o).toNat = n) (k : Ends p e below s K J Q (T.setTop (mkF m n Ls st))) : Ends p e below s K J Q (T.setTop (mkF m pc Ls st)) :=
  Ends.via (fun t h => XS.goto X.here hx rfl (pc0 := pc) rfl hd ho hp h) k
theorem own_ifYes (X : Stand p l e R s m args below meth c T locs cells slots) (hx : p.tables.exec = Jvm.exec) {pc n : Nat} {Ls : Array Slot} {st : List Value} {o : Int} {cd : ClassFile.Cond} {x : Int32} (hd : decode c.code pc = .ok (.ifCond cd o, 3)) (hc : ifCond.holds cd x = true) (ho : 0 ≤ (pc : Int) + o) (hp : ((pc : Int) + o).toNat = n) (k : Ends p e below s K J Q (T.setTop (mkF m n Ls st))) : Ends p e below s K J Q (T.setTop (mkF m pc Ls (.int x :: st))) :=
  Ends.via (fun t h => XS.ifYes X.here hx rfl (pc0 := pc) rfl hd rfl hc ho hp h) k
theorem own_ifNo (X : Stand p l e R s m args below meth c T locs cells slots) (hx : p.tables.exec = Jvm.exec) {pc n : Nat} {Ls : Array Slot} {st : List Value} {o : Int} {cd : ClassFile.Cond} {x : Int32} (hd : decode c.code pc = .ok (.ifCond cd o, 3)) (hc : ifCond.holds cd x = false) (hn : pc + 3 = n) (k : Ends p e below s K J Q (T.setTop (mkF m n Ls st))) : Ends p e below s K J Q (T.setTop (mkF m pc Ls (.int x :: st))) := by
  subst hn
  exact Ends.via (fun t h => XS.ifNo X.here hx rfl hd rfl hc h) k
theorem own_icmpYes (X : Stand p l e R s m args below meth c T locs cells slots) (hx : p.tables.exec = Jvm.exec) {pc n : Nat} {Ls : Array Slot} {st : List Value} {o : Int} {cd : ClassFile.Cond} {x y : Int32} (hd : decode c.code pc = .ok (.if_icmp cd o, 3)) (hc : if_icmp.holds cd x y = true) (ho : 0 ≤ (pc : Int) + o) (hp : ((pc : Int) + o).toNat = n) (k : Ends p e below s K J Q (T.setTop (mkF m n Ls st))) : Ends p e below s K J Q (T.setTop (mkF m pc Ls (.int y :: .int x :: st))) :=
  Ends.via (fun t h => XS.icmpYes X.here hx rfl (pc0 := pc) rfl hd rfl hc ho hp h) k
theorem own_icmpNo (X : Stand p l e R s m args below meth c T locs cells slots) (hx : p.tables.exec = Jvm.exec) {pc n : Nat} {Ls : Array Slot} {st : List Value} {o : Int} {cd : ClassFile.Cond} {x y : Int32} (hd : decode c.code pc = .ok (.if_icmp cd o, 3)) (hc : if_icmp.holds cd x y = false) (hn : pc + 3 = n) (k : Ends p e below s K J Q (T.setTop (mkF m n Ls st))) : Ends p e below s K J Q (T.setTop (mkF m pc Ls (.int y :: .int x :: st))) := by
  subst hn
  exact Ends.via (fun t h => XS.icmpNo X.here hx rfl hd rfl hc h) k
theorem lw_eq_t {x y : Int64} (h : x = y) : ifCond.holds .eq (lcmpW x y) = true := Jvm.Free.XT.ll_eq_t h
theorem lw_eq_f {x y : Int64} (h : ¬ x = y) : ifCond.holds .eq (lcmpW x y) = false := Jvm.Free.XT.ll_eq_f h
theorem lw_ne_t {x y : Int64} (h : ¬ x = y) : ifCond.holds .ne (lcmpW x y) = true := Jvm.Free.XT.ll_ne_t h
theorem lw_ne_f {x y : Int64} (h : x = y) : ifCond.holds .ne (lcmpW x y) = false := Jvm.Free.XT.ll_ne_f h
theorem lw_lt_t {x y : Int64} (h : x < y) : ifCond.holds .lt (lcmpW x y) = true := Jvm.Free.XT.ll_lt_t h
theorem lw_lt_f {x y : Int64} (h : ¬ x < y) : ifCond.holds .lt (lcmpW x y) = false := Jvm.Free.XT.ll_lt_f h
theorem lw_ge_t {x y : Int64} (h : ¬ x < y) : ifCond.holds .ge (lcmpW x y) = true := Jvm.Free.XT.ll_ge_t h
theorem lw_ge_f {x y : Int64} (h : x < y) : ifCond.holds .ge (lcmpW x y) = false := Jvm.Free.XT.ll_ge_f h
theorem lw_gt_t {x y : Int64} (h : y < x) : ifCond.holds .gt (lcmpW x y) = true := Jvm.Free.XT.ll_gt_t h
theorem lw_gt_f {x y : Int64} (h : ¬ y < x) : ifCond.holds .gt (lcmpW x y) = false := Jvm.Free.XT.ll_gt_f h
theorem lw_le_t {x y : Int64} (h : ¬ y < x) : ifCond.holds .le (lcmpW x y) = true := Jvm.Free.XT.ll_le_t h
theorem lw_le_f {x y : Int64} (h : y < x) : ifCond.holds .le (lcmpW x y) = false := Jvm.Free.XT.ll_le_f h
theorem own_ldc2_w (X : Stand p l e R s m args below meth c T locs cells slots) (hx : p.tables.exec = Jvm.exec) (hZ : Z.Warmed39 s.vm) {own : String} (hown : s.vm.findClass own = some m.cls) {pc n : Nat} {Ls : Array Slot} {st : List Value} {i : Nat} {v : Int64} (w : (Cond.constantLong own i v).before a0 Z = true) (hd : decode c.code pc = .ok (.ldc2_w i, 3)) (hn : pc + 3 = n) (k : Ends p e below s K J Q (T.setTop (mkF m n Ls (.long v :: st)))) : Ends p e below s K J Q (T.setTop (mkF m pc Ls st)) := by
  subst hn
  exact Ends.via (fun t h => X.ldc2J hx hown (mvT hZ w) rfl hd h) k
theorem own_retN (X : Stand p l e R s m args below meth c T locs cells slots) (hx : p.tables.exec = Jvm.exec) (lk : meth.locks = false) {pc : Nat} {Ls : Array Slot} {rest : List Value} {z : Int32} {t : FieldType}  (hret : meth.sig.returnType = some t) (ht : t = .boolean ∨ t = .byte ∨ t = .char ∨ t = .short) (hd : decode c.code pc = .ok (.ireturn, 1)) (hK : cells ≤ K) (hJ : slots ≤ J) (hq : Q (some (.int (nar t z))) T.heap locs) : Ends p e below s K J Q (T.setTop (mkF m pc Ls (.int z :: rest))) := by
  obtain ⟨fs, hr, hrun, hended, hW, hsame⟩ := X.leave (v := (some (.int (nar t z)))) (fun h => by rw [hret] at h; cases h) lk
  exact ⟨_, _, Jvm.RoadKit.retN X hx hret ht hd hr, hrun, hended, _, _, rfl, hq, ⟨_, rfl⟩, hW, hsame.mono hK hJ⟩
theorem own_callS (X : Stand p l e R s m args below meth c T locs cells slots) (hx : p.tables.exec = Jvm.exec) (hZ : Z.Warmed39 s.vm) {own : String} {index : Nat} {y : MethodName} {bytes : ByteArray} {maxL : Nat} {ret : Option FieldType} (hown : s.vm.findClass own = some m.cls) (wl : (Cond.methodLink own index y).before a0 Z = true) (ws : (Cond.static y).before a0 Z = true) (wz : (Cond.initialized y.cls).before a0 Z = true) (wc : (Cond.code y bytes maxL ret).before a0 Z = true) (hy : y.cls ≠ "java/lang/invoke/MethodHandle" ∧ y.cls ≠ "java/lang/invoke/VarHandle") (eT : T.heap = h)
    {rm : Room} {Qc : Option Value → Heap → List Loc → Prop} {as' : Array Value} (hM : MetFree l y (head1 [Cond.code y bytes maxL ret] rm) (fun a U => a = as' ∧ Z.Warmed39 U.vm ∧ U.heap = h) (fun _ _ _ _ _ => True) (fun _ U o U' => ∃ v L, o = .returned v ∧ Qc v U'.heap L ∧ FrameEnd U o U' L rm.cells rm.slots)) {W : Nat} (hf : rm.frames + 1 ≤ R.frames) (hl : W + (maxL + 11) + rm.locals ≤ R.locals) (hc : cells + rm.cells ≤ R.cells) (hsl : slots + rm.slots ≤ R.slots) {pc n : Nat} {Ls : Array Slot} (hsize : Ls.size = c.maxLocals) {argsL rest : List Value} {ps : List FieldType} {r : Option FieldType} (hpd : parseMethodDescriptor y.desc = some ⟨ps, r⟩) (hlen : argsL.length = ps.length) (has : argsL.toArray = as') (hW : 0 + (rest.map fun v => v.category).sum ≤ W) (hd : decode c.code pc = .ok (.invokestatic index, 3)) (hn : pc + 3 = n) {st : List Value} (hst : st = argsL.reverse ++ rest)
    (k : ∀ v T' h' L', Stand p l e R s m args below meth c T' (locs ++ L') (cells + rm.cells) (slots + rm.slots) → T'.heap = h' → Qc v h' L' → Ends p e below s K J Q (T'.setTop (mkF m n Ls (v.toList ++ rest)))) : Ends p e below s K J Q (T.setTop (mkF m pc Ls st)) := by
  subst hn
  obtain ⟨v, _, ⟨T18, L18, k18, n18⟩, -, X18, ⟨Lc18, hQ18, l18, y18, z18⟩, st18⟩ := Jvm.LawKit.callS X hx hown (mvT hZ wl) (mvT hZ ws) (mvT hZ wz) (mvT hZ wc) hy (backOf (W := W) hM hZ wc wz hf hl) (g := mkF m pc Ls st) rfl hsize (argsL := argsL) (rest := rest) (lenOf hpd hlen) hst hW hd (fun _ _ => ⟨has, eT, hc, hsl⟩)
  dsimp only [Pt.U, Pt.locs, Pt.cells, Pt.slots] at X18 l18 y18 z18 st18 hQ18
  subst l18 y18 z18
  exact Ends.via (fun t h => st18 t h) (k v T18 _ Lc18 X18 rfl hQ18)
end Own
theorem own_inj {a b : Int32} (h : a.toInt = b.toInt) : a = b := Int32.toInt_inj.mp h
/-- the step 64 * 2 ^ j is no longer than q, and p is one of its two latest multiples up to q -/
def Hit (p q : Int) (j : Nat) : Prop := 64 * 2 ^ j ≤ q ∧ (p = q / (64 * 2 ^ j) * (64 * 2 ^ j) ∨ p = q / (64 * 2 ^ j) * (64 * 2 ^ j) - 64 * 2 ^ j)
def Good (p q : Int) : Prop := 0 < p ∧ p ≤ q ∧ p % 64 = 0 ∧ ∃ j, Hit p q j
theorem own_least (P : Nat → Bool) : ∀ n, P n = true → ∃ j, P j = true ∧ ∀ i, i < j → P i = false := by
  intro n
  induction n using Nat.strongRecOn with
  | ind n ih =>
    intro h
    by_cases hx : ∃ i, i < n ∧ P i = true
    · obtain ⟨i, h1, h2⟩ := hx
      exact ih i h1 h2
    · refine ⟨n, h, fun i hi => ?_⟩
      cases hp : P i with
      | false => rfl
      | true => exact absurd ⟨i, hi, hp⟩ hx
theorem own_lowN (n : Nat) (h : n ≠ 0) : ∃ j, n.testBit j = true ∧ (∀ i, i < j → n.testBit i = false) ∧ 2 ^ j ∣ n ∧ ∀ k, 2 ^ k ∣ n → k ≤ j := by
  obtain ⟨i, hi⟩ := Nat.exists_testBit_of_ne_zero h
  obtain ⟨j, h1, h2⟩ := own_least n.testBit i hi
  refine ⟨j, h1, h2, ?_, fun k hk => ?_⟩
  · apply Nat.dvd_of_mod_eq_zero
    apply Nat.eq_of_testBit_eq
    intro i
    rw [Nat.testBit_mod_two_pow, Nat.zero_testBit]
    by_cases z : i < j
    · simp [h2 i z]
    · simp [z]
  · apply Classical.byContradiction
    intro hc
    obtain ⟨q, rfl⟩ := hk
    rw [Nat.testBit_two_pow_mul] at h1
    simp at h1
    omega
theorem own_bit {w : Nat} (x : BitVec w) {j : Nat} (h1 : x.getLsbD j = true) (h2 : ∀ i, i < j → x.getLsbD i = false) : (x &&& -x).toNat = 2 ^ j := by
  have hjw : j < w := BitVec.lt_of_getLsbD h1
  apply Nat.eq_of_testBit_eq
  intro i
  rw [Nat.testBit_two_pow, BitVec.testBit_toNat, BitVec.getLsbD_and, BitVec.getLsbD_neg]
  rcases Nat.lt_trichotomy i j with h | h | h
  · rw [h2 i h]
    simp
    omega
  · subst h
    rw [h1]
    have : ¬ ∃ k, k < i ∧ x.getLsbD k = true := fun ⟨k, a, b⟩ => by rw [h2 k a] at b; cases b
    simp [this]
  · cases hx : x.getLsbD i with
    | false =>
      simp
      omega
    | true =>
      have hiw : i < w := BitVec.lt_of_getLsbD hx
      have : ∃ k, k < i ∧ x.getLsbD k = true := ⟨j, h, h1⟩
      simp [this, hiw]
      omega
theorem own_low (m : Int64) (hm : 0 < m.toInt) (hs : m.toInt < 2147483648) : ∃ j : Nat, j < 31 ∧ (m &&& -m).toInt = 2 ^ j ∧ (2 : Int) ^ j ∣ m.toInt ∧ ∀ k : Nat, (2 : Int) ^ k ∣ m.toInt → k ≤ j := by
  have e1 : m.toInt = (m.toBitVec.toNat : Int) := by
    have : m.toInt = m.toBitVec.toInt := rfl
    rw [this, BitVec.toInt_eq_toNat_cond] at hm ⊢
    split at hm
    · rw [if_pos (by assumption)]
    · exfalso
      have := m.toBitVec.isLt
      omega
  have hn : m.toBitVec.toNat ≠ 0 := by omega
  obtain ⟨j, h1, h2, h3, h4⟩ := own_lowN _ hn
  have hj : j < 31 := by
    have := Nat.le_of_dvd (by omega) h3
    apply Classical.byContradiction
    intro z
    have : 2 ^ 31 ≤ 2 ^ j := Nat.pow_le_pow_right (by decide) (by omega)
    omega
  have hb := own_bit m.toBitVec (j := j) h1 h2
  have hp : (2 : Nat) ^ j < 2 ^ 31 := Nat.pow_lt_pow_right (by decide) hj
  have cast : ∀ k : Nat, ((2 : Int) ^ k) = ((2 ^ k : Nat) : Int) := fun k => by simp
  refine ⟨j, hj, ?_, ?_, fun k hk => ?_⟩
  · have : (m &&& -m).toInt = (m.toBitVec &&& -m.toBitVec).toInt := rfl
    rw [this, BitVec.toInt_eq_toNat_cond, hb, if_pos (by omega), cast]
  · rw [e1, cast]
    exact Int.natCast_dvd_natCast.mpr h3
  · rw [e1, cast] at hk
    exact h4 k (Int.natCast_dvd_natCast.mp hk)
theorem own_pow (j : Nat) : (0 : Int) < 2 ^ j := Int.pow_pos (by decide)
/-- the plain law: some step hits iff the distance is below twice the lowest bit -/
theorem own_iff {p q : Int} (h0 : 0 < p) (hpq : p ≤ q) (h64 : p % 64 = 0) {j : Nat} (hd : (2 : Int) ^ j ∣ p / 64) (hm : ∀ k : Nat, (2 : Int) ^ k ∣ p / 64 → k ≤ j) : (∃ k, Hit p q k) ↔ q / 64 - p / 64 < 2 * 2 ^ j := by
  have hp : p = 64 * (p / 64) := by omega
  generalize hM : p / 64 = M at *
  have hM0 : 0 < M := by omega
  constructor
  · rintro ⟨k, h1, h2⟩
    have hk0 := own_pow k
    have t0 : (0 : Int) < 64 * 2 ^ k := by omega
    have e1 := Int.mul_ediv_add_emod q (64 * 2 ^ k)
    have e2 := Int.emod_lt_of_pos q t0
    have e3 := Int.emod_nonneg q (Int.ne_of_gt t0)
    have hcom : q / (64 * 2 ^ k) * (64 * 2 ^ k) = 64 * 2 ^ k * (q / (64 * 2 ^ k)) := Int.mul_comm _ _
    rw [hcom] at h2
    have hdk : (2 : Int) ^ k ∣ M := by
      rcases h2 with h2 | h2
      · refine ⟨q / (64 * 2 ^ k), ?_⟩
        have : 64 * M = 64 * (2 ^ k * (q / (64 * 2 ^ k))) := by rw [← hp, h2, Int.mul_assoc]
        omega
      · refine ⟨q / (64 * 2 ^ k) - 1, ?_⟩
        have : 64 * M = 64 * (2 ^ k * (q / (64 * 2 ^ k) - 1)) := by rw [← hp, h2, Int.mul_sub, Int.mul_sub, Int.mul_one, Int.mul_assoc]
        omega
    have hkj := hm k hdk
    have hle : (2 : Int) ^ k ≤ 2 ^ j := by
      have := Nat.pow_le_pow_right (n := 2) (by decide) hkj
      have c1 : ((2 : Int) ^ k) = ((2 ^ k : Nat) : Int) := by simp
      have c2 : ((2 : Int) ^ j) = ((2 ^ j : Nat) : Int) := by simp
      omega
    omega
  · intro h
    have hj0 := own_pow j
    have t0 : (0 : Int) < 64 * 2 ^ j := by omega
    obtain ⟨c, hc⟩ := hd
    have hc1 : 1 ≤ c := by
      apply Classical.byContradiction
      intro z
      have : 2 ^ j * c ≤ 0 := Int.mul_nonpos_of_nonneg_of_nonpos (by omega) (by omega)
      omega
    have hcm : (2 : Int) ^ j ≤ M := by
      rw [hc]
      have : (2 : Int) ^ j * 1 ≤ 2 ^ j * c := Int.mul_le_mul_of_nonneg_left hc1 (by omega)
      omega
    refine ⟨j, by omega, ?_⟩
    have e1 := Int.mul_ediv_add_emod q (64 * 2 ^ j)
    have e2 := Int.emod_lt_of_pos q t0
    have e3 := Int.emod_nonneg q (Int.ne_of_gt t0)
    have hcom : q / (64 * 2 ^ j) * (64 * 2 ^ j) = 64 * 2 ^ j * (q / (64 * 2 ^ j)) := Int.mul_comm _ _
    rw [hcom]
    have hpc : p = 64 * 2 ^ j * c := by rw [hp, hc, Int.mul_assoc]
    generalize hD : q / (64 * 2 ^ j) = D at *
    generalize hT : (64 * 2 ^ j : Int) = t at *
    have k1 : c ≤ D := by
      apply Classical.byContradiction
      intro z
      have : t * (D + 1) ≤ t * c := Int.mul_le_mul_of_nonneg_left (by omega) (by omega)
      rw [Int.mul_add] at this
      omega
    have k2 : D ≤ c + 1 := by
      apply Classical.byContradiction
      intro z
      have : t * (c + 2) ≤ t * D := Int.mul_le_mul_of_nonneg_left (by omega) (by omega)
      rw [Int.mul_add] at this
      omega
    have k3 : D = c ∨ D = c + 1 := by omega
    rcases k3 with k3 | k3
    · left; rw [k3]; exact hpc
    · right; rw [k3, Int.mul_add]; omega
theorem own_nohit {p q : Int} {k : Nat} (h : ∀ j, j < k → ¬ Hit p q j) (hk : q < 64 * 2 ^ k) : ¬ ∃ j, Hit p q j := by
  rintro ⟨j, hj⟩
  by_cases z : j < k
  · exact h j z hj
  · have := Nat.pow_le_pow_right (n := 2) (by decide) (Nat.le_of_not_lt z)
    have c1 : ((2 : Int) ^ k) = ((2 ^ k : Nat) : Int) := by simp
    have c2 : ((2 : Int) ^ j) = ((2 ^ j : Nat) : Int) := by simp
    have := hj.1
    omega
/-- one turn's numbers -/
theorem own_turn {p q : Int32} {s : Int64} {t : Int} (hs : s.toInt = t) (ht : 64 ≤ t) (hq : t ≤ q.toInt) :
    (q.toInt64 / s * s).toInt = q.toInt / t * t ∧ (q.toInt64 / s * s - s).toInt = q.toInt / t * t - t ∧ (s * (2 : Int64)).toInt = 2 * t ∧ s ≠ 0 := by
  have r1 := rng32 q
  have hne : s ≠ -1 := fun z => by rw [z] at hs; have o : (-1 : Int64).toInt = -1 := rfl; omega
  have hnz : s ≠ 0 := fun z => by rw [z] at hs; have o : (0 : Int64).toInt = 0 := rfl; omega
  have e1 := (c_ldiv q.toInt64 s t hs hne).1 (by rw [c_i2l]; omega)
  rw [c_i2l] at e1
  have f1 := Int.mul_ediv_add_emod q.toInt t
  have f2 := Int.emod_nonneg q.toInt (show t ≠ 0 by omega)
  have f3 : q.toInt / t * t = t * (q.toInt / t) := Int.mul_comm _ _
  have f4 := Int.emod_lt_of_pos q.toInt (show 0 < t by omega)
  have e2 := c_lmul (q.toInt64 / s) s
  have r2 := rng64 (q.toInt64 / s * s)
  rw [e1, hs] at e2
  have e3 := c_lsub (q.toInt64 / s * s) s
  have r3 := rng64 (q.toInt64 / s * s - s)
  have e4 := c_lmul s 2
  have r4 := rng64 (s * 2)
  have o : (2 : Int64).toInt = 2 := rfl
  rw [hs, o] at e4
  exact ⟨by omega, by omega, by omega, hnz⟩
theorem own_eqL {a : Int32} {b : Int64} : a.toInt64 = b ↔ a.toInt = b.toInt := by rw [← Int64.toInt_inj, c_i2l]
theorem own_rem64 {p : Int32} (h : 0 < p.toInt) : (p % (64 : Int32) = 0) ↔ p.toInt % 64 = 0 := by
  have e := (c_irem p 64 64 rfl).1 (by omega)
  rw [← Int32.toInt_inj, e]
  rfl
theorem own_and63 {p : Int32} : (p &&& (63 : Int32) = 0) ↔ p.toInt % 64 = 0 := by
  have e := c_mask p 63 6 (by decide) (by decide)
  rw [← Int32.toInt_inj, e]
  rfl
theorem d1_0 : decode prog_65_method_2_code 0 = .ok (.iload_n 0, 1) := by decide +kernel
theorem d1_1 : decode prog_65_method_2_code 1 = .ok (.ifCond .le 15, 3) := by decide +kernel
theorem d1_4 : decode prog_65_method_2_code 4 = .ok (.iload_n 0, 1) := by decide +kernel
theorem d1_5 : decode prog_65_method_2_code 5 = .ok (.iload_n 1, 1) := by decide +kernel
theorem d1_6 : decode prog_65_method_2_code 6 = .ok (.if_icmp .gt 10, 3) := by decide +kernel
theorem d1_9 : decode prog_65_method_2_code 9 = .ok (.iload_n 0, 1) := by decide +kernel
theorem d1_10 : decode prog_65_method_2_code 10 = .ok (.bipush 64, 2) := by decide +kernel
theorem d1_12 : decode prog_65_method_2_code 12 = .ok (.irem, 1) := by decide +kernel
theorem d1_13 : decode prog_65_method_2_code 13 = .ok (.ifCond .eq 5, 3) := by decide +kernel
theorem d1_16 : decode prog_65_method_2_code 16 = .ok (.iconst 0, 1) := by decide +kernel
theorem d1_17 : decode prog_65_method_2_code 17 = .ok (.ireturn, 1) := by decide +kernel
theorem d1_18 : decode prog_65_method_2_code 18 = .ok (.ldc2_w 16, 3) := by decide +kernel
theorem d1_21 : decode prog_65_method_2_code 21 = .ok (.lstore_n 2, 1) := by decide +kernel
theorem d1_22 : decode prog_65_method_2_code 22 = .ok (.lload_n 2, 1) := by decide +kernel
theorem d1_23 : decode prog_65_method_2_code 23 = .ok (.iload_n 1, 1) := by decide +kernel
theorem d1_24 : decode prog_65_method_2_code 24 = .ok (.i2l, 1) := by decide +kernel
theorem d1_25 : decode prog_65_method_2_code 25 = .ok (.lcmp, 1) := by decide +kernel
theorem d1_26 : decode prog_65_method_2_code 26 = .ok (.ifCond .gt 40, 3) := by decide +kernel
theorem d1_29 : decode prog_65_method_2_code 29 = .ok (.iload_n 1, 1) := by decide +kernel
theorem d1_30 : decode prog_65_method_2_code 30 = .ok (.i2l, 1) := by decide +kernel
theorem d1_31 : decode prog_65_method_2_code 31 = .ok (.lload_n 2, 1) := by decide +kernel
theorem d1_32 : decode prog_65_method_2_code 32 = .ok (.ldiv, 1) := by decide +kernel
theorem d1_33 : decode prog_65_method_2_code 33 = .ok (.lload_n 2, 1) := by decide +kernel
theorem d1_34 : decode prog_65_method_2_code 34 = .ok (.lmul, 1) := by decide +kernel
theorem d1_35 : decode prog_65_method_2_code 35 = .ok (.lstore 4, 2) := by decide +kernel
theorem d1_37 : decode prog_65_method_2_code 37 = .ok (.iload_n 0, 1) := by decide +kernel
theorem d1_38 : decode prog_65_method_2_code 38 = .ok (.i2l, 1) := by decide +kernel
theorem d1_39 : decode prog_65_method_2_code 39 = .ok (.lload 4, 2) := by decide +kernel
theorem d1_41 : decode prog_65_method_2_code 41 = .ok (.lcmp, 1) := by decide +kernel
theorem d1_42 : decode prog_65_method_2_code 42 = .ok (.ifCond .eq 13, 3) := by decide +kernel
theorem d1_45 : decode prog_65_method_2_code 45 = .ok (.iload_n 0, 1) := by decide +kernel
theorem d1_46 : decode prog_65_method_2_code 46 = .ok (.i2l, 1) := by decide +kernel
theorem d1_47 : decode prog_65_method_2_code 47 = .ok (.lload 4, 2) := by decide +kernel
theorem d1_49 : decode prog_65_method_2_code 49 = .ok (.lload_n 2, 1) := by decide +kernel
theorem d1_50 : decode prog_65_method_2_code 50 = .ok (.lsub, 1) := by decide +kernel
theorem d1_51 : decode prog_65_method_2_code 51 = .ok (.lcmp, 1) := by decide +kernel
theorem d1_52 : decode prog_65_method_2_code 52 = .ok (.ifCond .ne 5, 3) := by decide +kernel
theorem d1_55 : decode prog_65_method_2_code 55 = .ok (.iconst 1, 1) := by decide +kernel
theorem d1_56 : decode prog_65_method_2_code 56 = .ok (.ireturn, 1) := by decide +kernel
theorem d1_57 : decode prog_65_method_2_code 57 = .ok (.lload_n 2, 1) := by decide +kernel
theorem d1_58 : decode prog_65_method_2_code 58 = .ok (.ldc2_w 18, 3) := by decide +kernel
theorem d1_61 : decode prog_65_method_2_code 61 = .ok (.lmul, 1) := by decide +kernel
theorem d1_62 : decode prog_65_method_2_code 62 = .ok (.lstore_n 2, 1) := by decide +kernel
theorem d1_63 : decode prog_65_method_2_code 63 = .ok (.goto (-41), 3) := by decide +kernel
theorem d1_66 : decode prog_65_method_2_code 66 = .ok (.iconst 0, 1) := by decide +kernel
theorem d1_67 : decode prog_65_method_2_code 67 = .ok (.ireturn, 1) := by decide +kernel
theorem pn_1 : plainName "com/example/revisit/revisit/schedule/Checkpoints" = true := by first | (simp [plainName, overriddenIn]; done) | decide +kernel
theorem ef_1 (m : MethodId) (p1 : Int32) (p2 : Int32) : entryFrame m #[(.int p1), (.int p2)] 6 = mkF m 0 #[.val (.int p1), .val (.int p2), .unset, .unset, .unset, .unset] [] := by first | rfl | (simp [entryFrame, mkF, argsToLocals, Value.category]; done)
theorem pd_1 : parseMethodDescriptor "(II)Z" = some ⟨[.int, .int], some .boolean⟩ := by decide +kernel
def Q1 (Z : State) (p1 : Int32) (p2 : Int32)  (h0 : Heap) (n0 : Nat) (v : Option Value) (h : Heap) (L : List Loc) : Prop := ((v = some (.int 1) ∧ Good p1.toInt p2.toInt) ∨ (v = some (.int 0) ∧ ¬ Good p1.toInt p2.toInt)) ∧ Fr n0 L ∧ h0 = h
theorem rm1 (l : Launch) (Z : State) (a0 : Array Value) (hw : ∀ d ∈ tables_1, d.before a0 Z = true) (ws : List Jvm.Cond) (p1 : Int32) (p2 : Int32)  (h0 : Heap) (n0 : Nat) (Z0 : n0 ≤ h0.size)  :
    MetFree l (⟨"com/example/revisit/revisit/schedule/Checkpoints", "keeps", "(II)Z"⟩ : MethodName) (head1 (Jvm.Cond.code (⟨"com/example/revisit/revisit/schedule/Checkpoints", "keeps", "(II)Z"⟩ : MethodName) prog_65_method_2_code 6 (some .boolean) :: ws) ({ frames := 0, cells := 0, slots := 0, locals := 0 } : Room)) (fun a U => a = #[(.int p1), (.int p2)] ∧ Z.Warmed39 U.vm ∧ U.heap = h0) (fun _ _ _ _ _ => True) (fun _ U o U' => ∃ v L, o = .returned v ∧ (Q1 Z p1 p2  h0 n0) v U'.heap L ∧ FrameEnd U o U' L ({ frames := 0, cells := 0, slots := 0, locals := 0 } : Room).cells ({ frames := 0, cells := 0, slots := 0, locals := 0 } : Room).slots) := by
  refine MetFree.of_bodySF (plainFor_of_name pn_1) hisR ?_
  intro p e s m args below meth c s₁ Bd hml0 hP hK
  obtain ⟨rfl, hZ, hh⟩ := hP
  have hx := Bd.exec
  have hby := Bd.bytes
  have hml : c.maxLocals = 6 := hml0
  have hown : s.vm.findClass "com/example/revisit/revisit/schedule/Checkpoints" = some m.cls := findClass_of_methodNamed Bd.named
  have hnm := (name_of_methodNamed Bd.named Bd.method).1
  have X0 : Stand p l e ({ frames := 0, cells := 0, slots := 0, locals := 0 } : Room) s m #[(.int p1), (.int p2)] below meth c s₁ [] 0 0 := Stand.of_body Bd
  have e0 : s₁.heap = h0 := by rw [← hh, Bd.state]; rfl
  have N0 := Fr.nil n0
  have lk : meth.locks = false := BodyLoose.notSynchronized Bd
  have hret := Bd.returns
  show Ends p e below s ({ frames := 0, cells := 0, slots := 0, locals := 0 } : Room).cells ({ frames := 0, cells := 0, slots := 0, locals := 0 } : Room).slots (Q1 Z p1 p2  h0 n0) (s₁.setTop (entryFrame m #[(.int p1), (.int p2)] 6))
  refine Ends.cast (ef_1 m p1 p2) ?_
  have o0 : (0 : Int32).toInt = 0 := rfl
  have bad : ¬ Good p1.toInt p2.toInt → Q1 Z p1 p2 h0 n0 (some (.int (nar .boolean 0))) h0 [] := fun q => ⟨Or.inr ⟨rfl, q⟩, N0, rfl⟩
  have good : Good p1.toInt p2.toInt → Q1 Z p1 p2 h0 n0 (some (.int (nar .boolean 1))) h0 [] := fun q => ⟨Or.inl ⟨rfl, q⟩, N0, rfl⟩
  have loop : ∀ (n k : Nat) (st_ lt_ : Int64), k + n = 26 → st_.toInt = 64 * 2 ^ k → (∀ j, j < k → ¬ Hit p1.toInt p2.toInt j) → 0 < p1.toInt → p1.toInt ≤ p2.toInt → p1.toInt % 64 = 0 → Ends p e below s ({ frames := 0, cells := 0, slots := 0, locals := 0 } : Room).cells ({ frames := 0, cells := 0, slots := 0, locals := 0 } : Room).slots (Q1 Z p1 p2  h0 n0) (s₁.setTop (mkF m 22 #[.val (.int p1), .val (.int p2), .val (.long st_), .second, .val (.long lt_), .second] [])) := by
    intro n
    induction n with
    | zero =>
      intro k st_ lt_ hk hst hno h1 h2 h3
      obtain rfl : k = 26 := by omega
      have r := rng32 p2
      have ho : p2.toInt < 64 * 2 ^ 26 := by omega
      refine own_lloadN (n := 23) X0 hx (hb hby d1_22) rfl rfl ?_
      refine own_iloadN (n := 24) X0 hx (hb hby d1_23) rfl rfl ?_
      refine own_i2l (n := 25) X0 hx (hb hby d1_24) rfl ?_
      refine own_lcmp (n := 26) X0 hx (hb hby d1_25) rfl ?_
      refine own_ifYes (n := 66) X0 hx (hb hby d1_26) (lw_gt_t (by rw [Int64.lt_iff_toInt_lt, c_i2l, hst]; exact ho)) (by decide) (by decide) ?_
      refine own_iconst (n := 67) X0 hx (0 : Int32) (hb hby d1_66) rfl rfl ?_
      refine own_retN X0 hx lk hret (by simp) (hb hby d1_67) (by decide) (by decide) ?_
      rw [e0]
      exact bad (fun g => own_nohit hno ho g.2.2.2)
    | succ n ih =>
      intro k st_ lt_ hk hst hno h1 h2 h3
      refine own_lloadN (n := 23) X0 hx (hb hby d1_22) rfl rfl ?_
      refine own_iloadN (n := 24) X0 hx (hb hby d1_23) rfl rfl ?_
      refine own_i2l (n := 25) X0 hx (hb hby d1_24) rfl ?_
      refine own_lcmp (n := 26) X0 hx (hb hby d1_25) rfl ?_
      by_cases c26 : (p2.toInt64) < st_
      · refine own_ifYes (n := 66) X0 hx (hb hby d1_26) (lw_gt_t c26) (by decide) (by decide) ?_
        refine own_iconst (n := 67) X0 hx (0 : Int32) (hb hby d1_66) rfl rfl ?_
        refine own_retN X0 hx lk hret (by simp) (hb hby d1_67) (by decide) (by decide) ?_
        rw [e0]
        rw [Int64.lt_iff_toInt_lt, c_i2l, hst] at c26
        exact bad (fun g => own_nohit hno c26 g.2.2.2)
      · refine own_ifNo (n := 29) X0 hx (hb hby d1_26) (lw_gt_f c26) rfl ?_
        have c26' := c26
        rw [Int64.lt_iff_toInt_lt, c_i2l, hst] at c26'
        have pw := own_pow k
        have tn := own_turn (p := p1) hst (by omega) (Int.not_lt.mp c26')
        have hle : 64 * 2 ^ k ≤ p2.toInt := by omega
        refine own_iloadN (n := 30) X0 hx (hb hby d1_29) rfl rfl ?_
        refine own_i2l (n := 31) X0 hx (hb hby d1_30) rfl ?_
        refine own_lloadN (n := 32) X0 hx (hb hby d1_31) rfl rfl ?_
        refine own_ldiv (n := 33) X0 hx (hb hby d1_32) tn.2.2.2 rfl ?_
        refine own_lloadN (n := 34) X0 hx (hb hby d1_33) rfl rfl ?_
        refine own_lmul (n := 35) X0 hx (hb hby d1_34) rfl ?_
        refine own_lstore (n := 37) X0 hx (hb hby d1_35) (l' := #[.val (.int p1), .val (.int p2), .val (.long st_), .second, .val (.long (((p2.toInt64) / st_) * st_)), .second]) rfl rfl ?_
        refine own_iloadN (n := 38) X0 hx (hb hby d1_37) rfl rfl ?_
        refine own_i2l (n := 39) X0 hx (hb hby d1_38) rfl ?_
        refine own_lload (n := 41) X0 hx (hb hby d1_39) rfl rfl ?_
        refine own_lcmp (n := 42) X0 hx (hb hby d1_41) rfl ?_
        by_cases c42 : (p1.toInt64) = (((p2.toInt64) / st_) * st_)
        · refine own_ifYes (n := 55) X0 hx (hb hby d1_42) (lw_eq_t c42) (by decide) (by decide) ?_
          refine own_iconst (n := 56) X0 hx (1 : Int32) (hb hby d1_55) rfl rfl ?_
          refine own_retN X0 hx lk hret (by simp) (hb hby d1_56) (by decide) (by decide) ?_
          rw [e0]
          exact good ⟨h1, h2, h3, k, by omega, Or.inl (by rw [own_eqL, tn.1] at c42; exact c42)⟩
        · refine own_ifNo (n := 45) X0 hx (hb hby d1_42) (lw_eq_f c42) rfl ?_
          refine own_iloadN (n := 46) X0 hx (hb hby d1_45) rfl rfl ?_
          refine own_i2l (n := 47) X0 hx (hb hby d1_46) rfl ?_
          refine own_lload (n := 49) X0 hx (hb hby d1_47) rfl rfl ?_
          refine own_lloadN (n := 50) X0 hx (hb hby d1_49) rfl rfl ?_
          refine own_lsub (n := 51) X0 hx (hb hby d1_50) rfl ?_
          refine own_lcmp (n := 52) X0 hx (hb hby d1_51) rfl ?_
          by_cases c52 : (p1.toInt64) = ((((p2.toInt64) / st_) * st_) - st_)
          · refine own_ifNo (n := 55) X0 hx (hb hby d1_52) (lw_ne_f c52) rfl ?_
            refine own_iconst (n := 56) X0 hx (1 : Int32) (hb hby d1_55) rfl rfl ?_
            refine own_retN X0 hx lk hret (by simp) (hb hby d1_56) (by decide) (by decide) ?_
            rw [e0]
            exact good ⟨h1, h2, h3, k, by omega, Or.inr (by rw [own_eqL, tn.2.1] at c52; exact c52)⟩
          · refine own_ifYes (n := 57) X0 hx (hb hby d1_52) (lw_ne_t c52) (by decide) (by decide) ?_
            refine own_lloadN (n := 58) X0 hx (hb hby d1_57) rfl rfl ?_
            refine own_ldc2_w (n := 61) X0 hx hZ hown (hw _ (List.mem_of_getElem? (i := 10) rfl)) (hb hby d1_58) rfl ?_
            refine own_lmul (n := 62) X0 hx (hb hby d1_61) rfl ?_
            refine own_lstoreN (n := 63) X0 hx (hb hby d1_62) (l' := #[.val (.int p1), .val (.int p2), .val (.long (st_ * (2 : Int64))), .second, .val (.long (((p2.toInt64) / st_) * st_)), .second]) rfl rfl ?_
            refine own_goto (n := 22) X0 hx (hb hby d1_63) (by decide) (by decide) ?_
            show Ends p e below s ({ frames := 0, cells := 0, slots := 0, locals := 0 } : Room).cells ({ frames := 0, cells := 0, slots := 0, locals := 0 } : Room).slots (Q1 Z p1 p2  h0 n0) (s₁.setTop (mkF m 22 #[.val (.int p1), .val (.int p2), .val (.long (st_ * (2 : Int64))), .second, .val (.long (((p2.toInt64) / st_) * st_)), .second] []))
            exact ih (k + 1) _ _ (by omega) (by rw [tn.2.2.1, Int.pow_succ]; omega) (fun j hj => by
              by_cases e : j = k
              · subst e
                rintro ⟨-, z | z⟩
                · exact c42 (own_eqL.mpr (by rw [tn.1]; exact z))
                · exact c52 (own_eqL.mpr (by rw [tn.2.1]; exact z))
              · exact hno j (by omega)) h1 h2 h3
  refine own_iloadN (n := 1) X0 hx (hb hby d1_0) rfl rfl ?_
  by_cases c1 : 0 < p1
  · refine own_ifNo (n := 4) X0 hx (hb hby d1_1) (Jvm.Free.XT.i0_le_f c1) rfl ?_
    refine own_iloadN (n := 5) X0 hx (hb hby d1_4) rfl rfl ?_
    refine own_iloadN (n := 6) X0 hx (hb hby d1_5) rfl rfl ?_
    by_cases c6 : p2 < p1
    · refine own_icmpYes (n := 16) X0 hx (hb hby d1_6) (Jvm.Free.XT.ii_gt_t c6) (by decide) (by decide) ?_
      refine own_iconst (n := 17) X0 hx (0 : Int32) (hb hby d1_16) rfl rfl ?_
      refine own_retN X0 hx lk hret (by simp) (hb hby d1_17) (by decide) (by decide) ?_
      rw [e0]
      rw [Int32.lt_iff_toInt_lt] at c6
      exact bad (fun g => by have := g.2.1; omega)
    · refine own_icmpNo (n := 9) X0 hx (hb hby d1_6) (Jvm.Free.XT.ii_gt_f c6) rfl ?_
      refine own_iloadN (n := 10) X0 hx (hb hby d1_9) rfl rfl ?_
      refine own_bipush (n := 12) X0 hx (64 : Int32) (hb hby d1_10) rfl rfl ?_
      refine own_irem (n := 13) X0 hx (hb hby d1_12) (by decide) rfl ?_
      by_cases c13 : (p1 % (64 : Int32)) = 0
      · refine own_ifYes (n := 18) X0 hx (hb hby d1_13) (Jvm.Free.XT.i0_eq_t c13) (by decide) (by decide) ?_
        rw [Int32.lt_iff_toInt_lt] at c1 c6
        have h1 : 0 < p1.toInt := by omega
        have h2 : p1.toInt ≤ p2.toInt := by omega
        have h3 := (own_rem64 h1).mp c13
        have hst : (64 : Int64).toInt = 64 * 2 ^ 0 := rfl
        have hno : ∀ j, j < 0 → ¬ Hit p1.toInt p2.toInt j := fun j z => absurd z (by omega)
        refine own_ldc2_w (n := 21) X0 hx hZ hown (hw _ (List.mem_of_getElem? (i := 8) rfl)) (hb hby d1_18) rfl ?_
        refine own_lstoreN (n := 22) X0 hx (hb hby d1_21) (l' := #[.val (.int p1), .val (.int p2), .val (.long (64 : Int64)), .second, .unset, .unset]) rfl rfl ?_
        refine own_lloadN (n := 23) X0 hx (hb hby d1_22) rfl rfl ?_
        refine own_iloadN (n := 24) X0 hx (hb hby d1_23) rfl rfl ?_
        refine own_i2l (n := 25) X0 hx (hb hby d1_24) rfl ?_
        refine own_lcmp (n := 26) X0 hx (hb hby d1_25) rfl ?_
        by_cases c26 : (p2.toInt64) < (64 : Int64)
        · refine own_ifYes (n := 66) X0 hx (hb hby d1_26) (lw_gt_t c26) (by decide) (by decide) ?_
          refine own_iconst (n := 67) X0 hx (0 : Int32) (hb hby d1_66) rfl rfl ?_
          refine own_retN X0 hx lk hret (by simp) (hb hby d1_67) (by decide) (by decide) ?_
          rw [e0]
          rw [Int64.lt_iff_toInt_lt, c_i2l, hst] at c26
          exact bad (fun g => own_nohit hno c26 g.2.2.2)
        · refine own_ifNo (n := 29) X0 hx (hb hby d1_26) (lw_gt_f c26) rfl ?_
          have c26' := c26
          rw [Int64.lt_iff_toInt_lt, c_i2l, hst] at c26'
          have pw := own_pow 0
          have tn := own_turn (p := p1) hst (by omega) (Int.not_lt.mp c26')
          have hle : 64 * 2 ^ 0 ≤ p2.toInt := by omega
          refine own_iloadN (n := 30) X0 hx (hb hby d1_29) rfl rfl ?_
          refine own_i2l (n := 31) X0 hx (hb hby d1_30) rfl ?_
          refine own_lloadN (n := 32) X0 hx (hb hby d1_31) rfl rfl ?_
          refine own_ldiv (n := 33) X0 hx (hb hby d1_32) tn.2.2.2 rfl ?_
          refine own_lloadN (n := 34) X0 hx (hb hby d1_33) rfl rfl ?_
          refine own_lmul (n := 35) X0 hx (hb hby d1_34) rfl ?_
          refine own_lstore (n := 37) X0 hx (hb hby d1_35) (l' := #[.val (.int p1), .val (.int p2), .val (.long (64 : Int64)), .second, .val (.long (((p2.toInt64) / (64 : Int64)) * (64 : Int64))), .second]) rfl rfl ?_
          refine own_iloadN (n := 38) X0 hx (hb hby d1_37) rfl rfl ?_
          refine own_i2l (n := 39) X0 hx (hb hby d1_38) rfl ?_
          refine own_lload (n := 41) X0 hx (hb hby d1_39) rfl rfl ?_
          refine own_lcmp (n := 42) X0 hx (hb hby d1_41) rfl ?_
          by_cases c42 : (p1.toInt64) = (((p2.toInt64) / (64 : Int64)) * (64 : Int64))
          · refine own_ifYes (n := 55) X0 hx (hb hby d1_42) (lw_eq_t c42) (by decide) (by decide) ?_
            refine own_iconst (n := 56) X0 hx (1 : Int32) (hb hby d1_55) rfl rfl ?_
            refine own_retN X0 hx lk hret (by simp) (hb hby d1_56) (by decide) (by decide) ?_
            rw [e0]
            exact good ⟨h1, h2, h3, 0, by omega, Or.inl (by rw [own_eqL, tn.1] at c42; exact c42)⟩
          · refine own_ifNo (n := 45) X0 hx (hb hby d1_42) (lw_eq_f c42) rfl ?_
            refine own_iloadN (n := 46) X0 hx (hb hby d1_45) rfl rfl ?_
            refine own_i2l (n := 47) X0 hx (hb hby d1_46) rfl ?_
            refine own_lload (n := 49) X0 hx (hb hby d1_47) rfl rfl ?_
            refine own_lloadN (n := 50) X0 hx (hb hby d1_49) rfl rfl ?_
            refine own_lsub (n := 51) X0 hx (hb hby d1_50) rfl ?_
            refine own_lcmp (n := 52) X0 hx (hb hby d1_51) rfl ?_
            by_cases c52 : (p1.toInt64) = ((((p2.toInt64) / (64 : Int64)) * (64 : Int64)) - (64 : Int64))
            · refine own_ifNo (n := 55) X0 hx (hb hby d1_52) (lw_ne_f c52) rfl ?_
              refine own_iconst (n := 56) X0 hx (1 : Int32) (hb hby d1_55) rfl rfl ?_
              refine own_retN X0 hx lk hret (by simp) (hb hby d1_56) (by decide) (by decide) ?_
              rw [e0]
              exact good ⟨h1, h2, h3, 0, by omega, Or.inr (by rw [own_eqL, tn.2.1] at c52; exact c52)⟩
            · refine own_ifYes (n := 57) X0 hx (hb hby d1_52) (lw_ne_t c52) (by decide) (by decide) ?_
              refine own_lloadN (n := 58) X0 hx (hb hby d1_57) rfl rfl ?_
              refine own_ldc2_w (n := 61) X0 hx hZ hown (hw _ (List.mem_of_getElem? (i := 10) rfl)) (hb hby d1_58) rfl ?_
              refine own_lmul (n := 62) X0 hx (hb hby d1_61) rfl ?_
              refine own_lstoreN (n := 63) X0 hx (hb hby d1_62) (l' := #[.val (.int p1), .val (.int p2), .val (.long ((64 : Int64) * (2 : Int64))), .second, .val (.long (((p2.toInt64) / (64 : Int64)) * (64 : Int64))), .second]) rfl rfl ?_
              refine own_goto (n := 22) X0 hx (hb hby d1_63) (by decide) (by decide) ?_
              show Ends p e below s ({ frames := 0, cells := 0, slots := 0, locals := 0 } : Room).cells ({ frames := 0, cells := 0, slots := 0, locals := 0 } : Room).slots (Q1 Z p1 p2  h0 n0) (s₁.setTop (mkF m 22 #[.val (.int p1), .val (.int p2), .val (.long ((64 : Int64) * (2 : Int64))), .second, .val (.long (((p2.toInt64) / (64 : Int64)) * (64 : Int64))), .second] []))
              exact loop 25 (0 + 1) _ _ (by omega) (by rw [tn.2.2.1, Int.pow_succ]; omega) (fun j hj => by
                by_cases e : j = 0
                · subst e
                  rintro ⟨-, z | z⟩
                  · exact c42 (own_eqL.mpr (by rw [tn.1]; exact z))
                  · exact c52 (own_eqL.mpr (by rw [tn.2.1]; exact z))
                · exact hno j (by omega)) h1 h2 h3
      · refine own_ifNo (n := 16) X0 hx (hb hby d1_13) (Jvm.Free.XT.i0_eq_f c13) rfl ?_
        refine own_iconst (n := 17) X0 hx (0 : Int32) (hb hby d1_16) rfl rfl ?_
        refine own_retN X0 hx lk hret (by simp) (hb hby d1_17) (by decide) (by decide) ?_
        rw [e0]
        rw [Int32.lt_iff_toInt_lt] at c1
        exact bad (fun g => c13 ((own_rem64 (by omega)).mpr g.2.2.1))
  · refine own_ifYes (n := 16) X0 hx (hb hby d1_1) (Jvm.Free.XT.i0_le_t c1) (by decide) (by decide) ?_
    refine own_iconst (n := 17) X0 hx (0 : Int32) (hb hby d1_16) rfl rfl ?_
    refine own_retN X0 hx lk hret (by simp) (hb hby d1_17) (by decide) (by decide) ?_
    rw [e0]
    rw [Int32.lt_iff_toInt_lt] at c1
    exact bad (fun g => by have := g.1; omega)
theorem d2_0 : decode method_3_code 0 = .ok (.iload_n 0, 1) := by decide +kernel
theorem d2_1 : decode method_3_code 1 = .ok (.ifCond .le 15, 3) := by decide +kernel
theorem d2_4 : decode method_3_code 4 = .ok (.iload_n 0, 1) := by decide +kernel
theorem d2_5 : decode method_3_code 5 = .ok (.iload_n 1, 1) := by decide +kernel
theorem d2_6 : decode method_3_code 6 = .ok (.if_icmp .gt 10, 3) := by decide +kernel
theorem d2_9 : decode method_3_code 9 = .ok (.iload_n 0, 1) := by decide +kernel
theorem d2_10 : decode method_3_code 10 = .ok (.bipush 63, 2) := by decide +kernel
theorem d2_12 : decode method_3_code 12 = .ok (.iand, 1) := by decide +kernel
theorem d2_13 : decode method_3_code 13 = .ok (.ifCond .eq 5, 3) := by decide +kernel
theorem d2_16 : decode method_3_code 16 = .ok (.iconst 0, 1) := by decide +kernel
theorem d2_17 : decode method_3_code 17 = .ok (.ireturn, 1) := by decide +kernel
theorem d2_18 : decode method_3_code 18 = .ok (.iload_n 0, 1) := by decide +kernel
theorem d2_19 : decode method_3_code 19 = .ok (.bipush 6, 2) := by decide +kernel
theorem d2_21 : decode method_3_code 21 = .ok (.ishr, 1) := by decide +kernel
theorem d2_22 : decode method_3_code 22 = .ok (.i2l, 1) := by decide +kernel
theorem d2_23 : decode method_3_code 23 = .ok (.lstore_n 2, 1) := by decide +kernel
theorem d2_24 : decode method_3_code 24 = .ok (.iload_n 1, 1) := by decide +kernel
theorem d2_25 : decode method_3_code 25 = .ok (.bipush 6, 2) := by decide +kernel
theorem d2_27 : decode method_3_code 27 = .ok (.ishr, 1) := by decide +kernel
theorem d2_28 : decode method_3_code 28 = .ok (.i2l, 1) := by decide +kernel
theorem d2_29 : decode method_3_code 29 = .ok (.lstore 4, 2) := by decide +kernel
theorem d2_31 : decode method_3_code 31 = .ok (.lload 4, 2) := by decide +kernel
theorem d2_33 : decode method_3_code 33 = .ok (.lload_n 2, 1) := by decide +kernel
theorem d2_34 : decode method_3_code 34 = .ok (.lsub, 1) := by decide +kernel
theorem d2_35 : decode method_3_code 35 = .ok (.lstore 6, 2) := by decide +kernel
theorem d2_37 : decode method_3_code 37 = .ok (.lload_n 2, 1) := by decide +kernel
theorem d2_38 : decode method_3_code 38 = .ok (.lload_n 2, 1) := by decide +kernel
theorem d2_39 : decode method_3_code 39 = .ok (.lneg, 1) := by decide +kernel
theorem d2_40 : decode method_3_code 40 = .ok (.land, 1) := by decide +kernel
theorem d2_41 : decode method_3_code 41 = .ok (.lstore 8, 2) := by decide +kernel
theorem d2_43 : decode method_3_code 43 = .ok (.lload 6, 2) := by decide +kernel
theorem d2_45 : decode method_3_code 45 = .ok (.ldc2_w 18, 3) := by decide +kernel
theorem d2_48 : decode method_3_code 48 = .ok (.lload 8, 2) := by decide +kernel
theorem d2_50 : decode method_3_code 50 = .ok (.lmul, 1) := by decide +kernel
theorem d2_51 : decode method_3_code 51 = .ok (.lcmp, 1) := by decide +kernel
theorem d2_52 : decode method_3_code 52 = .ok (.ifCond .ge 7, 3) := by decide +kernel
theorem d2_55 : decode method_3_code 55 = .ok (.iconst 1, 1) := by decide +kernel
theorem d2_56 : decode method_3_code 56 = .ok (.goto 4, 3) := by decide +kernel
theorem d2_59 : decode method_3_code 59 = .ok (.iconst 0, 1) := by decide +kernel
theorem d2_60 : decode method_3_code 60 = .ok (.ireturn, 1) := by decide +kernel
theorem pn_2 : plainName "com/example/revisit/revisit/schedule/CheckpointsKeepsPinLaw" = true := by first | (simp [plainName, overriddenIn]; done) | decide +kernel
theorem ef_2 (m : MethodId) (p1 : Int32) (p2 : Int32) : entryFrame m #[(.int p1), (.int p2)] 10 = mkF m 0 #[.val (.int p1), .val (.int p2), .unset, .unset, .unset, .unset, .unset, .unset, .unset, .unset] [] := by first | rfl | (simp [entryFrame, mkF, argsToLocals, Value.category]; done)
theorem pd_2 : parseMethodDescriptor "(II)Z" = some ⟨[.int, .int], some .boolean⟩ := by decide +kernel
def Q2 (Z : State) (p1 : Int32) (p2 : Int32)  (h0 : Heap) (n0 : Nat) (v : Option Value) (h : Heap) (L : List Loc) : Prop := ((v = some (.int 1) ∧ Good p1.toInt p2.toInt) ∨ (v = some (.int 0) ∧ ¬ Good p1.toInt p2.toInt)) ∧ Fr n0 L ∧ h0 = h
theorem rm2 (l : Launch) (Z : State) (a0 : Array Value) (hw : ∀ d ∈ tables_1, d.before a0 Z = true) (ws : List Jvm.Cond) (p1 : Int32) (p2 : Int32)  (h0 : Heap) (n0 : Nat) (Z0 : n0 ≤ h0.size)  :
    MetFree l (⟨"com/example/revisit/revisit/schedule/CheckpointsKeepsPinLaw", "expected", "(II)Z"⟩ : MethodName) (head1 (Jvm.Cond.code (⟨"com/example/revisit/revisit/schedule/CheckpointsKeepsPinLaw", "expected", "(II)Z"⟩ : MethodName) method_3_code 10 (some .boolean) :: ws) ({ frames := 0, cells := 0, slots := 0, locals := 0 } : Room)) (fun a U => a = #[(.int p1), (.int p2)] ∧ Z.Warmed39 U.vm ∧ U.heap = h0) (fun _ _ _ _ _ => True) (fun _ U o U' => ∃ v L, o = .returned v ∧ (Q2 Z p1 p2  h0 n0) v U'.heap L ∧ FrameEnd U o U' L ({ frames := 0, cells := 0, slots := 0, locals := 0 } : Room).cells ({ frames := 0, cells := 0, slots := 0, locals := 0 } : Room).slots) := by
  refine MetFree.of_bodySF (plainFor_of_name pn_2) hisR ?_
  intro p e s m args below meth c s₁ Bd hml0 hP hK
  obtain ⟨rfl, hZ, hh⟩ := hP
  have hx := Bd.exec
  have hby := Bd.bytes
  have hml : c.maxLocals = 10 := hml0
  have hown : s.vm.findClass "com/example/revisit/revisit/schedule/CheckpointsKeepsPinLaw" = some m.cls := findClass_of_methodNamed Bd.named
  have hnm := (name_of_methodNamed Bd.named Bd.method).1
  have X0 : Stand p l e ({ frames := 0, cells := 0, slots := 0, locals := 0 } : Room) s m #[(.int p1), (.int p2)] below meth c s₁ [] 0 0 := Stand.of_body Bd
  have e0 : s₁.heap = h0 := by rw [← hh, Bd.state]; rfl
  have N0 := Fr.nil n0
  have lk : meth.locks = false := BodyLoose.notSynchronized Bd
  have hret := Bd.returns
  show Ends p e below s ({ frames := 0, cells := 0, slots := 0, locals := 0 } : Room).cells ({ frames := 0, cells := 0, slots := 0, locals := 0 } : Room).slots (Q2 Z p1 p2  h0 n0) (s₁.setTop (entryFrame m #[(.int p1), (.int p2)] 10))
  refine Ends.cast (ef_2 m p1 p2) ?_
  have o0 : (0 : Int32).toInt = 0 := rfl
  refine own_iloadN (n := 1) X0 hx (hb hby d2_0) rfl rfl ?_
  by_cases c1 : 0 < p1
  · refine own_ifNo (n := 4) X0 hx (hb hby d2_1) (Jvm.Free.XT.i0_le_f c1) rfl ?_
    refine own_iloadN (n := 5) X0 hx (hb hby d2_4) rfl rfl ?_
    refine own_iloadN (n := 6) X0 hx (hb hby d2_5) rfl rfl ?_
    by_cases c6 : p2 < p1
    · refine own_icmpYes (n := 16) X0 hx (hb hby d2_6) (Jvm.Free.XT.ii_gt_t c6) (by decide) (by decide) ?_
      refine own_iconst (n := 17) X0 hx (0 : Int32) (hb hby d2_16) rfl rfl ?_
      refine own_retN X0 hx lk hret (by simp) (hb hby d2_17) (by decide) (by decide) ?_
      rw [e0]
      rw [Int32.lt_iff_toInt_lt] at c6
      exact ⟨Or.inr ⟨rfl, fun g => by have := g.2.1; omega⟩, N0, rfl⟩
    · refine own_icmpNo (n := 9) X0 hx (hb hby d2_6) (Jvm.Free.XT.ii_gt_f c6) rfl ?_
      refine own_iloadN (n := 10) X0 hx (hb hby d2_9) rfl rfl ?_
      refine own_bipush (n := 12) X0 hx (63 : Int32) (hb hby d2_10) rfl rfl ?_
      refine own_iand (n := 13) X0 hx (hb hby d2_12) rfl ?_
      by_cases c13 : (p1 &&& (63 : Int32)) = 0
      · refine own_ifYes (n := 18) X0 hx (hb hby d2_13) (Jvm.Free.XT.i0_eq_t c13) (by decide) (by decide) ?_
        rw [Int32.lt_iff_toInt_lt] at c1 c6
        have h1 : 0 < p1.toInt := by omega
        have h2 : p1.toInt ≤ p2.toInt := by omega
        have h3 := own_and63.mp c13
        refine own_iloadN (n := 19) X0 hx (hb hby d2_18) rfl rfl ?_
        refine own_bipush (n := 21) X0 hx (6 : Int32) (hb hby d2_19) rfl rfl ?_
        refine own_ishr (n := 22) X0 hx (hb hby d2_21) rfl ?_
        refine own_i2l (n := 23) X0 hx (hb hby d2_22) rfl ?_
        refine own_lstoreN (n := 24) X0 hx (hb hby d2_23) (l' := #[.val (.int p1), .val (.int p2), .val (.long ((p1 >>> ((6 : Int32) &&& 31)).toInt64)), .second, .unset, .unset, .unset, .unset, .unset, .unset]) rfl rfl ?_
        show Ends p e below s ({ frames := 0, cells := 0, slots := 0, locals := 0 } : Room).cells ({ frames := 0, cells := 0, slots := 0, locals := 0 } : Room).slots (Q2 Z p1 p2  h0 n0) (s₁.setTop (mkF m 24 #[.val (.int p1), .val (.int p2), .val (.long ((p1 >>> ((6 : Int32) &&& 31)).toInt64)), .second, .unset, .unset, .unset, .unset, .unset, .unset] []))
        generalize g_m_ : ((p1 >>> ((6 : Int32) &&& 31)).toInt64) = m_
        refine own_iloadN (n := 25) X0 hx (hb hby d2_24) rfl rfl ?_
        refine own_bipush (n := 27) X0 hx (6 : Int32) (hb hby d2_25) rfl rfl ?_
        refine own_ishr (n := 28) X0 hx (hb hby d2_27) rfl ?_
        refine own_i2l (n := 29) X0 hx (hb hby d2_28) rfl ?_
        refine own_lstore (n := 31) X0 hx (hb hby d2_29) (l' := #[.val (.int p1), .val (.int p2), .val (.long m_), .second, .val (.long ((p2 >>> ((6 : Int32) &&& 31)).toInt64)), .second, .unset, .unset, .unset, .unset]) rfl rfl ?_
        show Ends p e below s ({ frames := 0, cells := 0, slots := 0, locals := 0 } : Room).cells ({ frames := 0, cells := 0, slots := 0, locals := 0 } : Room).slots (Q2 Z p1 p2  h0 n0) (s₁.setTop (mkF m 31 #[.val (.int p1), .val (.int p2), .val (.long m_), .second, .val (.long ((p2 >>> ((6 : Int32) &&& 31)).toInt64)), .second, .unset, .unset, .unset, .unset] []))
        generalize g_s_ : ((p2 >>> ((6 : Int32) &&& 31)).toInt64) = s_
        refine own_lload (n := 33) X0 hx (hb hby d2_31) rfl rfl ?_
        refine own_lloadN (n := 34) X0 hx (hb hby d2_33) rfl rfl ?_
        refine own_lsub (n := 35) X0 hx (hb hby d2_34) rfl ?_
        refine own_lstore (n := 37) X0 hx (hb hby d2_35) (l' := #[.val (.int p1), .val (.int p2), .val (.long m_), .second, .val (.long s_), .second, .val (.long (s_ - m_)), .second, .unset, .unset]) rfl rfl ?_
        show Ends p e below s ({ frames := 0, cells := 0, slots := 0, locals := 0 } : Room).cells ({ frames := 0, cells := 0, slots := 0, locals := 0 } : Room).slots (Q2 Z p1 p2  h0 n0) (s₁.setTop (mkF m 37 #[.val (.int p1), .val (.int p2), .val (.long m_), .second, .val (.long s_), .second, .val (.long (s_ - m_)), .second, .unset, .unset] []))
        generalize g_d_ : (s_ - m_) = d_
        refine own_lloadN (n := 38) X0 hx (hb hby d2_37) rfl rfl ?_
        refine own_lloadN (n := 39) X0 hx (hb hby d2_38) rfl rfl ?_
        refine own_lneg (n := 40) X0 hx (hb hby d2_39) rfl ?_
        refine own_land (n := 41) X0 hx (hb hby d2_40) rfl ?_
        refine own_lstore (n := 43) X0 hx (hb hby d2_41) (l' := #[.val (.int p1), .val (.int p2), .val (.long m_), .second, .val (.long s_), .second, .val (.long d_), .second, .val (.long (m_ &&& (-m_))), .second]) rfl rfl ?_
        show Ends p e below s ({ frames := 0, cells := 0, slots := 0, locals := 0 } : Room).cells ({ frames := 0, cells := 0, slots := 0, locals := 0 } : Room).slots (Q2 Z p1 p2  h0 n0) (s₁.setTop (mkF m 43 #[.val (.int p1), .val (.int p2), .val (.long m_), .second, .val (.long s_), .second, .val (.long d_), .second, .val (.long (m_ &&& (-m_))), .second] []))
        generalize g_lo_ : (m_ &&& (-m_)) = lo_
        have r1 := rng32 p1
        have r2 := rng32 p2
        have em : m_.toInt = p1.toInt / 64 := by rw [← g_m_, c_i2l, c_ishr p1 6 6 (by decide)]; rfl
        have es : s_.toInt = p2.toInt / 64 := by rw [← g_s_, c_i2l, c_ishr p2 6 6 (by decide)]; rfl
        have ed : d_.toInt = p2.toInt / 64 - p1.toInt / 64 := by
          rw [← g_d_]
          have a1 := c_lsub s_ m_
          have a2 := rng64 (s_ - m_)
          omega
        obtain ⟨j, hj31, hlow, hdvd, hmax⟩ := own_low m_ (by omega) (by omega)
        rw [g_lo_] at hlow
        have hpj : (2 : Int) ^ j < 2147483648 := by
          have := Nat.pow_lt_pow_right (a := 2) (by decide) hj31
          have c2 : ((2 : Int) ^ j) = ((2 ^ j : Nat) : Int) := by simp
          omega
        have hp0 := own_pow j
        rw [em] at hdvd hmax
        have hiff := own_iff h1 h2 h3 hdvd hmax
        have el : ((2 : Int64) * lo_).toInt = 2 * 2 ^ j := by
          have a1 := c_lmul 2 lo_
          have a2 := rng64 (2 * lo_)
          have o : (2 : Int64).toInt = 2 := rfl
          rw [hlow, o] at a1
          omega
        refine own_lload (n := 45) X0 hx (hb hby d2_43) rfl rfl ?_
        refine own_ldc2_w (n := 48) X0 hx hZ hown (hw _ (List.mem_of_getElem? (i := 9) rfl)) (hb hby d2_45) rfl ?_
        refine own_lload (n := 50) X0 hx (hb hby d2_48) rfl rfl ?_
        refine own_lmul (n := 51) X0 hx (hb hby d2_50) rfl ?_
        refine own_lcmp (n := 52) X0 hx (hb hby d2_51) rfl ?_
        by_cases c52 : d_ < ((2 : Int64) * lo_)
        · refine own_ifNo (n := 55) X0 hx (hb hby d2_52) (lw_ge_f c52) rfl ?_
          refine own_iconst (n := 56) X0 hx (1 : Int32) (hb hby d2_55) rfl rfl ?_
          refine own_goto (n := 60) X0 hx (hb hby d2_56) (by decide) (by decide) ?_
          refine own_retN X0 hx lk hret (by simp) (hb hby d2_60) (by decide) (by decide) ?_
          rw [e0]
          rw [Int64.lt_iff_toInt_lt, el, ed] at c52
          exact ⟨Or.inl ⟨rfl, h1, h2, h3, hiff.mpr c52⟩, N0, rfl⟩
        · refine own_ifYes (n := 59) X0 hx (hb hby d2_52) (lw_ge_t c52) (by decide) (by decide) ?_
          refine own_iconst (n := 60) X0 hx (0 : Int32) (hb hby d2_59) rfl rfl ?_
          refine own_retN X0 hx lk hret (by simp) (hb hby d2_60) (by decide) (by decide) ?_
          rw [e0]
          rw [Int64.lt_iff_toInt_lt, el, ed] at c52
          exact ⟨Or.inr ⟨rfl, fun g => c52 (hiff.mp g.2.2.2)⟩, N0, rfl⟩
      · refine own_ifNo (n := 16) X0 hx (hb hby d2_13) (Jvm.Free.XT.i0_eq_f c13) rfl ?_
        refine own_iconst (n := 17) X0 hx (0 : Int32) (hb hby d2_16) rfl rfl ?_
        refine own_retN X0 hx lk hret (by simp) (hb hby d2_17) (by decide) (by decide) ?_
        rw [e0]
        exact ⟨Or.inr ⟨rfl, fun g => c13 (own_and63.mpr g.2.2.1)⟩, N0, rfl⟩
  · refine own_ifYes (n := 16) X0 hx (hb hby d2_1) (Jvm.Free.XT.i0_le_t c1) (by decide) (by decide) ?_
    refine own_iconst (n := 17) X0 hx (0 : Int32) (hb hby d2_16) rfl rfl ?_
    refine own_retN X0 hx lk hret (by simp) (hb hby d2_17) (by decide) (by decide) ?_
    rw [e0]
    rw [Int32.lt_iff_toInt_lt] at c1
    exact ⟨Or.inr ⟨rfl, fun g => by have := g.1; omega⟩, N0, rfl⟩
theorem pn_0 : plainName "com/example/revisit/revisit/schedule/CheckpointsKeepsPinLaw" = true := by first | (simp [plainName, overriddenIn]; done) | decide +kernel
theorem ef_0 (m : MethodId) (p1 : Int32) (p2 : Int32) (p3 : Int32) : entryFrame m #[(.int p1), (.int p2), (.int p3)] maxLocals = mkF m 0 #[.val (.int p1), .val (.int p2), .val (.int p3), .unset, .unset, .unset, .unset, .unset] [] := by first | rfl | (simp [entryFrame, mkF, argsToLocals, Value.category, maxLocals]; done)
def Q0 (Z : State) (p1 : Int32) (p2 : Int32) (p3 : Int32)  (h0 : Heap) (n0 : Nat) (v : Option Value) (h : Heap) (L : List Loc) : Prop := v = some (.int 1) ∧ Fr n0 L
theorem rm0 (l : Launch) (Z : State) (a0 : Array Value) (hw : ∀ d ∈ tables_1, d.before a0 Z = true) (ws : List Jvm.Cond) (p1 : Int32) (p2 : Int32) (p3 : Int32)  (h0 : Heap) (n0 : Nat) (Z0 : n0 ≤ h0.size)  :
    MetFree l x (head1 (Jvm.Cond.code x code maxLocals ret :: ws) room_1) (fun a U => a = #[(.int p1), (.int p2), (.int p3)] ∧ Z.Warmed39 U.vm ∧ U.heap = h0) (fun _ _ _ _ _ => True) (fun _ U o U' => ∃ v L, o = .returned v ∧ (Q0 Z p1 p2 p3  h0 n0) v U'.heap L ∧ FrameEnd U o U' L 0 0) := by
  refine MetFree.of_bodySF (plainFor_of_name pn_0) hisR ?_
  intro p e s m args below meth c s₁ Bd hml0 hP hK
  obtain ⟨rfl, hZ, hh⟩ := hP
  have hx := Bd.exec
  have hby := Bd.bytes
  have hml : c.maxLocals = 8 := hml0
  have hown : s.vm.findClass "com/example/revisit/revisit/schedule/CheckpointsKeepsPinLaw" = some m.cls := findClass_of_methodNamed Bd.named
  have hnm := (name_of_methodNamed Bd.named Bd.method).1
  have X0 : Stand p l e room_1 s m #[(.int p1), (.int p2), (.int p3)] below meth c s₁ [] 0 0 := Stand.of_body Bd
  have e0 : s₁.heap = h0 := by rw [← hh, Bd.state]; rfl
  have N0 := Fr.nil n0
  have lk : meth.locks = false := BodyLoose.notSynchronized Bd
  have hret := Bd.returns
  show Ends p e below s 0 0 (Q0 Z p1 p2 p3  h0 n0) (s₁.setTop (entryFrame m #[(.int p1), (.int p2), (.int p3)] maxLocals))
  refine Ends.cast (ef_0 m p1 p2 p3) ?_
  have blk91 : ∀ (md sl : Int32) (s6 s7 : Slot), Ends p e below s 0 0 (Q0 Z p1 p2 p3  h0 n0) (s₁.setTop (mkF m 91 #[.val (.int p1), .val (.int p2), .val (.int p3), .val (.int p2), .val (.int md), .val (.int sl), s6, s7] [])) := by
    intro md sl s6 s7
    refine own_iload (n := 93) X0 hx (hb hby at_91) rfl rfl ?_
    refine own_iloadN (n := 94) X0 hx (hb hby at_93) rfl rfl ?_
    refine own_callS (n := 97) X0 hx hZ hown (hw _ (List.mem_of_getElem? (i := 0) rfl)) (hw _ (List.mem_of_getElem? (i := 1) rfl)) (hw _ (List.mem_of_getElem? (i := 2) rfl)) (hw _ (List.mem_of_getElem? (i := 3) rfl)) (by decide) e0 (rm1 l Z a0 hw [] sl p2 h0 n0 Z0 ) (W := 0) (by decide) (by decide) (by decide) (by decide) (by rw [hml]; rfl) (argsL := [(.int sl), (.int p2)]) (rest := []) pd_1 rfl (by rfl) (Nat.le_of_eq rfl) (hb hby at_94) rfl rfl ?_
    intro v1 T1 h1 L1 X1 e1 q1
    obtain ⟨qa, M1, rfl⟩ := q1
    have N1 := Fr.app N0 M1
    obtain ⟨v1_, rfl, hv1⟩ : ∃ z, v1 = some (.int z) ∧ ((z = 1 ∧ Good sl.toInt p2.toInt) ∨ (z = 0 ∧ ¬ Good sl.toInt p2.toInt)) := by
      rcases qa with ⟨rfl, z⟩ | ⟨rfl, z⟩
      · exact ⟨1, rfl, Or.inl ⟨rfl, z⟩⟩
      · exact ⟨0, rfl, Or.inr ⟨rfl, z⟩⟩
    refine own_iload (n := 99) X1 hx (hb hby at_97) rfl rfl ?_
    refine own_iloadN (n := 100) X1 hx (hb hby at_99) rfl rfl ?_
    refine own_callS (n := 103) X1 hx hZ hown (hw _ (List.mem_of_getElem? (i := 4) rfl)) (hw _ (List.mem_of_getElem? (i := 5) rfl)) (hw _ (List.mem_of_getElem? (i := 6) rfl)) (hw _ (List.mem_of_getElem? (i := 7) rfl)) (by decide) e1 (rm2 l Z a0 hw [] sl p2 h0 n0 Z0 ) (W := 1) (by decide) (by decide) (by decide) (by decide) (by rw [hml]; rfl) (argsL := [(.int sl), (.int p2)]) (rest := [(.int v1_)]) pd_2 rfl (by rfl) (Nat.le_of_eq rfl) (hb hby at_100) rfl rfl ?_
    intro v2 T2 h2 L2 X2 e2 q2
    obtain ⟨qb, M2, rfl⟩ := q2
    have N2 := Fr.app N1 M2
    obtain ⟨v2_, rfl, hv2⟩ : ∃ z, v2 = some (.int z) ∧ ((z = 1 ∧ Good sl.toInt p2.toInt) ∨ (z = 0 ∧ ¬ Good sl.toInt p2.toInt)) := by
      rcases qb with ⟨rfl, z⟩ | ⟨rfl, z⟩
      · exact ⟨1, rfl, Or.inl ⟨rfl, z⟩⟩
      · exact ⟨0, rfl, Or.inr ⟨rfl, z⟩⟩
    refine own_icmpNo (n := 106) X2 hx (hb hby at_103) (Jvm.Free.XT.ii_ne_f (by rcases hv1 with ⟨z1, z2⟩ | ⟨z1, z2⟩ <;> rcases hv2 with ⟨z3, z4⟩ | ⟨z3, z4⟩ <;> first | exact z1.trans z3.symm | exact absurd z2 z4 | exact absurd z4 z2)) rfl ?_
    refine own_iconst (n := 107) X2 hx (1 : Int32) (hb hby at_106) rfl rfl ?_
    refine own_goto (n := 111) X2 hx (hb hby at_107) (by decide) (by decide) ?_
    refine own_retN X2 hx lk hret (by simp) (hb hby at_111) (by decide) (by decide) ?_
    rw [e2]
    exact ⟨rfl, N2⟩
  refine own_iloadN (n := 1) X0 hx (hb hby at_0) rfl rfl ?_
  refine own_istoreN (n := 2) X0 hx (hb hby at_1) (l' := #[.val (.int p1), .val (.int p2), .val (.int p3), .val (.int p2), .unset, .unset, .unset, .unset]) rfl rfl ?_
  refine own_iloadN (n := 3) X0 hx (hb hby at_2) rfl rfl ?_
  refine own_iconst (n := 4) X0 hx (3 : Int32) (hb hby at_3) rfl rfl ?_
  refine own_iand (n := 5) X0 hx (hb hby at_4) rfl ?_
  refine own_istore (n := 7) X0 hx (hb hby at_5) (l' := #[.val (.int p1), .val (.int p2), .val (.int p3), .val (.int p2), .val (.int (p3 &&& (3 : Int32))), .unset, .unset, .unset]) rfl rfl ?_
  refine own_iload (n := 9) X0 hx (hb hby at_7) rfl rfl ?_
  by_cases c9 : (p3 &&& (3 : Int32)) = 0
  · refine own_ifNo (n := 12) X0 hx (hb hby at_9) (Jvm.Free.XT.i0_ne_f c9) rfl ?_
    refine own_iloadN (n := 13) X0 hx (hb hby at_12) rfl rfl ?_
    refine own_istore (n := 15) X0 hx (hb hby at_13) (l' := #[.val (.int p1), .val (.int p2), .val (.int p3), .val (.int p2), .val (.int (p3 &&& (3 : Int32))), .val (.int p1), .unset, .unset]) rfl rfl ?_
    refine own_goto (n := 91) X0 hx (hb hby at_15) (by decide) (by decide) ?_
    show Ends p e below s 0 0 (Q0 Z p1 p2 p3  h0 n0) (s₁.setTop (mkF m 91 #[.val (.int p1), .val (.int p2), .val (.int p3), .val (.int p2), .val (.int (p3 &&& (3 : Int32))), .val (.int p1), .unset, .unset] []))
    exact blk91 _ _ _ _
  · refine own_ifYes (n := 18) X0 hx (hb hby at_9) (Jvm.Free.XT.i0_ne_t c9) (by decide) (by decide) ?_
    refine own_iload (n := 20) X0 hx (hb hby at_18) rfl rfl ?_
    refine own_iconst (n := 21) X0 hx (1 : Int32) (hb hby at_20) rfl rfl ?_
    by_cases c21 : (p3 &&& (3 : Int32)) = (1 : Int32)
    · refine own_icmpNo (n := 24) X0 hx (hb hby at_21) (Jvm.Free.XT.ii_ne_f c21) rfl ?_
      refine own_iloadN (n := 25) X0 hx (hb hby at_24) rfl rfl ?_
      refine own_bipush (n := 27) X0 hx ((-64) : Int32) (hb hby at_25) rfl rfl ?_
      refine own_iand (n := 28) X0 hx (hb hby at_27) rfl ?_
      refine own_istore (n := 30) X0 hx (hb hby at_28) (l' := #[.val (.int p1), .val (.int p2), .val (.int p3), .val (.int p2), .val (.int (p3 &&& (3 : Int32))), .val (.int (p1 &&& ((-64) : Int32))), .unset, .unset]) rfl rfl ?_
      refine own_goto (n := 91) X0 hx (hb hby at_30) (by decide) (by decide) ?_
      show Ends p e below s 0 0 (Q0 Z p1 p2 p3  h0 n0) (s₁.setTop (mkF m 91 #[.val (.int p1), .val (.int p2), .val (.int p3), .val (.int p2), .val (.int (p3 &&& (3 : Int32))), .val (.int (p1 &&& ((-64) : Int32))), .unset, .unset] []))
      exact blk91 _ _ _ _
    · refine own_icmpYes (n := 33) X0 hx (hb hby at_21) (Jvm.Free.XT.ii_ne_t c21) (by decide) (by decide) ?_
      refine own_iload (n := 35) X0 hx (hb hby at_33) rfl rfl ?_
      refine own_iconst (n := 36) X0 hx (2 : Int32) (hb hby at_35) rfl rfl ?_
      by_cases c36 : (p3 &&& (3 : Int32)) = (2 : Int32)
      · refine own_icmpNo (n := 39) X0 hx (hb hby at_36) (Jvm.Free.XT.ii_ne_f c36) rfl ?_
        refine own_iloadN (n := 40) X0 hx (hb hby at_39) rfl rfl ?_
        refine own_bipush (n := 42) X0 hx ((-64) : Int32) (hb hby at_40) rfl rfl ?_
        refine own_iand (n := 43) X0 hx (hb hby at_42) rfl ?_
        refine own_iloadN (n := 44) X0 hx (hb hby at_43) rfl rfl ?_
        refine own_sipush (n := 47) X0 hx (1023 : Int32) (hb hby at_44) rfl rfl ?_
        refine own_iand (n := 48) X0 hx (hb hby at_47) rfl ?_
        refine own_bipush (n := 50) X0 hx (6 : Int32) (hb hby at_48) rfl rfl ?_
        refine own_ishl (n := 51) X0 hx (hb hby at_50) rfl ?_
        refine own_isub (n := 52) X0 hx (hb hby at_51) rfl ?_
        refine own_istore (n := 54) X0 hx (hb hby at_52) (l' := #[.val (.int p1), .val (.int p2), .val (.int p3), .val (.int p2), .val (.int (p3 &&& (3 : Int32))), .val (.int ((p2 &&& ((-64) : Int32)) - ((p1 &&& (1023 : Int32)) <<< ((6 : Int32) &&& 31)))), .unset, .unset]) rfl rfl ?_
        refine own_goto (n := 91) X0 hx (hb hby at_54) (by decide) (by decide) ?_
        show Ends p e below s 0 0 (Q0 Z p1 p2 p3  h0 n0) (s₁.setTop (mkF m 91 #[.val (.int p1), .val (.int p2), .val (.int p3), .val (.int p2), .val (.int (p3 &&& (3 : Int32))), .val (.int ((p2 &&& ((-64) : Int32)) - ((p1 &&& (1023 : Int32)) <<< ((6 : Int32) &&& 31)))), .unset, .unset] []))
        exact blk91 _ _ _ _
      · refine own_icmpYes (n := 57) X0 hx (hb hby at_36) (Jvm.Free.XT.ii_ne_t c36) (by decide) (by decide) ?_
        refine own_iloadN (n := 58) X0 hx (hb hby at_57) rfl rfl ?_
        refine own_bipush (n := 60) X0 hx (31 : Int32) (hb hby at_58) rfl rfl ?_
        refine own_iand (n := 61) X0 hx (hb hby at_60) rfl ?_
        refine own_istore (n := 63) X0 hx (hb hby at_61) (l' := #[.val (.int p1), .val (.int p2), .val (.int p3), .val (.int p2), .val (.int (p3 &&& (3 : Int32))), .unset, .val (.int (p1 &&& (31 : Int32))), .unset]) rfl rfl ?_
        refine own_iloadN (n := 64) X0 hx (hb hby at_63) rfl rfl ?_
        refine own_bipush (n := 66) X0 hx (6 : Int32) (hb hby at_64) rfl rfl ?_
        refine own_ishr (n := 67) X0 hx (hb hby at_66) rfl ?_
        refine own_iload (n := 69) X0 hx (hb hby at_67) rfl rfl ?_
        refine own_ishr (n := 70) X0 hx (hb hby at_69) rfl ?_
        refine own_iload (n := 72) X0 hx (hb hby at_70) rfl rfl ?_
        refine own_ishl (n := 73) X0 hx (hb hby at_72) rfl ?_
        refine own_iloadN (n := 74) X0 hx (hb hby at_73) rfl rfl ?_
        refine own_iconst (n := 75) X0 hx (5 : Int32) (hb hby at_74) rfl rfl ?_
        refine own_ishr (n := 76) X0 hx (hb hby at_75) rfl ?_
        refine own_iconst (n := 77) X0 hx (3 : Int32) (hb hby at_76) rfl rfl ?_
        refine own_iand (n := 78) X0 hx (hb hby at_77) rfl ?_
        refine own_iload (n := 80) X0 hx (hb hby at_78) rfl rfl ?_
        refine own_ishl (n := 81) X0 hx (hb hby at_80) rfl ?_
        refine own_isub (n := 82) X0 hx (hb hby at_81) rfl ?_
        refine own_istore (n := 84) X0 hx (hb hby at_82) (l' := #[.val (.int p1), .val (.int p2), .val (.int p3), .val (.int p2), .val (.int (p3 &&& (3 : Int32))), .unset, .val (.int (p1 &&& (31 : Int32))), .val (.int ((((p2 >>> ((6 : Int32) &&& 31)) >>> ((p1 &&& (31 : Int32)) &&& 31)) <<< ((p1 &&& (31 : Int32)) &&& 31)) - (((p1 >>> ((5 : Int32) &&& 31)) &&& (3 : Int32)) <<< ((p1 &&& (31 : Int32)) &&& 31))))]) rfl rfl ?_
        refine own_iload (n := 86) X0 hx (hb hby at_84) rfl rfl ?_
        refine own_bipush (n := 88) X0 hx (6 : Int32) (hb hby at_86) rfl rfl ?_
        refine own_ishl (n := 89) X0 hx (hb hby at_88) rfl ?_
        refine own_istore (n := 91) X0 hx (hb hby at_89) (l' := #[.val (.int p1), .val (.int p2), .val (.int p3), .val (.int p2), .val (.int (p3 &&& (3 : Int32))), .val (.int (((((p2 >>> ((6 : Int32) &&& 31)) >>> ((p1 &&& (31 : Int32)) &&& 31)) <<< ((p1 &&& (31 : Int32)) &&& 31)) - (((p1 >>> ((5 : Int32) &&& 31)) &&& (3 : Int32)) <<< ((p1 &&& (31 : Int32)) &&& 31))) <<< ((6 : Int32) &&& 31))), .val (.int (p1 &&& (31 : Int32))), .val (.int ((((p2 >>> ((6 : Int32) &&& 31)) >>> ((p1 &&& (31 : Int32)) &&& 31)) <<< ((p1 &&& (31 : Int32)) &&& 31)) - (((p1 >>> ((5 : Int32) &&& 31)) &&& (3 : Int32)) <<< ((p1 &&& (31 : Int32)) &&& 31))))]) rfl rfl ?_
        show Ends p e below s 0 0 (Q0 Z p1 p2 p3  h0 n0) (s₁.setTop (mkF m 91 #[.val (.int p1), .val (.int p2), .val (.int p3), .val (.int p2), .val (.int (p3 &&& (3 : Int32))), .val (.int (((((p2 >>> ((6 : Int32) &&& 31)) >>> ((p1 &&& (31 : Int32)) &&& 31)) <<< ((p1 &&& (31 : Int32)) &&& 31)) - (((p1 >>> ((5 : Int32) &&& 31)) &&& (3 : Int32)) <<< ((p1 &&& (31 : Int32)) &&& 31))) <<< ((6 : Int32) &&& 31))), .val (.int (p1 &&& (31 : Int32))), .val (.int ((((p2 >>> ((6 : Int32) &&& 31)) >>> ((p1 &&& (31 : Int32)) &&& 31)) <<< ((p1 &&& (31 : Int32)) &&& 31)) - (((p1 >>> ((5 : Int32) &&& 31)) &&& (3 : Int32)) <<< ((p1 &&& (31 : Int32)) &&& 31))))] []))
        exact blk91 _ _ _ _
theorem comes_1 {Post : Tables → Env → Array Value → State → Outcome → State → Prop} (hpost : ∀ tb e args s v u, (limb_1_1.after args s (.returned v) u = true ∧ limb_1_2.after args s (.returned v) u = true ∧ True) → FrameEnd s (.returned v) u (Jvm.fieldLocs frame_1_writes args s ++ Jvm.arrayLocs frame_1_arrays args s ++ Jvm.staticLocs frame_1_statics s) 0 0 → Post tb e args s (.returned v) u) :
    ArmFor flags0 classFile x code maxLocals ret World_1 tables_1 room_1 Calls_1 rest_1 Pre_1 Post := by
  intro l hfl _ _ p e ha hc hk s m args below hf hA hF happ hP
  obtain ⟨hcalls, hrest, hpre⟩ := hP
  obtain ⟨-, -, -, hnamed, -, -, -, hat⟩ := (Spec.applies_iff hf).mp happ
  obtain ⟨hg, hn⟩ := and_e (Cond.before_iff.mp (show (Jvm.Cond.and given_1 narrow_1).before args s = true from hpre))
  obtain ⟨hcount, hg0⟩ := and_e hg
  obtain ⟨hi0, hg1⟩ := and_e hg0
  obtain ⟨hi1, hg2⟩ := and_e hg1
  obtain ⟨w0, w1, w2, rfl⟩ : ∃ w0 w1 w2 : Value, args = #[w0, w1, w2] := by
    have hs : args.size = 3 := by simpa [Cond.value, given_1] using hcount
    obtain ⟨L⟩ := args
    match L, hs with
    | [w0, w1, w2], _ => exact ⟨w0, w1, w2, rfl⟩
  have hw := fun d (hd : d ∈ tables_1) => atoms_spec (ws := Jvm.Cond.code x code maxLocals ret :: tables_1) hat d (List.mem_cons_of_mem _ hd)
  have hfit : Fit s := fun {y c} hc i hi => by
    obtain ⟨ha, rfl⟩ := Array.getElem?_eq_some_iff.mp hc
    have q := List.all_eq_true.mp ((Array.all_eq_true_iff_forall_mem.mp hF) _ (Array.getElem_mem ha)) i (List.mem_range.mpr hi)
    simpa [Array.getElem?_eq_getElem hi] using q
  obtain ⟨i0, j0⟩ := is_v hi0
  obtain rfl : w0 = (.int i0) := Option.some.inj j0
  obtain ⟨i1, j1⟩ := is_v hi1
  obtain rfl : w1 = (.int i1) := Option.some.inj j1
  obtain ⟨i2, j2⟩ := is_v hg2
  obtain rfl : w2 = (.int i2) := Option.some.inj j2
  obtain ⟨n, o, h1, h2, h3, _, L, rfl, ⟨rfl, N⟩, hq⟩ := rm0 l s _ hw tables_1 i0 i1 i2  s.heap s.heap.size (Nat.le_refl _)  p e ha hc hk s m _ below hf ((Spec.applies_iff_loose hf).mp happ).1 ⟨rfl, State.Warmed39.refl s, rfl⟩ trivial
  refine ⟨n, _, h1, h2, h3, hpost _ _ _ _ _ _ ⟨Cond.after_iff.mpr rfl, Cond.after_iff.mpr (eq_i res_at (Term.int_eval (1)) rfl), trivial⟩ ⟨hq.1, hq.2.1, (hq.2.2.sift fun y hy => Or.inr (N y hy)).mono (by decide) (by decide)⟩⟩
theorem main_1_1 : Claimed_1_1 := comes_1 fun _ _ _ _ _ _ h hF => ⟨h.1, hF⟩
theorem main_1_2 : Claimed_1_2 := comes_1 fun _ _ _ _ _ _ h hF => ⟨h.2.1, hF⟩
end Jvm.Pilot.@@N@@
namespace Jvm.Pilot.@@N@@
open Jvm Jvm.ClassFile Sem Op Lib Jvm.Free Jvm.Stand Jvm.Pilot.@@N@@.Jvm.D
/-! MADE BY PROGRAM (witnessworld.py) out of the Statement's table words and the real class files: 9 classes; the members and pool entries that the words name. The judged class is class 1, her method 1. -/
namespace start1
open Jvm.ClassFile
def u (s : String) : CpInfo := .utf8 (stringToUtf16 s)
/-- a pool by its gaps: so many unusable entries, then the entry; so many at the end -/
def gap : Nat → List CpInfo → List CpInfo
  | 0, r => r
  | n + 1, r => .unusable :: gap n r
def poolList (es : List (Nat × CpInfo)) (last : Nat) : List CpInfo := es.foldr (fun e r => gap e.1 (e.2 :: r)) (gap last [])
def pool (es : List (Nat × CpInfo)) (last : Nat) : Array CpInfo := ⟨poolList es last⟩
def fileOf (pool : Array CpInfo) (this : Nat) (attrs : Array Attribute := #[]) (ms : Array MethodInfo := #[]) (fl : Nat := 33) (sup : Nat := 0) (ifs : Array Nat := #[]) (fds : Array FieldInfo := #[]) : ClassFile where
  minorVersion := 0
  majorVersion := 65
  constantPool := pool
  accessFlags := fl
  thisClass := this
  superClass := sup
  interfaces := ifs
  fields := fds
  methods := ms
  attributes := attrs
def plain (name : String) (sup : Option ClassId) : Class where
  name := name
  kind := .ordinary
  loader := none
  accessFlags := 33
  super := sup
  interfaces := #[]
  cf := none
  fields := #[]
  methods := #[]
  instanceTypes := #[]
  staticTypes := #[]
  resolved := #[]
  callSites := []
  init := .initialized
  statics := none
  mirror := none

def pool0 : Array CpInfo := pool [(5, u "<init>"), (0, u "()V"), (1, .class_ 10), (1, u "java/lang/Object")] 113

def k0m0 : Method := { name := "<init>", desc := "()V", sig := { parameters := [], returnType := none }, accessFlags := 1, code := none }
/-- java/lang/Object -/
def k0 : Class := { plain "java/lang/Object" none with
  accessFlags := 33
  interfaces := #[]
  cf := some (fileOf pool0 8 #[] #[{ accessFlags := 1, nameIndex := 5, descriptorIndex := 6, attributes := #[] }] 33 0 #[] #[])
  fields := #[]
  methods := #[k0m0]
  instanceTypes := #[]
  staticTypes := #[]
  resolved := Array.replicate 124 none
  statics := none }

def pool1 : Array CpInfo := pool [(2, .class_ 4), (1, u "java/lang/Object"), (0, u "<init>"), (0, u "()V"), (0, .methodref 8 9), (0, .class_ 10), (0, .nameAndType 11 12), (0, u "com/example/revisit/revisit/schedule/Checkpoints"), (0, u "keeps"), (0, u "(II)Z"), (0, .methodref 14 15), (0, .class_ 16), (0, .nameAndType 17 12), (0, u "com/example/revisit/revisit/schedule/CheckpointsKeepsPinLaw"), (0, u "expected"), (0, .long 2), (3, u "law"), (0, u "(III)Z")] 3

def k1m0 : Method := { name := "<init>", desc := "()V", sig := { parameters := [], returnType := none }, accessFlags := 2, code := none }
def k1c1 : Code := { maxStack := 3, maxLocals := 8, code := code, exceptionTable := #[], attributes := #[] }
def k1m1 : Method := { name := "law", desc := "(III)Z", sig := { parameters := [.int, .int, .int], returnType := some .boolean }, accessFlags := 9, code := some k1c1 }
def k1c2 : Code := { maxStack := 6, maxLocals := 10, code := method_3_code, exceptionTable := #[], attributes := #[] }
def k1m2 : Method := { name := "expected", desc := "(II)Z", sig := { parameters := [.int, .int], returnType := some .boolean }, accessFlags := 10, code := some k1c2 }
/-- com/example/revisit/revisit/schedule/CheckpointsKeepsPinLaw -/
def k1 : Class := { plain "com/example/revisit/revisit/schedule/CheckpointsKeepsPinLaw" (some 0) with
  accessFlags := 49
  interfaces := #[]
  cf := some (fileOf pool1 14 #[] #[{ accessFlags := 2, nameIndex := 5, descriptorIndex := 6, attributes := #[] }, { accessFlags := 9, nameIndex := 22, descriptorIndex := 23, attributes := #[] }, { accessFlags := 10, nameIndex := 17, descriptorIndex := 12, attributes := #[] }] 49 2 #[] #[])
  fields := #[]
  methods := #[k1m0, k1m1, k1m2]
  instanceTypes := #[]
  staticTypes := #[]
  resolved := Array.replicate 27 none
  statics := none }

def pool2 : Array CpInfo := pool [(2, .class_ 4), (1, u "java/lang/Object"), (0, u "<init>"), (0, u "()V"), (4, .class_ 13), (1, u "com/example/revisit/revisit/schedule/Checkpoints"), (0, u "bySlot"), (0, u "Ljava/util/NavigableMap;"), (0, .long 64), (1, .long 2), (79, u "keeps"), (0, u "(II)Z"), (0, u "INTERVAL"), (0, u "I")] 46

def k2m0 : Method := { name := "<init>", desc := "()V", sig := { parameters := [], returnType := none }, accessFlags := 0, code := none }
def k2c1 : Code := { maxStack := 6, maxLocals := 6, code := prog_65_method_2_code, exceptionTable := #[], attributes := #[] }
def k2m1 : Method := { name := "keeps", desc := "(II)Z", sig := { parameters := [.int, .int], returnType := some .boolean }, accessFlags := 8, code := some k2c1 }
/-- com/example/revisit/revisit/schedule/Checkpoints -/
def k2 : Class := { plain "com/example/revisit/revisit/schedule/Checkpoints" (some 0) with
  accessFlags := 48
  interfaces := #[]
  cf := some (fileOf pool2 11 #[] #[{ accessFlags := 0, nameIndex := 5, descriptorIndex := 6, attributes := #[] }, { accessFlags := 8, nameIndex := 98, descriptorIndex := 99, attributes := #[] }] 48 2 #[] #[{ accessFlags := 24, nameIndex := 100, descriptorIndex := 101, attributes := #[] }, { accessFlags := 18, nameIndex := 14, descriptorIndex := 15, attributes := #[] }])
  fields := #[{ name := "INTERVAL", type := .int, accessFlags := 24, slot := 0, constantValue := 0 }, { name := "bySlot", type := (.object "java/util/NavigableMap"), accessFlags := 18, slot := 0, constantValue := 0 }]
  methods := #[k2m0, k2m1]
  instanceTypes := #[(.object "java/util/NavigableMap")]
  staticTypes := #[.int]
  resolved := Array.replicate 148 none
  statics := none }

def pool3 : Array CpInfo := pool [(1, u "java/lang/Cloneable"), (0, .class_ 1), (0, u "java/lang/Object"), (0, .class_ 3)] 3

/-- java/lang/Cloneable -/
def k3 : Class := { plain "java/lang/Cloneable" (some 0) with
  accessFlags := 1537
  interfaces := #[]
  cf := some (fileOf pool3 2 #[] #[] 1537 4 #[] #[])
  fields := #[]
  methods := #[]
  instanceTypes := #[]
  staticTypes := #[]
  resolved := Array.replicate 8 none
  statics := none }

def pool4 : Array CpInfo := pool [(1, u "java/io/Serializable"), (0, .class_ 1), (0, u "java/lang/Object"), (0, .class_ 3)] 3

/-- java/io/Serializable -/
def k4 : Class := { plain "java/io/Serializable" (some 0) with
  accessFlags := 1537
  interfaces := #[]
  cf := some (fileOf pool4 2 #[] #[] 1537 4 #[] #[])
  fields := #[]
  methods := #[]
  instanceTypes := #[]
  staticTypes := #[]
  resolved := Array.replicate 8 none
  statics := none }

/-- the primitive byte -/
def k5 : Class := { plain "byte" none with kind := .primitive 'B', accessFlags := 0x411 }
/-- [B -/
def k6 : Class := { plain "[B" (some 0) with kind := .array 5 .byte, interfaces := #[3, 4], accessFlags := 1041 }

/-- the primitive int -/
def k7 : Class := { plain "int" none with kind := .primitive 'I', accessFlags := 0x411 }
/-- [I -/
def k8 : Class := { plain "[I" (some 0) with kind := .array 7 .int, interfaces := #[3, 4], accessFlags := 1041 }

def heap : Heap := #[]
def classes : Array Class := #[k0, k1, k2, k3, k4, k5, k6, k7, k8]
def interned : List (Array UInt16 × Addr) := []
def slotsUsed : Nat := 0
def theMethod : MethodId := ⟨1, 1⟩
def args0 : Array Value := #[.int 64, .int 300, .int 0]
def aboutOver (below : List Frame) : State where
  vm := { classes := classes, interned := interned.toArray }
  heap := heap
  slotsUsed := slotsUsed
  threads := #[{ frames := .invoking theMethod args0 :: below }]
def below0 : List Frame := [.native { method := ⟨0, 0⟩, args := #[] }]
def about1 : State := aboutOver below0
def p0 : Program := .bare "" "" ""
def e0 : Env := launch0.env 0 0 0
theorem w_frames : about1.frames = Frame.invoking theMethod args0 :: below0 := rfl
set_option maxRecDepth 65536 in
theorem w_args : argsFit about1.vm theMethod args0 = true := by decide +kernel
set_option maxRecDepth 65536 in
theorem w_heap : heapFits about1 = true := by decide +kernel
set_option maxRecDepth 65536 in
theorem w_runnable : about1.curStatus? = some .runnable := by decide +kernel
set_option maxRecDepth 65536 in
theorem w_alone : about1.alone = true := by decide +kernel
set_option maxRecDepth 65536 in
theorem w_named : about1.methodNamed? x = some theMethod := by decide +kernel
set_option maxRecDepth 65536 in
theorem w_hears : about1.hears theMethod below0 = true := by decide +kernel
set_option maxRecDepth 65536 in
theorem w_ripe : about1.ripe theMethod args0 below0 = true := by decide +kernel
theorem w_running : about1.status = .running := rfl
set_option maxRecDepth 65536 in
theorem w_room : about1.hasRoom e0.platform room_1 = true :=
  launch0.hasRoom_least _ room_1 (by decide +kernel) (by decide +kernel) (by decide +kernel) (by decide +kernel) (by decide +kernel) (by decide +kernel)
theorem allAtoms_all (ts : List Jvm.Cond) (a : Array Jvm.Value) (st : Jvm.State) : (allAtoms ts).before a st = ts.all (fun c => c.before a st) := by
  induction ts with
  | nil => rfl
  | cons c t ih =>
    show (Jvm.Cond.and c (allAtoms t)).before a st = _
    rw [Jvm.Cond.before_and, ih, List.all_cons]
def words1 : List Jvm.Cond := Jvm.Cond.code x code maxLocals ret :: tables_1
/-- a 'code' word, met by the world's own term for the bytes: nothing is compared byte by byte -/
theorem code_word {y : MethodName} {bytes : ByteArray} {mx : Nat} {rt : Option FieldType} {a : Array Value} {s : State} {m : MethodId} {meth : Method} {c : Code} (h1 : s.methodNamed? y = some m) (h2 : s.vm.method? m = some meth) (h3 : meth.code = some c) (h4 : c.code = bytes)
    (h5 : (c.maxLocals == mx && c.exceptionTable.isEmpty && decide (c.maxStack ≤ mostOperands) && decide (meth.sig.returnType = rt) && !meth.locks && decide (parseMethodDescriptor y.desc = some meth.sig)) = true) : (Jvm.Cond.code y bytes mx rt).before a s = true := by
  simp only [Bool.and_eq_true, beq_iff_eq, Bool.not_eq_true', decide_eq_true_eq] at h5
  obtain ⟨⟨⟨⟨⟨g1, g2⟩, g3⟩, g4⟩, g5⟩, g6⟩ := h5
  simp [Cond.before, Cond.holds, Cond.value, h1, h2, h3, h4, g1, g2, g3, g4, g5, g6]
def isCode : Jvm.Cond → Bool
  | .code _ _ _ _ => true
  | _ => false
theorem all_split {L : List Jvm.Cond} {P : Jvm.Cond → Bool} (h1 : L.all (fun c => isCode c || P c) = true) (h2 : ∀ c ∈ L.filter isCode, P c = true) : L.all P = true := by
  refine List.all_eq_true.mpr fun c hc => ?_
  have h := List.all_eq_true.mp h1 c hc
  rcases Bool.eq_false_or_eq_true (isCode c) with hi | hi
  · exact h2 c (List.mem_filter.mpr ⟨hc, hi⟩)
  · simpa [hi] using h
set_option maxRecDepth 65536 in
theorem w_c0 : (Jvm.Cond.code x code maxLocals ret).before args0 about1 = true := code_word (m := ⟨1, 1⟩) (meth := k1m1) (c := k1c1) (by decide +kernel) rfl rfl rfl (by decide +kernel)
set_option maxRecDepth 65536 in
theorem w_c1 : (Jvm.Cond.code ({ cls := "com/example/revisit/revisit/schedule/Checkpoints", name := "keeps", desc := "(II)Z" } : Jvm.MethodName) prog_65_method_2_code (6 : Nat) (Option.some Jvm.ClassFile.FieldType.boolean)).before args0 about1 = true := code_word (m := ⟨2, 1⟩) (meth := k2m1) (c := k2c1) (by decide +kernel) rfl rfl rfl (by decide +kernel)
set_option maxRecDepth 65536 in
theorem w_c2 : (Jvm.Cond.code ({ cls := "com/example/revisit/revisit/schedule/CheckpointsKeepsPinLaw", name := "expected", desc := "(II)Z" } : Jvm.MethodName) method_3_code (10 : Nat) (Option.some Jvm.ClassFile.FieldType.boolean)).before args0 about1 = true := code_word (m := ⟨1, 2⟩) (meth := k1m2) (c := k1c2) (by decide +kernel) rfl rfl rfl (by decide +kernel)
def codes1 : List Jvm.Cond := [Jvm.Cond.code x code maxLocals ret, Jvm.Cond.code ({ cls := "com/example/revisit/revisit/schedule/Checkpoints", name := "keeps", desc := "(II)Z" } : Jvm.MethodName) prog_65_method_2_code (6 : Nat) (Option.some Jvm.ClassFile.FieldType.boolean), Jvm.Cond.code ({ cls := "com/example/revisit/revisit/schedule/CheckpointsKeepsPinLaw", name := "expected", desc := "(II)Z" } : Jvm.MethodName) method_3_code (10 : Nat) (Option.some Jvm.ClassFile.FieldType.boolean)]
set_option maxRecDepth 65536 in
theorem codes_eq : words1.filter isCode = codes1 := rfl
theorem w_codes : ∀ c ∈ words1.filter isCode, c.before args0 about1 = true := by
  rw [codes_eq]
  intro c hc
  simp only [codes1, List.mem_cons, List.not_mem_nil, or_false] at hc
  rcases hc with rfl | rfl | rfl
  · exact w_c0
  · exact w_c1
  · exact w_c2
set_option maxRecDepth 65536 in
theorem w_t1 : words1.all (fun c => isCode c || c.before args0 about1) = true := by decide +kernel
theorem w_tables : (allAtoms (Jvm.Cond.code x code maxLocals ret :: tables_1)).before args0 about1 = true := by
  rw [allAtoms_all]
  show words1.all (fun c => c.before args0 about1) = true
  refine all_split ?_ w_codes
  rw [w_t1]
set_option maxRecDepth 65536 in
theorem w_case : (Jvm.Cond.and given_1 narrow_1).before args0 about1 = true := by decide +kernel
theorem w_applies : (headSpec (Jvm.Cond.code x code maxLocals ret :: tables_1) room_1).applies x e0.platform about1 = true :=
  (Spec.applies_iff w_frames).mpr ⟨w_running, w_runnable, w_alone, w_named, w_hears, w_ripe, w_room, w_tables⟩
theorem atStart : AtStart classFile x code maxLocals ret World_1 tables_1 room_1 Calls_1 rest_1 Pre_1 launch0 p0 e0 about1 theMethod args0 below0 :=
  ⟨lists_1, trivial, launch0.admits_env _ _ _, launch0.least_env, fairChoices_fair.cas, fairChoices_fair.clock, w_frames, w_args, w_heap, w_applies, trivial, trivial, w_case⟩
end start1
theorem witness_1 : WitnessClaimed_1 := ⟨start1.p0, start1.e0, start1.about1, start1.theMethod, start1.args0, start1.below0, start1.atStart⟩
end Jvm.Pilot.@@N@@
