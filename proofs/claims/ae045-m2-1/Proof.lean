import JvmDerived
import JvmDerived.Pilot.@@N@@Statement
import JvmDerived.Pilot.@@N@@Code
set_option linter.unusedVariables false
set_option linter.unusedSimpArgs false
set_option maxRecDepth 65536
set_option maxHeartbeats 4000000
namespace Jvm.Pilot.@@N@@
open Jvm Jvm.ClassFile Sem Op Lib Jvm.Free Jvm.Stand Jvm.LawKit Jvm.RoadKit Bundle Jvm.Pilot.@@N@@.Jvm.D
section Own
variable {p : Program} {l : Launch} {e : Env} {R : Room} {s : State} {m : MethodId} {args : Array Value} {below : List Frame} {meth : Method} {c : Code} {T : State} {locs : List Loc} {cells slots : Nat} {K J : Nat} {EE : Outcome → State → List Loc → Prop} {Q : Option Value → Heap → List Loc → Prop} {Z : State} {a0 : Array Value} {h : Heap}
/-- from U the run comes to its end, and what it leaves is Q's -/
def Ends (p : Program) (e : Env) (below : List Frame) (EE : Outcome → State → List Loc → Prop) (Q : Option Value → Heap → List Loc → Prop) (U : State) : Prop :=
  ∃ s₂ o, Steps p.tables e below U s₂ ∧ s₂.status = .running ∧ Ended s₂ below o ∧ ∃ v L, o = .returned v ∧ Q v s₂.heap L ∧ EE o s₂ L
/-- the end's frame: tables warmed alone; or strings interned too -/
abbrev EF (s : State) (K J : Nat) : Outcome → State → List Loc → Prop := fun o t L => FrameEnd s o t L K J
abbrev EW (s : State) (K J : Nat) : Outcome → State → List Loc → Prop := fun o t L => ReturnedEndW s o t L K J
theorem Ends.via {A B : State} (h : ∀ t, Steps p.tables e below A t → Steps p.tables e below B t) (k : Ends p e below EE Q A) : Ends p e below EE Q B := by
  obtain ⟨s2, o, h1, h2⟩ := k
  exact ⟨s2, o, h _ h1, h2⟩
theorem Ends.tr {A B : State} (h : Steps p.tables e below B A) (k : Ends p e below EE Q A) : Ends p e below EE Q B := by
  obtain ⟨s2, o, h1, h2⟩ := k
  exact ⟨s2, o, h.trans h1, h2⟩
theorem Ends.cast {g g' : JFrame} (q : g = g') (k : Ends p e below EE Q (T.setTop g')) : Ends p e below EE Q (T.setTop g) := q ▸ k
theorem own_iadd (X : Stand p l e R s m args below meth c T locs cells slots) (hx : p.tables.exec = Jvm.exec) {pc n : Nat} {Ls : Array Slot} {st : List Value} {x y : Int32} (hd : decode c.code pc = .ok (.iadd, 1))  (hn : pc + 1 = n) (k : Ends p e below EE Q (T.setTop (mkF m n Ls (.int (x + y) :: st)))) : Ends p e below EE Q (T.setTop (mkF m pc Ls (.int y :: .int x :: st))) := by
  subst hn
  exact Ends.via (fun t h => XS.iadd X.here hx rfl hd rfl h) k
theorem own_isub (X : Stand p l e R s m args below meth c T locs cells slots) (hx : p.tables.exec = Jvm.exec) {pc n : Nat} {Ls : Array Slot} {st : List Value} {x y : Int32} (hd : decode c.code pc = .ok (.isub, 1))  (hn : pc + 1 = n) (k : Ends p e below EE Q (T.setTop (mkF m n Ls (.int (x - y) :: st)))) : Ends p e below EE Q (T.setTop (mkF m pc Ls (.int y :: .int x :: st))) := by
  subst hn
  exact Ends.via (fun t h => XS.isub X.here hx rfl hd rfl h) k
theorem own_iand (X : Stand p l e R s m args below meth c T locs cells slots) (hx : p.tables.exec = Jvm.exec) {pc n : Nat} {Ls : Array Slot} {st : List Value} {x y : Int32} (hd : decode c.code pc = .ok (.iand, 1))  (hn : pc + 1 = n) (k : Ends p e below EE Q (T.setTop (mkF m n Ls (.int (x &&& y) :: st)))) : Ends p e below EE Q (T.setTop (mkF m pc Ls (.int y :: .int x :: st))) := by
  subst hn
  exact Ends.via (fun t h => XS.iand X.here hx rfl hd rfl h) k
theorem own_ladd (X : Stand p l e R s m args below meth c T locs cells slots) (hx : p.tables.exec = Jvm.exec) {pc n : Nat} {Ls : Array Slot} {st : List Value} {x y : Int64} (hd : decode c.code pc = .ok (.ladd, 1))  (hn : pc + 1 = n) (k : Ends p e below EE Q (T.setTop (mkF m n Ls (.long (x + y) :: st)))) : Ends p e below EE Q (T.setTop (mkF m pc Ls (.long y :: .long x :: st))) := by
  subst hn
  exact Ends.via (fun t h => XS.ladd X.here hx rfl hd rfl h) k
theorem own_lmul (X : Stand p l e R s m args below meth c T locs cells slots) (hx : p.tables.exec = Jvm.exec) {pc n : Nat} {Ls : Array Slot} {st : List Value} {x y : Int64} (hd : decode c.code pc = .ok (.lmul, 1))  (hn : pc + 1 = n) (k : Ends p e below EE Q (T.setTop (mkF m n Ls (.long (x * y) :: st)))) : Ends p e below EE Q (T.setTop (mkF m pc Ls (.long y :: .long x :: st))) := by
  subst hn
  exact Ends.via (fun t h => XS.lmul X.here hx rfl hd rfl h) k
theorem own_land (X : Stand p l e R s m args below meth c T locs cells slots) (hx : p.tables.exec = Jvm.exec) {pc n : Nat} {Ls : Array Slot} {st : List Value} {x y : Int64} (hd : decode c.code pc = .ok (.land, 1))  (hn : pc + 1 = n) (k : Ends p e below EE Q (T.setTop (mkF m n Ls (.long (x &&& y) :: st)))) : Ends p e below EE Q (T.setTop (mkF m pc Ls (.long y :: .long x :: st))) := by
  subst hn
  exact Ends.via (fun t h => XS.land X.here hx rfl hd rfl h) k
theorem own_lshl (X : Stand p l e R s m args below meth c T locs cells slots) (hx : p.tables.exec = Jvm.exec) {pc n : Nat} {Ls : Array Slot} {st : List Value} {x : Int64} {y : Int32} (hd : decode c.code pc = .ok (.lshl, 1))  (hn : pc + 1 = n) (k : Ends p e below EE Q (T.setTop (mkF m n Ls (.long (x <<< (y &&& 0x3f).toInt64) :: st)))) : Ends p e below EE Q (T.setTop (mkF m pc Ls (.int y :: .long x :: st))) := by
  subst hn
  exact Ends.via (fun t h => XS.lshl X.here hx rfl hd rfl h) k
theorem own_ldiv (X : Stand p l e R s m args below meth c T locs cells slots) (hx : p.tables.exec = Jvm.exec) {pc n : Nat} {Ls : Array Slot} {st : List Value} {x y : Int64} (hd : decode c.code pc = .ok (.ldiv, 1)) (hy : y ≠ 0) (hn : pc + 1 = n) (k : Ends p e below EE Q (T.setTop (mkF m n Ls (.long (x / y) :: st)))) : Ends p e below EE Q (T.setTop (mkF m pc Ls (.long y :: .long x :: st))) := by
  subst hn
  exact Ends.via (fun t h => XS.ldiv X.here hx rfl hd rfl hy h) k
theorem own_irem (X : Stand p l e R s m args below meth c T locs cells slots) (hx : p.tables.exec = Jvm.exec) {pc n : Nat} {Ls : Array Slot} {st : List Value} {x y : Int32} (hd : decode c.code pc = .ok (.irem, 1)) (hy : y ≠ 0) (hn : pc + 1 = n) (k : Ends p e below EE Q (T.setTop (mkF m n Ls (.int (x % y) :: st)))) : Ends p e below EE Q (T.setTop (mkF m pc Ls (.int y :: .int x :: st))) := by
  subst hn
  exact Ends.via (fun t h => iremM X hx rfl hd rfl hy h) k
theorem own_lrem (X : Stand p l e R s m args below meth c T locs cells slots) (hx : p.tables.exec = Jvm.exec) {pc n : Nat} {Ls : Array Slot} {st : List Value} {x y : Int64} (hd : decode c.code pc = .ok (.lrem, 1)) (hy : y ≠ 0) (hn : pc + 1 = n) (k : Ends p e below EE Q (T.setTop (mkF m n Ls (.long (x % y) :: st)))) : Ends p e below EE Q (T.setTop (mkF m pc Ls (.long y :: .long x :: st))) := by
  subst hn
  rw [← lrem_mod] at k
  exact Ends.via (fun t h => XS.lrem X.here hx rfl hd rfl hy h) k
theorem own_i2l (X : Stand p l e R s m args below meth c T locs cells slots) (hx : p.tables.exec = Jvm.exec) {pc n : Nat} {Ls : Array Slot} {st : List Value} {x : Int32} (hd : decode c.code pc = .ok (.i2l, 1))  (hn : pc + 1 = n) (k : Ends p e below EE Q (T.setTop (mkF m n Ls (.long x.toInt64 :: st)))) : Ends p e below EE Q (T.setTop (mkF m pc Ls (.int x :: st))) := by
  subst hn
  exact Ends.via (fun t h => XS.i2l X.here hx rfl hd rfl h) k
theorem own_lcmp (X : Stand p l e R s m args below meth c T locs cells slots) (hx : p.tables.exec = Jvm.exec) {pc n : Nat} {Ls : Array Slot} {st : List Value} {x y : Int64} (hd : decode c.code pc = .ok (.lcmp, 1))  (hn : pc + 1 = n) (k : Ends p e below EE Q (T.setTop (mkF m n Ls (.int (lcmpW x y) :: st)))) : Ends p e below EE Q (T.setTop (mkF m pc Ls (.long y :: .long x :: st))) := by
  subst hn
  exact Ends.via (fun t h => XS.lcmp X.here hx rfl hd rfl h) k
theorem own_iconst (X : Stand p l e R s m args below meth c T locs cells slots) (hx : p.tables.exec = Jvm.exec) {pc n : Nat} {Ls : Array Slot} {st : List Value} {i : Int} (v : Int32) (hd : decode c.code pc = .ok (.iconst i, 1)) (hv : Int32.ofInt i = v) (hn : pc + 1 = n) (k : Ends p e below EE Q (T.setTop (mkF m n Ls (.int v :: st)))) : Ends p e below EE Q (T.setTop (mkF m pc Ls st)) := by
  subst hn hv
  exact Ends.via (fun t h => XS.iconst X.here hx rfl hd h) k
theorem own_bipush (X : Stand p l e R s m args below meth c T locs cells slots) (hx : p.tables.exec = Jvm.exec) {pc n : Nat} {Ls : Array Slot} {st : List Value} {i : Int} (v : Int32) (hd : decode c.code pc = .ok (.bipush i, 2)) (hv : (Int8.ofInt i).toInt32 = v) (hn : pc + 2 = n) (k : Ends p e below EE Q (T.setTop (mkF m n Ls (.int v :: st)))) : Ends p e below EE Q (T.setTop (mkF m pc Ls st)) := by
  subst hn hv
  exact Ends.via (fun t h => XS.bipush X.here hx rfl hd h) k
theorem own_lconst (X : Stand p l e R s m args below meth c T locs cells slots) (hx : p.tables.exec = Jvm.exec) {pc n : Nat} {Ls : Array Slot} {st : List Value} {i : Fin 2} (v : Int64) (hd : decode c.code pc = .ok (.lconst i, 1)) (hv : Int64.ofNat i = v) (hn : pc + 1 = n) (k : Ends p e below EE Q (T.setTop (mkF m n Ls (.long v :: st)))) : Ends p e below EE Q (T.setTop (mkF m pc Ls st)) := by
  subst hn hv
  exact Ends.via (fun t h => XS.lconst X.here hx rfl hd h) k
theorem own_iload (X : Stand p l e R s m args below meth c T locs cells slots) (hx : p.tables.exec = Jvm.exec) {pc n : Nat} {Ls : Array Slot} {st : List Value} {i : Nat} {v : Int32} (hd : decode c.code pc = .ok (.iload i, 2)) (hl : Ls[i]? = some (.val (.int v))) (hn : pc + 2 = n) (k : Ends p e below EE Q (T.setTop (mkF m n Ls (.int v :: st)))) : Ends p e below EE Q (T.setTop (mkF m pc Ls (st))) := by
  subst hn
  exact Ends.via (fun t h => XS.iload X.here hx rfl hd hl h) k
theorem own_iloadN (X : Stand p l e R s m args below meth c T locs cells slots) (hx : p.tables.exec = Jvm.exec) {pc n : Nat} {Ls : Array Slot} {st : List Value} {i : Fin 4} {v : Int32} (hd : decode c.code pc = .ok (.iload_n i, 1)) (hl : Ls[i.val]? = some (.val (.int v))) (hn : pc + 1 = n) (k : Ends p e below EE Q (T.setTop (mkF m n Ls (.int v :: st)))) : Ends p e below EE Q (T.setTop (mkF m pc Ls (st))) := by
  subst hn
  exact Ends.via (fun t h => XS.iloadN X.here hx rfl hd hl h) k
theorem own_istore (X : Stand p l e R s m args below meth c T locs cells slots) (hx : p.tables.exec = Jvm.exec) {pc n : Nat} {Ls : Array Slot} {st : List Value} {i : Nat} {v : Int32} {l' : Array Slot} (hd : decode c.code pc = .ok (.istore i, 2)) (hl : storeLocals Ls i (.int v) = some l') (hn : pc + 2 = n) (k : Ends p e below EE Q (T.setTop (mkF m n l' (st)))) : Ends p e below EE Q (T.setTop (mkF m pc Ls (.int v :: st))) := by
  subst hn
  exact Ends.via (fun t h => XS.istore X.here hx rfl hd rfl hl h) k
theorem own_lload (X : Stand p l e R s m args below meth c T locs cells slots) (hx : p.tables.exec = Jvm.exec) {pc n : Nat} {Ls : Array Slot} {st : List Value} {i : Nat} {v : Int64} (hd : decode c.code pc = .ok (.lload i, 2)) (hl : Ls[i]? = some (.val (.long v))) (hn : pc + 2 = n) (k : Ends p e below EE Q (T.setTop (mkF m n Ls (.long v :: st)))) : Ends p e below EE Q (T.setTop (mkF m pc Ls (st))) := by
  subst hn
  exact Ends.via (fun t h => XS.lload X.here hx rfl hd hl h) k
theorem own_lstore (X : Stand p l e R s m args below meth c T locs cells slots) (hx : p.tables.exec = Jvm.exec) {pc n : Nat} {Ls : Array Slot} {st : List Value} {i : Nat} {v : Int64} {l' : Array Slot} (hd : decode c.code pc = .ok (.lstore i, 2)) (hl : storeLocals Ls i (.long v) = some l') (hn : pc + 2 = n) (k : Ends p e below EE Q (T.setTop (mkF m n l' (st)))) : Ends p e below EE Q (T.setTop (mkF m pc Ls (.long v :: st))) := by
  subst hn
  exact Ends.via (fun t h => XS.lstore X.here hx rfl hd rfl hl h) k
theorem own_goto (X : Stand p l e R s m args below meth c T locs cells slots) (hx : p.tables.exec = Jvm.exec) {pc n : Nat} {Ls : Array Slot} {st : List Value} {o : Int} (hd : decode c.code pc = .ok (.goto o, 3)) (ho : 0 ≤ (pc : Int) + o) (hp : ((pc : Int) + o).toNat = n) (k : Ends p e below EE Q (T.setTop (mkF m n Ls st))) : Ends p e below EE Q (T.setTop (mkF m pc Ls st)) :=
  Ends.via (fun t h => XS.goto X.here hx rfl (pc0 := pc) rfl hd ho hp h) k
theorem own_ifYes (X : Stand p l e R s m args below meth c T locs cells slots) (hx : p.tables.exec = Jvm.exec) {pc n : Nat} {Ls : Array Slot} {st : List Value} {o : Int} {cd : ClassFile.Cond} {x : Int32} (hd : decode c.code pc = .ok (.ifCond cd o, 3)) (hc : ifCond.holds cd x = true) (ho : 0 ≤ (pc : Int) + o) (hp : ((pc : Int) + o).toNat = n) (k : Ends p e below EE Q (T.setTop (mkF m n Ls st))) : Ends p e below EE Q (T.setTop (mkF m pc Ls (.int x :: st))) :=
  Ends.via (fun t h => XS.ifYes X.here hx rfl (pc0 := pc) rfl hd rfl hc ho hp h) k
theorem own_ifNo (X : Stand p l e R s m args below meth c T locs cells slots) (hx : p.tables.exec = Jvm.exec) {pc n : Nat} {Ls : Array Slot} {st : List Value} {o : Int} {cd : ClassFile.Cond} {x : Int32} (hd : decode c.code pc = .ok (.ifCond cd o, 3)) (hc : ifCond.holds cd x = false) (hn : pc + 3 = n) (k : Ends p e below EE Q (T.setTop (mkF m n Ls st))) : Ends p e below EE Q (T.setTop (mkF m pc Ls (.int x :: st))) := by
  subst hn
  exact Ends.via (fun t h => XS.ifNo X.here hx rfl hd rfl hc h) k
theorem own_icmpYes (X : Stand p l e R s m args below meth c T locs cells slots) (hx : p.tables.exec = Jvm.exec) {pc n : Nat} {Ls : Array Slot} {st : List Value} {o : Int} {cd : ClassFile.Cond} {x y : Int32} (hd : decode c.code pc = .ok (.if_icmp cd o, 3)) (hc : if_icmp.holds cd x y = true) (ho : 0 ≤ (pc : Int) + o) (hp : ((pc : Int) + o).toNat = n) (k : Ends p e below EE Q (T.setTop (mkF m n Ls st))) : Ends p e below EE Q (T.setTop (mkF m pc Ls (.int y :: .int x :: st))) :=
  Ends.via (fun t h => XS.icmpYes X.here hx rfl (pc0 := pc) rfl hd rfl hc ho hp h) k
theorem own_icmpNo (X : Stand p l e R s m args below meth c T locs cells slots) (hx : p.tables.exec = Jvm.exec) {pc n : Nat} {Ls : Array Slot} {st : List Value} {o : Int} {cd : ClassFile.Cond} {x y : Int32} (hd : decode c.code pc = .ok (.if_icmp cd o, 3)) (hc : if_icmp.holds cd x y = false) (hn : pc + 3 = n) (k : Ends p e below EE Q (T.setTop (mkF m n Ls st))) : Ends p e below EE Q (T.setTop (mkF m pc Ls (.int y :: .int x :: st))) := by
  subst hn
  exact Ends.via (fun t h => XS.icmpNo X.here hx rfl hd rfl hc h) k
theorem lw_eq_t {x y : Int64} (h : x = y) : ifCond.holds .eq (lcmpW x y) = true := Jvm.Free.XT.ll_eq_t h
theorem lw_eq_f {x y : Int64} (h : ¬ x = y) : ifCond.holds .eq (lcmpW x y) = false := Jvm.Free.XT.ll_eq_f h
theorem lw_ne_t {x y : Int64} (h : ¬ x = y) : ifCond.holds .ne (lcmpW x y) = true := Jvm.Free.XT.ll_ne_t h
theorem lw_ne_f {x y : Int64} (h : x = y) : ifCond.holds .ne (lcmpW x y) = false := Jvm.Free.XT.ll_ne_f h
theorem lw_lt_t {x y : Int64} (h : x < y) : ifCond.holds .lt (lcmpW x y) = true := Jvm.Free.XT.ll_lt_t h
theorem lw_lt_f {x y : Int64} (h : ¬ x < y) : ifCond.holds .lt (lcmpW x y) = false := Jvm.Free.XT.ll_lt_f h
theorem lw_ge_t {x y : Int64} (h : ¬ x < y) : ifCond.holds .ge (lcmpW x y) = true := Jvm.Free.XT.ll_ge_t h
theorem lw_ge_f {x y : Int64} (h : x < y) : ifCond.holds .ge (lcmpW x y) = false := Jvm.Free.XT.ll_ge_f h
theorem lw_gt_t {x y : Int64} (h : y < x) : ifCond.holds .gt (lcmpW x y) = true := Jvm.Free.XT.ll_gt_t h
theorem lw_gt_f {x y : Int64} (h : ¬ y < x) : ifCond.holds .gt (lcmpW x y) = false := Jvm.Free.XT.ll_gt_f h
theorem lw_le_t {x y : Int64} (h : ¬ y < x) : ifCond.holds .le (lcmpW x y) = true := Jvm.Free.XT.ll_le_t h
theorem lw_le_f {x y : Int64} (h : y < x) : ifCond.holds .le (lcmpW x y) = false := Jvm.Free.XT.ll_le_f h
theorem own_ldc (X : Stand p l e R s m args below meth c T locs cells slots) (hx : p.tables.exec = Jvm.exec) (hZ : Z.Warmed39 s.vm) {own : String} (hown : s.vm.findClass own = some m.cls) {pc n : Nat} {Ls : Array Slot} {st : List Value} {i : Nat} {v : Int32} (w : (Cond.constant own i v).before a0 Z = true) (hd : decode c.code pc = .ok (.ldc i, 2)) (hn : pc + 2 = n) (k : Ends p e below EE Q (T.setTop (mkF m n Ls (.int v :: st)))) : Ends p e below EE Q (T.setTop (mkF m pc Ls st)) := by
  subst hn
  exact Ends.via (fun t h => X.ldcI hx hown (mvT hZ w) rfl hd h) k
theorem own_ldc2_w (X : Stand p l e R s m args below meth c T locs cells slots) (hx : p.tables.exec = Jvm.exec) (hZ : Z.Warmed39 s.vm) {own : String} (hown : s.vm.findClass own = some m.cls) {pc n : Nat} {Ls : Array Slot} {st : List Value} {i : Nat} {v : Int64} (w : (Cond.constantLong own i v).before a0 Z = true) (hd : decode c.code pc = .ok (.ldc2_w i, 3)) (hn : pc + 3 = n) (k : Ends p e below EE Q (T.setTop (mkF m n Ls (.long v :: st)))) : Ends p e below EE Q (T.setTop (mkF m pc Ls st)) := by
  subst hn
  exact Ends.via (fun t h => X.ldc2J hx hown (mvT hZ w) rfl hd h) k
theorem own_i2d (X : Stand p l e R s m args below meth c T locs cells slots) (hx : p.tables.exec = Jvm.exec) {pc n : Nat} {Ls : Array Slot} {st : List Value} {x : Int32} (hd : decode c.code pc = .ok (.i2d, 1))  (hn : pc + 1 = n) (k : Ends p e below EE Q (T.setTop (mkF m n Ls (.double (FP.i2d x) :: st)))) : Ends p e below EE Q (T.setTop (mkF m pc Ls (.int x :: st))) := by
  subst hn
  exact Ends.via (fun t h => XS.i2dS X.here hx rfl hd rfl rfl h) k
theorem own_l2d (X : Stand p l e R s m args below meth c T locs cells slots) (hx : p.tables.exec = Jvm.exec) {pc n : Nat} {Ls : Array Slot} {st : List Value} {x : Int64} (hd : decode c.code pc = .ok (.l2d, 1))  (hn : pc + 1 = n) (k : Ends p e below EE Q (T.setTop (mkF m n Ls (.double (FP.l2d x) :: st)))) : Ends p e below EE Q (T.setTop (mkF m pc Ls (.long x :: st))) := by
  subst hn
  exact Ends.via (fun t h => XS.l2dS X.here hx rfl hd rfl rfl h) k
theorem own_dcmp (X : Stand p l e R s m args below meth c T locs cells slots) (hx : p.tables.exec = Jvm.exec) {pc n : Nat} {Ls : Array Slot} {st : List Value} {x y : UInt64} {o : CmpOp} (hd : decode c.code pc = .ok (.dcmp o, 1))  (hn : pc + 1 = n) (k : Ends p e below EE Q (T.setTop (mkF m n Ls (.int (cmpValue (FP.dcmp x y) o) :: st)))) : Ends p e below EE Q (T.setTop (mkF m pc Ls (.double y :: .double x :: st))) := by
  subst hn
  exact Ends.via (fun t h => XS.dcmpS X.here hx rfl hd rfl rfl h) k
theorem own_dadd (X : Stand p l e R s m args below meth c T locs cells slots) (hx : p.tables.exec = Jvm.exec) {pc n : Nat} {Ls : Array Slot} {st : List Value} {x y : UInt64} (hd : decode c.code pc = .ok (.dadd, 1)) (hnn : Jvm.Free.Fl.NoNaN64 (FP.dadd x y)) (hn : pc + 1 = n) (k : Ends p e below EE Q (T.setTop (mkF m n Ls (.double (FP.dadd x y) :: st)))) : Ends p e below EE Q (T.setTop (mkF m pc Ls (.double y :: .double x :: st))) := by
  subst hn
  exact Ends.via (fun t h => XS.daddS X.here hx rfl hd rfl hnn rfl h) k
theorem own_dmul (X : Stand p l e R s m args below meth c T locs cells slots) (hx : p.tables.exec = Jvm.exec) {pc n : Nat} {Ls : Array Slot} {st : List Value} {x y : UInt64} (hd : decode c.code pc = .ok (.dmul, 1)) (hnn : Jvm.Free.Fl.NoNaN64 (FP.dmul x y)) (hn : pc + 1 = n) (k : Ends p e below EE Q (T.setTop (mkF m n Ls (.double (FP.dmul x y) :: st)))) : Ends p e below EE Q (T.setTop (mkF m pc Ls (.double y :: .double x :: st))) := by
  subst hn
  exact Ends.via (fun t h => XS.dmulS X.here hx rfl hd rfl hnn rfl h) k
theorem own_ddiv (X : Stand p l e R s m args below meth c T locs cells slots) (hx : p.tables.exec = Jvm.exec) {pc n : Nat} {Ls : Array Slot} {st : List Value} {x y : UInt64} (hd : decode c.code pc = .ok (.ddiv, 1)) (hnn : Jvm.Free.Fl.NoNaN64 (FP.ddiv x y)) (hn : pc + 1 = n) (k : Ends p e below EE Q (T.setTop (mkF m n Ls (.double (FP.ddiv x y) :: st)))) : Ends p e below EE Q (T.setTop (mkF m pc Ls (.double y :: .double x :: st))) := by
  subst hn
  exact Ends.via (fun t h => XS.ddivS X.here hx rfl hd rfl hnn rfl h) k
theorem own_dconst0 (X : Stand p l e R s m args below meth c T locs cells slots) (hx : p.tables.exec = Jvm.exec) {pc n : Nat} {Ls : Array Slot} {st : List Value}  (hd : decode c.code pc = .ok (.dconst 0, 1))  (hn : pc + 1 = n) (k : Ends p e below EE Q (T.setTop (mkF m n Ls (.double 0 :: st)))) : Ends p e below EE Q (T.setTop (mkF m pc Ls (st))) := by
  subst hn
  exact Ends.via (fun t h => XS.dconst0 X.here hx rfl hd (show FP.dconst0 = 0 by decide +kernel) h) k
theorem own_dconst1 (X : Stand p l e R s m args below meth c T locs cells slots) (hx : p.tables.exec = Jvm.exec) {pc n : Nat} {Ls : Array Slot} {st : List Value}  (hd : decode c.code pc = .ok (.dconst 1, 1))  (hn : pc + 1 = n) (k : Ends p e below EE Q (T.setTop (mkF m n Ls (.double 4607182418800017408 :: st)))) : Ends p e below EE Q (T.setTop (mkF m pc Ls (st))) := by
  subst hn
  exact Ends.via (fun t h => XS.dconst1 X.here hx rfl hd (show FP.dconst1 = 4607182418800017408 by decide +kernel) h) k
theorem own_dload (X : Stand p l e R s m args below meth c T locs cells slots) (hx : p.tables.exec = Jvm.exec) {pc n : Nat} {Ls : Array Slot} {st : List Value} {i : Nat} {v : UInt64} (hd : decode c.code pc = .ok (.dload i, 2)) (hl : Ls[i]? = some (.val (.double v))) (hn : pc + 2 = n) (k : Ends p e below EE Q (T.setTop (mkF m n Ls (.double v :: st)))) : Ends p e below EE Q (T.setTop (mkF m pc Ls (st))) := by
  subst hn
  exact Ends.via (fun t h => XS.dload X.here hx rfl hd hl h) k
theorem own_dloadN (X : Stand p l e R s m args below meth c T locs cells slots) (hx : p.tables.exec = Jvm.exec) {pc n : Nat} {Ls : Array Slot} {st : List Value} {i : Fin 4} {v : UInt64} (hd : decode c.code pc = .ok (.dload_n i, 1)) (hl : Ls[i.val]? = some (.val (.double v))) (hn : pc + 1 = n) (k : Ends p e below EE Q (T.setTop (mkF m n Ls (.double v :: st)))) : Ends p e below EE Q (T.setTop (mkF m pc Ls (st))) := by
  subst hn
  exact Ends.via (fun t h => XS.dloadN X.here hx rfl hd hl h) k
theorem own_dstore (X : Stand p l e R s m args below meth c T locs cells slots) (hx : p.tables.exec = Jvm.exec) {pc n : Nat} {Ls : Array Slot} {st : List Value} {i : Nat} {v : UInt64} {l' : Array Slot} (hd : decode c.code pc = .ok (.dstore i, 2)) (hl : storeLocals Ls i (.double v) = some l') (hn : pc + 2 = n) (k : Ends p e below EE Q (T.setTop (mkF m n l' (st)))) : Ends p e below EE Q (T.setTop (mkF m pc Ls (.double v :: st))) := by
  subst hn
  exact Ends.via (fun t h => XS.dstore X.here hx rfl hd rfl hl h) k
theorem own_ldcD (X : Stand p l e R s m args below meth c T locs cells slots) (hx : p.tables.exec = Jvm.exec) (hZ : Z.Warmed39 s.vm) {own : String} (hown : s.vm.findClass own = some m.cls) {pc n : Nat} {Ls : Array Slot} {st : List Value} {i : Nat} {v : UInt64} (w : (Cond.constantDouble own i v).before a0 Z = true) (hd : decode c.code pc = .ok (.ldc2_w i, 3)) (hn : pc + 3 = n) (k : Ends p e below EE Q (T.setTop (mkF m n Ls (.double v :: st)))) : Ends p e below EE Q (T.setTop (mkF m pc Ls st)) := by
  subst hn
  exact Ends.via (fun t h => X.ldc2DoubleC hx hown (mvT hZ w) (g := mkF m pc Ls st) rfl hd t h) k
theorem own_retN (X : Stand p l e R s m args below meth c T locs cells slots) (hx : p.tables.exec = Jvm.exec) (lk : meth.locks = false) {pc : Nat} {Ls : Array Slot} {rest : List Value} {z : Int32} {t : FieldType}  (hret : meth.sig.returnType = some t) (ht : t = .boolean ∨ t = .byte ∨ t = .char ∨ t = .short) (hd : decode c.code pc = .ok (.ireturn, 1)) (hK : cells ≤ K) (hJ : slots ≤ J) (hq : Q (some (.int (nar t z))) T.heap locs) : Ends p e below (EF s K J) Q (T.setTop (mkF m pc Ls (.int z :: rest))) := by
  obtain ⟨fs, hr, hrun, hended, hW, hsame⟩ := X.leave (v := (some (.int (nar t z)))) (fun h => by rw [hret] at h; cases h) lk
  exact ⟨_, _, Jvm.RoadKit.retN X hx hret ht hd hr, hrun, hended, _, _, rfl, hq, ⟨_, rfl⟩, hW, hsame.mono hK hJ⟩
theorem own_retD (X : Stand p l e R s m args below meth c T locs cells slots) (hx : p.tables.exec = Jvm.exec) (lk : meth.locks = false) {pc : Nat} {Ls : Array Slot} {rest : List Value} {z : UInt64} (hret : meth.sig.returnType = some .double)  (hd : decode c.code pc = .ok (.dreturn, 1)) (hK : cells ≤ K) (hJ : slots ≤ J) (hq : Q (some (.double z)) T.heap locs) : Ends p e below (EF s K J) Q (T.setTop (mkF m pc Ls (.double z :: rest))) := by
  obtain ⟨fs, hr, hrun, hended, hW, hsame⟩ := X.leave (v := (some (.double z))) (fun h => by rw [hret] at h; cases h) lk
  exact ⟨_, _, retOut X hx (w := .double z) (t := .double) hret rfl (Or.inr (Or.inr (Or.inl ⟨rfl, rfl, z, rfl⟩))) hd hr, hrun, hended, _, _, rfl, hq, ⟨_, rfl⟩, hW, hsame.mono hK hJ⟩
theorem own_callS (X : Stand p l e R s m args below meth c T locs cells slots) (hx : p.tables.exec = Jvm.exec) (hZ : Z.Warmed39 s.vm) {own : String} {index : Nat} {y : MethodName} {bytes : ByteArray} {maxL : Nat} {ret : Option FieldType} (hown : s.vm.findClass own = some m.cls) (wl : (Cond.methodLink own index y).before a0 Z = true) (ws : (Cond.static y).before a0 Z = true) (wz : (Cond.initialized y.cls).before a0 Z = true) (wc : (Cond.code y bytes maxL ret).before a0 Z = true) (hy : y.cls ≠ "java/lang/invoke/MethodHandle" ∧ y.cls ≠ "java/lang/invoke/VarHandle") (eT : T.heap = h)
    {rm : Room} {Qc : Option Value → Heap → List Loc → Prop} {as' : Array Value} (hM : MetFree l y (head1 [Cond.code y bytes maxL ret] rm) (fun a U => a = as' ∧ Z.Warmed39 U.vm ∧ U.heap = h) (fun _ _ _ _ _ => True) (fun _ U o U' => ∃ v L, o = .returned v ∧ Qc v U'.heap L ∧ FrameEnd U o U' L rm.cells rm.slots)) {W : Nat} (hf : rm.frames + 1 ≤ R.frames) (hl : W + (maxL + 11) + rm.locals ≤ R.locals) (hc : cells + rm.cells ≤ R.cells) (hsl : slots + rm.slots ≤ R.slots) {pc n : Nat} {Ls : Array Slot} (hsize : Ls.size = c.maxLocals) {argsL rest : List Value} {ps : List FieldType} {r : Option FieldType} (hpd : parseMethodDescriptor y.desc = some ⟨ps, r⟩) (hlen : argsL.length = ps.length) (has : argsL.toArray = as') (hW : 0 + (rest.map fun v => v.category).sum ≤ W) (hd : decode c.code pc = .ok (.invokestatic index, 3)) (hn : pc + 3 = n) {st : List Value} (hst : st = argsL.reverse ++ rest)
    (k : ∀ v T' h' L', Stand p l e R s m args below meth c T' (locs ++ L') (cells + rm.cells) (slots + rm.slots) → T'.heap = h' → Qc v h' L' → Ends p e below EE Q (T'.setTop (mkF m n Ls (v.toList ++ rest)))) : Ends p e below EE Q (T.setTop (mkF m pc Ls st)) := by
  subst hn
  obtain ⟨v, _, ⟨T18, L18, k18, n18⟩, -, X18, ⟨Lc18, hQ18, l18, y18, z18⟩, st18⟩ := Jvm.LawKit.callS X hx hown (mvT hZ wl) (mvT hZ ws) (mvT hZ wz) (mvT hZ wc) hy (backOf (W := W) hM hZ wc wz hf hl) (g := mkF m pc Ls st) rfl hsize (argsL := argsL) (rest := rest) (lenOf hpd hlen) hst hW hd (fun _ _ => ⟨has, eT, hc, hsl⟩)
  dsimp only [Pt.U, Pt.locs, Pt.cells, Pt.slots] at X18 l18 y18 z18 st18 hQ18
  subst l18 y18 z18
  exact Ends.via (fun t h => st18 t h) (k v T18 _ Lc18 X18 rfl hQ18)
end Own
theorem own_fit {A B : Nat} (hB : 0 < B) (h : A ≤ 9223372036854775808 * B) : ∃ c q, FP.Core.roundRatio FP.Core.b64 false A B 0 = .fin false c q := by
  rcases FP.Core.roundRatio_cases FP.Core.b64 false A B 0 with z | z
  · exact z
  · exfalso
    have hV : FP.Core.fits FP.Core.b64 (.fin false (2 ^ 52) 11) := by refine ⟨?_, ?_, ?_, Or.inr ?_⟩ <;> decide +kernel
    have q := FP.Core.zmag_roundRatio_le FP.Core.good_b64 (s := false) (A := A) (B := B) (e := 0) (e0 := FP.Core.b64.qmin) (V := .fin false (2 ^ 52) 11) hB hV (by simp) (Int.le_refl _) (by decide +kernel) (by
      have e1 : FP.Core.inUnits A 0 FP.Core.b64.qmin = A * 2 ^ (0 - FP.Core.b64.qmin).toNat := rfl
      have e2 : FP.Core.zmag FP.Core.b64 (.fin false (2 ^ 52) 11) * 2 ^ (FP.Core.b64.qmin - FP.Core.b64.qmin).toNat * B = (9223372036854775808 * B) * 2 ^ (0 - FP.Core.b64.qmin).toNat := by
        have e3 : FP.Core.zmag FP.Core.b64 (.fin false (2 ^ 52) 11) * 2 ^ (FP.Core.b64.qmin - FP.Core.b64.qmin).toNat = 9223372036854775808 * 2 ^ (0 - FP.Core.b64.qmin).toNat := by decide +kernel
        rw [e3, Nat.mul_right_comm]
      rw [e1, e2]
      exact Nat.mul_le_mul_right _ h)
    rw [z] at q
    exact absurd q (by decide +kernel)
theorem own_mono {A1 B1 A2 B2 c1 c2 : Nat} {q1 q2 : Int} (h1 : 0 < B1) (h2 : 0 < B2) (hle : A1 * B2 ≤ A2 * B1) (R1 : FP.Core.roundRatio FP.Core.b64 false A1 B1 0 = .fin false c1 q1) (R2 : FP.Core.roundRatio FP.Core.b64 false A2 B2 0 = .fin false c2 q2) : FP.Core.zmag FP.Core.b64 (.fin false c1 q1) ≤ FP.Core.zmag FP.Core.b64 (.fin false c2 q2) := by
  have F1 := FP.Core.roundRatio_fits FP.Core.good_b64 false A1 h1 0
  have F2 := FP.Core.roundRatio_fits FP.Core.good_b64 false A2 h2 0
  rw [R1] at F1
  rw [R2] at F2
  have hz : FP.Core.b64.qmin ≤ 0 := by decide +kernel
  have L := FP.Core.zmag_roundRatio_le FP.Core.good_b64 (s := false) (A := A1) (B := B1) (e := 0) (e0 := FP.Core.b64.qmin) (V := .fin false c2 q2) h1 F2 (by simp) (Int.le_refl _) hz
  have G := FP.Core.zmag_roundRatio_ge FP.Core.good_b64 (s := false) (A := A2) (B := B2) (e := 0) (e0 := FP.Core.b64.qmin) (V := .fin false c1 q1) h2 F1 (Int.le_refl _) hz
  have d1 := FP.Core.roundRatio_nearest FP.Core.good_b64 h1 R1 F2.1 F2.2.1 (Int.le_refl _) hz
  have d2 := FP.Core.roundRatio_nearest FP.Core.good_b64 h2 R2 F1.1 F1.2.1 (Int.le_refl _) hz
  have e0 : 2 ^ (FP.Core.b64.qmin - FP.Core.b64.qmin).toNat = 1 := by decide +kernel
  rw [R1, e0, Nat.mul_one] at L
  rw [R2, e0, Nat.mul_one] at G
  unfold FP.Core.distance at d1 d2
  rw [show FP.Core.inUnits c1 q1 FP.Core.b64.qmin = FP.Core.zmag FP.Core.b64 (.fin false c1 q1) from rfl, show FP.Core.inUnits c2 q2 FP.Core.b64.qmin = FP.Core.zmag FP.Core.b64 (.fin false c2 q2) from rfl] at d1 d2
  rw [show FP.Core.inUnits A1 0 FP.Core.b64.qmin = A1 * 2 ^ (0 - FP.Core.b64.qmin).toNat from rfl] at L d1
  rw [show FP.Core.inUnits A2 0 FP.Core.b64.qmin = A2 * 2 ^ (0 - FP.Core.b64.qmin).toNat from rfl] at G d2
  have same : A1 * B2 = A2 * B1 → FP.Core.zmag FP.Core.b64 (.fin false c1 q1) = FP.Core.zmag FP.Core.b64 (.fin false c2 q2) := fun e => by
    have z := FP.Core.roundRatio_congr (f := FP.Core.b64) (s := false) (A := A1) (B := B1) (A' := A2) (B' := B2) (e := 0) (e' := 0) h1 h2 (by rw [e])
    rw [R1, R2] at z
    rw [z]
  generalize FP.Core.zmag FP.Core.b64 (.fin false c1 q1) = v1 at *
  generalize FP.Core.zmag FP.Core.b64 (.fin false c2 q2) = v2 at *
  have hU : 0 < 2 ^ (0 - FP.Core.b64.qmin).toNat := Nat.two_pow_pos _
  generalize 2 ^ (0 - FP.Core.b64.qmin).toNat = U at *
  refine Nat.le_of_not_lt fun hlt => ?_
  have x1 : ¬ A1 * U ≤ v2 * B1 := fun z => absurd (L z) (Nat.not_le.mpr hlt)
  have x2 : ¬ v1 * B2 ≤ A2 * U := fun z => absurd (G z) (Nat.not_le.mpr hlt)
  rw [← Int.natCast_mul, ← Int.natCast_mul] at d1 d2
  have k1 : v2 * B1 < v1 * B1 := Nat.mul_lt_mul_of_pos_right hlt h1
  have k2 : v2 * B2 < v1 * B2 := Nat.mul_lt_mul_of_pos_right hlt h2
  have i1 : v1 * B1 + v2 * B1 ≤ 2 * (A1 * U) := by omega
  have i2 : 2 * (A2 * U) ≤ v1 * B2 + v2 * B2 := by omega
  have j1 := Nat.mul_le_mul_right B2 i1
  have j2 := Nat.mul_le_mul_right B1 i2
  have j3 : (v1 * B1 + v2 * B1) * B2 = (v1 * B2 + v2 * B2) * B1 := by
    rw [Nat.add_mul, Nat.add_mul, Nat.mul_right_comm v1 B1 B2, Nat.mul_right_comm v2 B1 B2]
  have j4 : 2 * (A1 * U) * B2 = 2 * U * (A1 * B2) := by ac_rfl
  have j5 : 2 * (A2 * U) * B1 = 2 * U * (A2 * B1) := by ac_rfl
  have j6 : 2 * U * (A2 * B1) ≤ 2 * U * (A1 * B2) := by omega
  have j7 : A2 * B1 ≤ A1 * B2 := Nat.le_of_mul_le_mul_left j6 (by omega)
  have := same (Nat.le_antisymm hle j7)
  omega
theorem own_lead {n m : Nat} (hn : 0 < n) (hn2 : n < 2 ^ 41) (hm : 0 < m) (hm2 : m < 2 ^ 32) : -40 ≤ FP.Core.leading n m ∧ FP.Core.leading n m ≤ 41 := by
  have l1 : n.log2 < 41 := (Nat.log2_lt (by omega)).mpr hn2
  have l2 : m.log2 < 32 := (Nat.log2_lt (by omega)).mpr hm2
  unfold FP.Core.leading
  dsimp only
  split <;> omega
theorem own_scale {n m : Nat} (hn : 0 < n) (hn2 : n < 2 ^ 41) (hm : 0 < m) (hm2 : m < 2 ^ 32) : ∃ c q, FP.Core.roundRatio FP.Core.b64 false n m 0 = .fin false c q ∧ FP.Core.roundRatio FP.Core.b64 false (n * 4194304) m 0 = .fin false c (q + 22) := by
  have e1 : FP.Core.roundRatio FP.Core.b64 false (n * 4194304) m 0 = FP.Core.roundRatio FP.Core.b64 false n m 22 := FP.Core.roundRatio_congr hm hm (by
    rw [show ((0 : Int) - 22).toNat = 0 from rfl, show ((22 : Int) - 0).toNat = 22 from rfl, Nat.pow_zero, Nat.mul_one, Nat.mul_right_comm])
  obtain ⟨l1, l2⟩ := own_lead hn hn2 hm hm2
  have hq : FP.Core.quantum FP.Core.b64 n m 22 = FP.Core.quantum FP.Core.b64 n m 0 + 22 ∧ -100 ≤ FP.Core.quantum FP.Core.b64 n m 0 ∧ FP.Core.quantum FP.Core.b64 n m 0 ≤ 0 := by
    unfold FP.Core.quantum
    rw [show FP.Core.b64.qmin = -1074 from FP.Core.qmin_b64, show ((FP.Core.b64.p : Int)) = 53 from rfl]
    omega
  have hmax : FP.Core.b64.qmax = 971 := by decide +kernel
  rw [e1]
  unfold FP.Core.roundRatio
  rw [if_neg (by omega), if_neg (by omega), hq.1]
  generalize FP.Core.quantum FP.Core.b64 n m 0 = Q at hq ⊢
  unfold FP.Core.roundAt FP.Core.unitsNum FP.Core.unitsDen
  rw [show (22 - (Q + 22)).toNat = (0 - Q).toNat by omega, show (Q + 22 - 22).toNat = (Q - 0).toNat by omega]
  generalize FP.Core.nearest (n * 2 ^ (0 - Q).toNat) (m * 2 ^ (Q - 0).toNat) = K
  unfold FP.Core.settle FP.Core.bound
  rw [hmax]
  by_cases hk : K < 2 ^ FP.Core.b64.p
  · rw [if_pos hk, if_pos hk, if_pos (by omega), if_pos (by omega)]
    exact ⟨_, _, rfl, rfl⟩
  · rw [if_neg hk, if_neg hk, if_pos (by omega), if_pos (by omega)]
    exact ⟨_, _, rfl, by rw [show Q + 22 + 1 = Q + 1 + 22 by omega]⟩
theorem own_whole {a : Int64} {n : Nat} (h : a.toInt = (n : Int)) (hn : 0 < n) (hs : n < 9007199254740992) : ∃ c q, FP.Core.val64 (FP.Core.l2d a) = .fin false c q ∧ 0 < c ∧ c * 2 ^ q.toNat = n * 2 ^ (-q).toNat := by
  have w := FP.Core.l2d_whole (a := a) ⟨by omega, by omega⟩
  obtain ⟨c, q, e⟩ := FP.Core.l2d_shape a
  rw [show decide (a.toInt < 0) = false from decide_eq_false (by omega)] at e
  rw [e] at w
  have w' : ((c * 2 ^ q.toNat : Nat) : Int) = a.toInt * ((2 ^ (-q).toNat : Nat) : Int) := w
  rw [h, ← Int.natCast_mul] at w'
  have w2 := Int.ofNat.inj w'
  refine ⟨c, q, e, ?_, w2⟩
  rcases Nat.eq_zero_or_pos c with z | z
  · rw [z, Nat.zero_mul] at w2
    exact absurd w2.symm (Nat.ne_of_gt (Nat.mul_pos hn (Nat.two_pow_pos _)))
  · exact z
theorem own_quo {a b : Int64} {n m : Nat} (ha : a.toInt = (n : Int)) (hb : b.toInt = (m : Int)) (hn : 0 < n) (hn2 : n < 9007199254740992) (hm : 0 < m) (hm2 : m < 9007199254740992) : FP.Core.val64 (FP.Core.ddiv (FP.Core.l2d a) (FP.Core.l2d b)) = FP.Core.roundRatio FP.Core.b64 false n m 0 := by
  obtain ⟨cA, qA, eA, pA, wA⟩ := own_whole ha hn hn2
  obtain ⟨cB, qB, eB, pB, wB⟩ := own_whole hb hm hm2
  rw [FP.Core.val64_ddiv, eA, eB]
  show (if cB = 0 then _ else FP.Core.roundRatio FP.Core.b64 (false != false) cA cB (qA - qB)) = _
  rw [if_neg (by omega)]
  show FP.Core.roundRatio FP.Core.b64 false cA cB (qA - qB) = _
  refine FP.Core.roundRatio_congr pB hm ?_
  have hp : 0 < 2 ^ qA.toNat * 2 ^ qB.toNat := Nat.mul_pos (Nat.two_pow_pos _) (Nat.two_pow_pos _)
  refine Nat.eq_of_mul_eq_mul_right hp ?_
  have s1 : cA * m * 2 ^ (qA - qB - 0).toNat * (2 ^ qA.toNat * 2 ^ qB.toNat) = (cA * 2 ^ qA.toNat) * m * (2 ^ qB.toNat * 2 ^ (qA - qB - 0).toNat) := by ac_rfl
  have s2 : n * cB * 2 ^ (0 - (qA - qB)).toNat * (2 ^ qA.toNat * 2 ^ qB.toNat) = n * (cB * 2 ^ qB.toNat) * (2 ^ qA.toNat * 2 ^ (0 - (qA - qB)).toNat) := by ac_rfl
  rw [s1, s2, wA, wB]
  have s3 : n * 2 ^ (-qA).toNat * m * (2 ^ qB.toNat * 2 ^ (qA - qB - 0).toNat) = n * m * (2 ^ (-qA).toNat * 2 ^ qB.toNat * 2 ^ (qA - qB - 0).toNat) := by ac_rfl
  have s4 : n * (m * 2 ^ (-qB).toNat) * (2 ^ qA.toNat * 2 ^ (0 - (qA - qB)).toNat) = n * m * (2 ^ (-qB).toNat * 2 ^ qA.toNat * 2 ^ (0 - (qA - qB)).toNat) := by ac_rfl
  rw [s3, s4, ← Nat.pow_add, ← Nat.pow_add, ← Nat.pow_add, ← Nat.pow_add]
  congr 2
  omega
theorem own_up {x : UInt64} {n m : Nat} (hx : FP.Core.val64 x = FP.Core.roundRatio FP.Core.b64 false n m 0) (hn : 0 < n) (hn2 : n < 2 ^ 41) (hm : 0 < m) (hm2 : m < 2 ^ 32) : FP.Core.val64 (FP.Core.dmul x 4706261610602168320) = FP.Core.roundRatio FP.Core.b64 false (n * 4194304) m 0 := by
  obtain ⟨c, q, e1, e2⟩ := own_scale hn hn2 hm hm2
  have F := FP.Core.roundRatio_fits FP.Core.good_b64 false (n * 4194304) hm 0
  rw [e2] at F
  rw [FP.Core.val64_dmul, hx, e1, e2, show FP.Core.val64 4706261610602168320 = .fin false (2 ^ 52) (-30) by decide +kernel]
  show FP.Core.roundRatio FP.Core.b64 false (c * 2 ^ 52) 1 (q + -30) = _
  refine FP.Core.roundRatio_exact FP.Core.good_b64 (by decide) F ?_
  rw [show (q + -30 - (q + 22)).toNat = 0 by omega, show (q + 22 - (q + -30)).toNat = 52 by omega, Nat.pow_zero, Nat.mul_one, Nat.mul_one]
theorem own_vl2d {a : Int64} {n : Nat} (h : a.toInt = (n : Int)) : FP.Core.val64 (FP.Core.l2d a) = FP.Core.roundRatio FP.Core.b64 false n 1 0 := by
  rw [FP.Core.val64_l2d, h]
  show FP.Core.roundRatio FP.Core.b64 (decide ((n : Int) < 0)) ((n : Int)).natAbs 1 0 = _
  rw [show decide ((n : Int) < 0) = false from decide_eq_false (by omega), Int.natAbs_natCast]
theorem own_cmpLe {x y : UInt64} {A1 B1 A2 B2 : Nat} (hx : FP.Core.val64 x = FP.Core.roundRatio FP.Core.b64 false A1 B1 0) (hy : FP.Core.val64 y = FP.Core.roundRatio FP.Core.b64 false A2 B2 0) (h1 : 0 < B1) (h2 : 0 < B2) (b1 : A1 ≤ 9223372036854775808 * B1) (b2 : A2 ≤ 9223372036854775808 * B2) (hle : A1 * B2 ≤ A2 * B1) : FP.Core.dcmp x y = some .lt ∨ FP.Core.dcmp x y = some .eq := by
  obtain ⟨c1, q1, e1⟩ := own_fit h1 b1
  obtain ⟨c2, q2, e2⟩ := own_fit h2 b2
  have M := own_mono h1 h2 hle e1 e2
  rw [FP.Core.dcmp_zval (by rw [hx, e1]; simp) (by rw [hy, e2]; simp), hx, hy, e1, e2]
  have M' : FP.Core.zval FP.Core.b64 (.fin false c1 q1) ≤ FP.Core.zval FP.Core.b64 (.fin false c2 q2) := Int.ofNat_le.mpr M
  rcases Int.lt_or_eq_of_le M' with z | z
  · exact Or.inl (congrArg some ((FP.Core.compare_lt_iff _ _).mpr z))
  · exact Or.inr (congrArg some ((FP.Core.compare_eq_iff _ _).mpr z))
theorem own_cmpEq {x y : UInt64} {A1 B1 A2 B2 : Nat} (hx : FP.Core.val64 x = FP.Core.roundRatio FP.Core.b64 false A1 B1 0) (hy : FP.Core.val64 y = FP.Core.roundRatio FP.Core.b64 false A2 B2 0) (h1 : 0 < B1) (h2 : 0 < B2) (he : A1 * B2 = A2 * B1) : FP.Core.dcmp x y = some .eq := by
  have z : FP.Core.val64 x = FP.Core.val64 y := by
    rw [hx, hy]
    exact FP.Core.roundRatio_congr h1 h2 (by rw [he])
  have nx : FP.Core.val64 x ≠ .nan := by rw [hx]; exact FP.Core.roundRatio_ne_nan _ _ _ _ _
  rw [FP.Core.dcmp_zval nx (by rw [← z]; exact nx), z]
  exact congrArg some ((FP.Core.compare_eq_iff _ _).mpr rfl)
theorem own_rngI (x : Int32) : -2147483648 ≤ x.toInt ∧ x.toInt < 2147483648 := ⟨x.le_toInt, x.toInt_lt⟩
theorem own_nn {x : UInt64} {A B : Nat} (h : FP.Core.val64 x = FP.Core.roundRatio FP.Core.b64 false A B 0) : Jvm.Free.Fl.NoNaN64 x := Jvm.Free.Fl.noNaN64_no.mpr ((FP.Core.notNaN_iff x).mpr (by rw [h]; exact FP.Core.roundRatio_ne_nan _ _ _ _ _))
theorem own_cz {aa : Int64} {dx : UInt64} (zx : dx = FP.l2d aa) (u0 : 0 ≤ aa.toInt) (u1 : aa.toInt ≤ 2147483648) : cmpValue (FP.dcmp dx (0 : UInt64)) .l = 0 ↔ aa = 0 := by
  rw [zx, ← Jvm.RoadKit.l2d_zero, Jvm.RoadKit.dcmp_ws (a := aa) (b := 0) ⟨by omega, by omega⟩ ⟨by decide, by decide⟩]
  have z0 : (0 : Int64).toInt = 0 := rfl
  rw [z0, if_neg (by omega)]
  by_cases q : aa.toInt = 0
  · rw [if_pos q]
    exact ⟨fun _ => Int64.toInt_inj.mp (q.trans z0.symm), fun _ => rfl⟩
  · rw [if_neg q]
    exact ⟨fun z => absurd z (by decide), fun z => absurd (by rw [z]; rfl) q⟩
theorem own_e1 {aa : Int64} {dx : UInt64} {dd : Int32} (zx : dx = FP.l2d aa) (u0 : 0 ≤ aa.toInt) (u1 : aa.toInt ≤ 1048576) (na : ¬ aa = 0) (d0 : 0 < dd.toInt) (d1 : dd.toInt ≤ 1048576) : FP.dmul dx (FP.i2d dd) = FP.l2d (aa * dd.toInt64) ∧ (aa * dd.toInt64).toInt = aa.toInt * dd.toInt ∧ 0 < aa.toInt * dd.toInt ∧ aa.toInt * dd.toInt ≤ 1099511627776 := by
  have e := Jvm.RoadKit.c_i2l dd
  have z0 : (0 : Int64).toInt = 0 := rfl
  have pa : 0 < aa.toInt := by
    have : ¬ aa.toInt = 0 := fun q => na (Int64.toInt_inj.mp (q.trans z0.symm))
    omega
  have p1 : 0 < aa.toInt * dd.toInt := Int.mul_pos pa d0
  have p2 : aa.toInt * dd.toInt ≤ 1048576 * 1048576 := Int.mul_le_mul u1 d1 (by omega) (by omega)
  have p3 : aa.toInt * dd.toInt64.toInt = aa.toInt * dd.toInt := by rw [e]
  refine ⟨?_, ?_, p1, by omega⟩
  · rw [zx, Jvm.RoadKit.i2d_w]
    exact Jvm.RoadKit.dmul_w ⟨by omega, by omega⟩ ⟨by omega, by omega⟩ na (fun q => by rw [q] at e; omega) (by omega) (by omega)
  · rw [FP.Core.int64_mul (by omega) (by omega), e]
theorem own_e2 {pp : Int32} (h : 0 ≤ pp.toInt) : FP.dadd (FP.i2d pp) (4607182418800017408 : UInt64) = FP.l2d (pp.toInt64 + 1) ∧ (pp.toInt64 + 1).toInt = pp.toInt + 1 := by
  have e := Jvm.RoadKit.c_i2l pp
  have r := own_rngI pp
  have o : (1 : Int64).toInt = 1 := rfl
  refine ⟨?_, ?_⟩
  · rw [Jvm.RoadKit.i2d_w, show (4607182418800017408 : UInt64) = FP.l2d 1 by decide +kernel]
    exact Jvm.RoadKit.dadd_w ⟨by omega, by omega⟩ ⟨by decide, by decide⟩
  · rw [FP.Core.int64_add (by omega) (by omega), e, o]
theorem own_nnq {a b : Int64} (ha : 0 < a.toInt) (ha2 : a.toInt ≤ 1099511627776) (hb : 0 < b.toInt) (hb2 : b.toInt ≤ 2147483648) : Jvm.Free.Fl.NoNaN64 (FP.ddiv (FP.l2d a) (FP.l2d b)) := own_nn (own_quo (a := a) (b := b) (n := a.toInt.toNat) (m := b.toInt.toNat) (by omega) (by omega) (by omega) (by omega) (by omega) (by omega))
theorem own_main {ww sc qq rr : Int64} {dd pp : Int32} {r : UInt64} (w0 : 0 ≤ ww.toInt) (w1 : ww.toInt < 1048576) (d0 : 0 < dd.toInt) (d1 : dd.toInt ≤ 1048576) (p0 : 0 ≤ pp.toInt)
    (g_sc : (ww * (dd.toInt64)) <<< ((22 : Int32) &&& 0x3f).toInt64 = sc) (g_qq : sc / ((pp.toInt64) + (1 : Int64)) = qq) (g_rr : sc % ((pp.toInt64) + (1 : Int64)) = rr) (ra : ww = 0 → r = 0) (rc : ¬ ww = 0 → r = FP.ddiv (FP.l2d (ww * dd.toInt64)) (FP.l2d (pp.toInt64 + 1))) :
    Jvm.Free.Fl.NoNaN64 (FP.dmul r (4706261610602168320 : UInt64)) ∧ (rr = 0 → cmpValue (FP.dcmp (FP.dmul r (4706261610602168320 : UInt64)) (FP.l2d qq)) .l = 0) ∧ (¬ rr = 0 → ¬ 0 < cmpValue (FP.dcmp (FP.l2d qq) (FP.dmul r (4706261610602168320 : UInt64))) .g ∧ ¬ 0 < cmpValue (FP.dcmp (FP.dmul r (4706261610602168320 : UInt64)) (FP.l2d (qq + (1 : Int64)))) .g) := by
  have z0 : (0 : Int64).toInt = 0 := rfl
  by_cases hz : ww = 0
  · subst hz
    have hr := ra rfl
    subst hr
    have s0 : sc = 0 := by rw [← g_sc, Int64.zero_mul]; decide
    rw [s0] at g_qq g_rr
    have q0 : qq = 0 := by rw [← g_qq]; exact Int64.zero_div
    have r0 : rr = 0 := by rw [← g_rr]; exact Int64.zero_mod
    rw [q0, r0]
    exact ⟨by unfold Jvm.Free.Fl.NoNaN64; decide +kernel, fun _ => by decide +kernel, fun z => absurd rfl z⟩
  · obtain ⟨-, t1, t2, t3⟩ := own_e1 (dx := FP.l2d ww) rfl w0 (by omega) hz d0 d1
    obtain ⟨-, t4⟩ := own_e2 p0
    have r := own_rngI pp
    have hsh := Jvm.RoadKit.c_lshl (ww * (dd.toInt64)) 22 22 (by decide)
    rw [g_sc, t1] at hsh
    have rs := Jvm.RoadKit.rng64 sc
    have hsc : sc.toInt = ww.toInt * dd.toInt * 4194304 := by
      have : ((2 ^ 22 : Nat) : Int) = 4194304 := by decide
      rw [this] at hsh
      omega
    obtain ⟨n, hn⟩ : ∃ n : Nat, ww.toInt * dd.toInt = (n : Int) := ⟨_, (Int.toNat_of_nonneg (by omega)).symm⟩
    obtain ⟨m, hm⟩ : ∃ m : Nat, pp.toInt + 1 = (m : Int) := ⟨_, (Int.toNat_of_nonneg (by omega)).symm⟩
    rw [hn] at t1 t2 t3 hsc
    rw [hm] at t4
    have hne : (pp.toInt64 + 1) ≠ (-1 : Int64) := fun q => by rw [q] at t4; have : (-1 : Int64).toInt = -1 := rfl; omega
    have hq := (Jvm.RoadKit.c_ldiv sc (pp.toInt64 + 1) m t4 hne).1 (by omega)
    have hr := (Jvm.RoadKit.c_lrem sc (pp.toInt64 + 1) m t4).1 (by omega)
    rw [Jvm.RoadKit.lrem_mod, g_rr, hsc, show ((n : Int) * 4194304) = ((n * 4194304 : Nat) : Int) by omega] at hr
    rw [g_qq, hsc, show ((n : Int) * 4194304) = ((n * 4194304 : Nat) : Int) by omega] at hq
    rw [← Int.natCast_ediv] at hq
    rw [← Int.natCast_emod] at hr
    have hm1 : 0 < m := by omega
    have V := own_quo t1 t4 (by omega) (by omega) hm1 (by omega)
    rw [rc hz]
    have U := own_up V (by omega) (by omega) hm1 (by omega)
    have hQ : n * 4194304 / m ≤ n * 4194304 := Nat.div_le_self _ _
    have hD := Nat.div_add_mod (n * 4194304) m
    have hL := Nat.mod_lt (n * 4194304) hm1
    have hT : n * 4194304 / m * m ≤ n * 4194304 := Nat.div_mul_le_self _ _
    generalize n * 4194304 / m = Q at hq hQ hD hT
    generalize n * 4194304 % m = M at hr hD hL
    have b1 : n * 4194304 ≤ 9223372036854775808 * m := Nat.le_trans (by omega) (Nat.le_mul_of_pos_right _ hm1)
    refine ⟨own_nn U, fun z => ?_, fun z => ⟨?_, ?_⟩⟩
    · rw [z, z0] at hr
      have e := own_cmpEq U (own_vl2d hq) hm1 (by decide) (by rw [Nat.mul_one, Nat.mul_comm Q]; omega)
      rw [show FP.dcmp (FP.dmul (FP.ddiv (FP.l2d (ww * dd.toInt64)) (FP.l2d (pp.toInt64 + 1))) (4706261610602168320 : UInt64)) (FP.l2d qq) = some .eq from e]
      rfl
    · have e := own_cmpLe (own_vl2d hq) U (by decide) hm1 (by omega) b1 (by rw [Nat.mul_one]; exact hT)
      rcases e with e | e <;> rw [show FP.dcmp (FP.l2d qq) (FP.dmul (FP.ddiv (FP.l2d (ww * dd.toInt64)) (FP.l2d (pp.toInt64 + 1))) (4706261610602168320 : UInt64)) = _ from e] <;> decide
    · have o : (1 : Int64).toInt = 1 := rfl
      have hq1 : (qq + 1).toInt = ((Q + 1 : Nat) : Int) := by rw [FP.Core.int64_add (by omega) (by omega), hq, o]; omega
      have e := own_cmpLe U (own_vl2d hq1) hm1 (by decide) b1 (by omega) (by rw [Nat.mul_one, Nat.add_mul, Nat.one_mul, Nat.mul_comm Q]; omega)
      rcases e with e | e <;> rw [show FP.dcmp (FP.dmul (FP.ddiv (FP.l2d (ww * dd.toInt64)) (FP.l2d (pp.toInt64 + 1))) (4706261610602168320 : UInt64)) (FP.l2d (qq + 1)) = _ from e] <;> decide
theorem d1_0 : decode prog_38_method_8_code 0 = .ok (.dload_n 0, 1) := by decide +kernel
theorem d1_1 : decode prog_38_method_8_code 1 = .ok (.dconst 0, 1) := by decide +kernel
theorem d1_2 : decode prog_38_method_8_code 2 = .ok (.dcmp .l, 1) := by decide +kernel
theorem d1_3 : decode prog_38_method_8_code 3 = .ok (.ifCond .ne 5, 3) := by decide +kernel
theorem d1_6 : decode prog_38_method_8_code 6 = .ok (.dconst 0, 1) := by decide +kernel
theorem d1_7 : decode prog_38_method_8_code 7 = .ok (.dreturn, 1) := by decide +kernel
theorem d1_8 : decode prog_38_method_8_code 8 = .ok (.iload_n 3, 1) := by decide +kernel
theorem d1_9 : decode prog_38_method_8_code 9 = .ok (.ifCond .ge 9, 3) := by decide +kernel
theorem d1_12 : decode prog_38_method_8_code 12 = .ok (.ldc2_w 13, 3) := by decide +kernel
theorem d1_15 : decode prog_38_method_8_code 15 = .ok (.goto 14, 3) := by decide +kernel
theorem d1_18 : decode prog_38_method_8_code 18 = .ok (.dload_n 0, 1) := by decide +kernel
theorem d1_19 : decode prog_38_method_8_code 19 = .ok (.iload_n 2, 1) := by decide +kernel
theorem d1_20 : decode prog_38_method_8_code 20 = .ok (.iload_n 3, 1) := by decide +kernel
theorem d1_21 : decode prog_38_method_8_code 21 = .ok (.isub, 1) := by decide +kernel
theorem d1_22 : decode prog_38_method_8_code 22 = .ok (.i2d, 1) := by decide +kernel
theorem d1_23 : decode prog_38_method_8_code 23 = .ok (.dmul, 1) := by decide +kernel
theorem d1_24 : decode prog_38_method_8_code 24 = .ok (.iload_n 3, 1) := by decide +kernel
theorem d1_25 : decode prog_38_method_8_code 25 = .ok (.i2d, 1) := by decide +kernel
theorem d1_26 : decode prog_38_method_8_code 26 = .ok (.dconst 1, 1) := by decide +kernel
theorem d1_27 : decode prog_38_method_8_code 27 = .ok (.dadd, 1) := by decide +kernel
theorem d1_28 : decode prog_38_method_8_code 28 = .ok (.ddiv, 1) := by decide +kernel
theorem d1_29 : decode prog_38_method_8_code 29 = .ok (.dreturn, 1) := by decide +kernel
theorem pn_1 : plainFor (⟨"com/example/revisit/revisit/policy/FetchValues", "waitFloor", "(DII)D"⟩ : MethodName) = true := by first | exact plainFor_of_name (by first | (simp [plainName, overriddenIn]; done) | decide +kernel) | decide +kernel
theorem ef_1 (m : MethodId) (dx : UInt64) (p2 : Int32) (p3 : Int32) : entryFrame m #[(.double dx), (.int p2), (.int p3)] 4 = mkF m 0 #[.val (.double dx), .second, .val (.int p2), .val (.int p3)] [] := by first | (simp [entryFrame, argsToLocals, Value.category, Array.replicate]; done) | rfl
theorem pd_1 : parseMethodDescriptor "(DII)D" = some ⟨[.double, .int, .int], some .double⟩ := by decide +kernel
def Q1 (Z : State) (dx : UInt64) (p2 : Int32) (p3 : Int32) (aa : Int64) (h0 : Heap) (n0 : Nat) (v : Option Value) (h : Heap) (L : List Loc) : Prop := ∃ r, v = some (.double r) ∧ (aa = 0 → r = 0) ∧ (¬ aa = 0 → p3 < 0 → r = 9218868437227405312) ∧ (¬ aa = 0 → ¬ p3 < 0 → r = FP.ddiv (FP.l2d (aa * (p2 - p3).toInt64)) (FP.l2d (p3.toInt64 + 1))) ∧ Fr n0 L ∧ h0 = h
theorem rm1 (l : Launch) (Z : State) (a0 : Array Value) (hw : ∀ d ∈ tables_1, d.before a0 Z = true) (ws : List Jvm.Cond) (dx : UInt64) (p2 : Int32) (p3 : Int32) (aa : Int64) (h0 : Heap) (n0 : Nat) (Z0 : n0 ≤ h0.size) (zx : dx = FP.l2d aa) (u0 : 0 ≤ aa.toInt) (u1 : aa.toInt ≤ 2147483648) (hdd : ¬ aa = 0 → ¬ p3 < 0 → aa.toInt ≤ 1048576 ∧ 0 < (p2 - p3).toInt ∧ (p2 - p3).toInt ≤ 1048576) :
    MetFree l (⟨"com/example/revisit/revisit/policy/FetchValues", "waitFloor", "(DII)D"⟩ : MethodName) (head1 (Jvm.Cond.code (⟨"com/example/revisit/revisit/policy/FetchValues", "waitFloor", "(DII)D"⟩ : MethodName) prog_38_method_8_code 4 (some .double) :: ws) ({ frames := 0, cells := 0, slots := 0, locals := 0 } : Room)) (fun a U => a = #[(.double dx), (.int p2), (.int p3)] ∧ Z.Warmed39 U.vm ∧ U.heap = h0) (fun _ _ _ _ _ => True) (fun _ U o U' => ∃ v L, o = .returned v ∧ (Q1 Z dx p2 p3 aa h0 n0) v U'.heap L ∧ FrameEnd U o U' L ({ frames := 0, cells := 0, slots := 0, locals := 0 } : Room).cells ({ frames := 0, cells := 0, slots := 0, locals := 0 } : Room).slots) := by
  refine MetFree.of_bodySF pn_1 hisR ?_
  intro p e s m args below meth c s₁ Bd hml0 hP hK
  obtain ⟨rfl, hZ, hh⟩ := hP
  have hx := Bd.exec
  have hby := Bd.bytes
  have hml : c.maxLocals = 4 := hml0
  have hown : s.vm.findClass "com/example/revisit/revisit/policy/FetchValues" = some m.cls := findClass_of_methodNamed Bd.named
  have hnm := (name_of_methodNamed Bd.named Bd.method).1
  have X0 : Stand p l e ({ frames := 0, cells := 0, slots := 0, locals := 0 } : Room) s m #[(.double dx), (.int p2), (.int p3)] below meth c s₁ [] 0 0 := Stand.of_body Bd
  have e0 : s₁.heap = h0 := by rw [← hh, Bd.state]; rfl
  have N0 := Fr.nil n0
  have lk : meth.locks = false := BodyLoose.notSynchronized Bd
  have hret := Bd.returns
  show Ends p e below (EF s ({ frames := 0, cells := 0, slots := 0, locals := 0 } : Room).cells ({ frames := 0, cells := 0, slots := 0, locals := 0 } : Room).slots) (Q1 Z dx p2 p3 aa h0 n0) (s₁.setTop (entryFrame m #[(.double dx), (.int p2), (.int p3)] 4))
  refine Ends.cast (ef_1 m dx p2 p3) ?_
  refine own_dloadN (n := 1) X0 hx (hb hby d1_0) rfl rfl ?_
  refine own_dconst0 (n := 2) X0 hx (hb hby d1_1) rfl ?_
  refine own_dcmp (n := 3) X0 hx (hb hby d1_2) rfl ?_
  by_cases c3 : (cmpValue (FP.dcmp dx (0 : UInt64)) .l) = 0
  · refine own_ifNo (n := 6) X0 hx (hb hby d1_3) (Jvm.Free.XT.i0_ne_f c3) rfl ?_
    refine own_dconst0 (n := 7) X0 hx (hb hby d1_6) rfl ?_
    refine own_retD X0 hx lk hret (hb hby d1_7) (by decide) (by decide) ?_
    rw [e0]
    have za := (own_cz zx u0 u1).mp c3
    exact ⟨_, rfl, fun _ => rfl, fun z => absurd za z, fun z => absurd za z, N0, rfl⟩
  · refine own_ifYes (n := 8) X0 hx (hb hby d1_3) (Jvm.Free.XT.i0_ne_t c3) (by decide) (by decide) ?_
    refine own_iloadN (n := 9) X0 hx (hb hby d1_8) rfl rfl ?_
    by_cases c9 : p3 < 0
    · refine own_ifNo (n := 12) X0 hx (hb hby d1_9) (Jvm.Free.XT.i0_ge_f c9) rfl ?_
      refine own_ldcD (n := 15) X0 hx hZ hown (hw _ (List.mem_of_getElem? (i := 8) rfl)) (hb hby d1_12) rfl ?_
      refine own_goto (n := 29) X0 hx (hb hby d1_15) (by decide) (by decide) ?_
      refine own_retD X0 hx lk hret (hb hby d1_29) (by decide) (by decide) ?_
      rw [e0]
      exact ⟨_, rfl, fun z => absurd z (fun z => c3 ((own_cz zx u0 u1).mpr z)), fun _ _ => rfl, fun _ z => absurd c9 z, N0, rfl⟩
    · refine own_ifYes (n := 18) X0 hx (hb hby d1_9) (Jvm.Free.XT.i0_ge_t c9) (by decide) (by decide) ?_
      refine own_dloadN (n := 19) X0 hx (hb hby d1_18) rfl rfl ?_
      refine own_iloadN (n := 20) X0 hx (hb hby d1_19) rfl rfl ?_
      refine own_iloadN (n := 21) X0 hx (hb hby d1_20) rfl rfl ?_
      refine own_isub (n := 22) X0 hx (hb hby d1_21) rfl ?_
      refine own_i2d (n := 23) X0 hx (hb hby d1_22) rfl ?_
      have na : ¬ aa = 0 := fun z => c3 ((own_cz zx u0 u1).mpr z)
      obtain ⟨i1, i2, i3⟩ := hdd na c9
      obtain ⟨E1, E1a, E1b, E1c⟩ := own_e1 zx u0 i1 na i2 i3
      refine own_dmul (n := 24) X0 hx (hb hby d1_23) (Jvm.RoadKit.nn_w E1) rfl ?_
      refine own_iloadN (n := 25) X0 hx (hb hby d1_24) rfl rfl ?_
      refine own_i2d (n := 26) X0 hx (hb hby d1_25) rfl ?_
      refine own_dconst1 (n := 27) X0 hx (hb hby d1_26) rfl ?_
      have hp0 : 0 ≤ p3.toInt := by have o : (0 : Int32).toInt = 0 := rfl; rw [Int32.lt_iff_toInt_lt] at c9; omega
      obtain ⟨E2, E2a⟩ := own_e2 hp0
      refine own_dadd (n := 28) X0 hx (hb hby d1_27) (Jvm.RoadKit.nn_w E2) rfl ?_
      refine own_ddiv (n := 29) X0 hx (hb hby d1_28) (by rw [E1, E2]; have r := own_rngI p3; exact own_nnq (by omega) (by omega) (by omega) (by omega)) rfl ?_
      refine own_retD X0 hx lk hret (hb hby d1_29) (by decide) (by decide) ?_
      rw [e0]
      exact ⟨_, rfl, fun z => absurd z (fun z => c3 ((own_cz zx u0 u1).mpr z)), fun _ z => absurd z c9, fun _ _ => by rw [E1, E2], N0, rfl⟩
theorem own_m1 (x : Int32) : 0 < ((x.toInt64 &&& (2147483647 : Int64)) + (1 : Int64)).toInt ∧ ((x.toInt64 &&& (2147483647 : Int64)) + (1 : Int64)).toInt ≤ 2147483648 := by
  have q := Jvm.RoadKit.c_maskL x.toInt64 2147483647 31 (by decide) (by decide)
  have o : (1 : Int64).toInt = 1 := rfl
  have e : ((2 ^ 31 : Nat) : Int) = 2147483648 := by decide
  rw [e] at q
  have b1 := Int.emod_nonneg x.toInt64.toInt (b := 2147483648) (by decide)
  have b2 := Int.emod_lt_of_pos x.toInt64.toInt (b := 2147483648) (by decide)
  rw [FP.Core.int64_add (by omega) (by omega), o]
  omega
theorem own_20 (x : Int32) : 0 ≤ (x &&& (1048575 : Int32)).toInt ∧ (x &&& (1048575 : Int32)).toInt ≤ 1048575 := c_and x 1048575 (by decide)
theorem own_ww {x : Int32} {ww : Int64} (g : (x &&& (1048575 : Int32)).toInt64 = ww) : 0 ≤ ww.toInt ∧ ww.toInt < 1048576 := by
  have q := own_20 x
  rw [← g, Jvm.RoadKit.c_i2l]
  omega
theorem own_dd {x dd : Int32} (g : (1 : Int32) + (x &&& (1048575 : Int32)) = dd) : 0 < dd.toInt ∧ dd.toInt ≤ 1048576 := by
  have q := own_20 x
  have r := c_iadd 1 (x &&& (1048575 : Int32))
  have s := own_rngI ((1 : Int32) + (x &&& (1048575 : Int32)))
  have o : (1 : Int32).toInt = 1 := rfl
  rw [g] at r s
  omega
theorem own_mx {x dd : Int32} (g : (1 : Int32) + (x &&& (1048575 : Int32)) = dd) : ((2147483647 : Int32) - dd).toInt = 2147483647 - dd.toInt ∧ ¬ (2147483647 : Int32) - dd = 0 := by
  have q := own_dd g
  have r := c_isub 2147483647 dd
  have s := own_rngI ((2147483647 : Int32) - dd)
  have o : (2147483647 : Int32).toInt = 2147483647 := rfl
  have z : (0 : Int32).toInt = 0 := rfl
  refine ⟨by omega, fun e => ?_⟩
  rw [e] at r
  omega
theorem own_pp {x y dd pp : Int32} (g : (1 : Int32) + (x &&& (1048575 : Int32)) = dd) (g2 : (y &&& (2147483647 : Int32)) % ((2147483647 : Int32) - dd) = pp) : 0 ≤ pp.toInt ∧ pp.toInt + dd.toInt < 2147483647 := by
  obtain ⟨e, -⟩ := own_mx g
  have q := own_dd g
  have a := c_and y 2147483647 (by decide)
  have r := (c_irem (y &&& (2147483647 : Int32)) ((2147483647 : Int32) - dd) _ e).1 a.1
  have b1 := Int.emod_nonneg (y &&& (2147483647 : Int32)).toInt (b := 2147483647 - dd.toInt) (by omega)
  have b2 := Int.emod_lt_of_pos (y &&& (2147483647 : Int32)).toInt (b := 2147483647 - dd.toInt) (by omega)
  rw [g2] at r
  omega
theorem own_sl {pp dd : Int32} : pp + dd - pp = dd := by
  rw [Int32.add_comm, Int32.add_sub_cancel]
theorem own_pne {pp : Int32} (h : 0 ≤ pp.toInt) : ¬ (pp.toInt64 + (1 : Int64)) = 0 := fun z => by
  have q := (own_e2 h).2
  have e : (0 : Int64).toInt = 0 := rfl
  rw [z, e] at q
  omega
theorem pn_0 : plainFor x = true := by first | exact plainFor_of_name (by first | (simp [plainName, overriddenIn]; done) | decide +kernel) | decide +kernel
theorem ef_0 (m : MethodId) (p1 : Int32) (p2 : Int32) (p3 : Int32) (p4 : Int32) : entryFrame m #[(.int p1), (.int p2), (.int p3), (.int p4)] maxLocals = mkF m 0 #[.val (.int p1), .val (.int p2), .val (.int p3), .val (.int p4), .unset, .unset, .unset, .unset, .unset, .unset, .unset, .unset, .unset, .unset, .unset, .unset, .unset, .unset, .unset, .unset] [] := by first | (simp [entryFrame, argsToLocals, Value.category, Array.replicate, maxLocals]; done) | rfl
def Q0 (Z : State) (p1 : Int32) (p2 : Int32) (p3 : Int32) (p4 : Int32)  (h0 : Heap) (n0 : Nat) (v : Option Value) (h : Heap) (L : List Loc) : Prop := v = some (.int 1) ∧ Fr n0 L
theorem rm0 (l : Launch) (Z : State) (a0 : Array Value) (hw : ∀ d ∈ tables_1, d.before a0 Z = true) (ws : List Jvm.Cond) (p1 : Int32) (p2 : Int32) (p3 : Int32) (p4 : Int32)  (h0 : Heap) (n0 : Nat) (Z0 : n0 ≤ h0.size)  :
    MetFree l x (head1 (Jvm.Cond.code x code maxLocals ret :: ws) room_1) (fun a U => a = #[(.int p1), (.int p2), (.int p3), (.int p4)] ∧ Z.Warmed39 U.vm ∧ U.heap = h0) (fun _ _ _ _ _ => True) (fun _ U o U' => ∃ v L, o = .returned v ∧ (Q0 Z p1 p2 p3 p4  h0 n0) v U'.heap L ∧ FrameEnd U o U' L 0 0) := by
  refine MetFree.of_bodySF pn_0 hisR ?_
  intro p e s m args below meth c s₁ Bd hml0 hP hK
  obtain ⟨rfl, hZ, hh⟩ := hP
  have hx := Bd.exec
  have hby := Bd.bytes
  have hml : c.maxLocals = 20 := hml0
  have hown : s.vm.findClass "com/example/revisit/revisit/policy/FetchValuesWaitFloorPinLaw" = some m.cls := findClass_of_methodNamed Bd.named
  have hnm := (name_of_methodNamed Bd.named Bd.method).1
  have X0 : Stand p l e room_1 s m #[(.int p1), (.int p2), (.int p3), (.int p4)] below meth c s₁ [] 0 0 := Stand.of_body Bd
  have e0 : s₁.heap = h0 := by rw [← hh, Bd.state]; rfl
  have N0 := Fr.nil n0
  have lk : meth.locks = false := BodyLoose.notSynchronized Bd
  have hret := Bd.returns
  show Ends p e below (EF s 0 0) (Q0 Z p1 p2 p3 p4  h0 n0) (s₁.setTop (entryFrame m #[(.int p1), (.int p2), (.int p3), (.int p4)] maxLocals))
  refine Ends.cast (ef_0 m p1 p2 p3 p4) ?_
  refine own_iloadN (n := 1) X0 hx (hb hby at_0) rfl rfl ?_
  refine own_iconst (n := 2) X0 hx (3 : Int32) (hb hby at_1) rfl rfl ?_
  refine own_iand (n := 3) X0 hx (hb hby at_2) rfl ?_
  refine own_istore (n := 5) X0 hx (hb hby at_3) (l' := #[.val (.int p1), .val (.int p2), .val (.int p3), .val (.int p4), .val (.int (p1 &&& (3 : Int32))), .unset, .unset, .unset, .unset, .unset, .unset, .unset, .unset, .unset, .unset, .unset, .unset, .unset, .unset, .unset]) rfl rfl ?_
  refine own_iload (n := 7) X0 hx (hb hby at_5) rfl rfl ?_
  by_cases c7 : (p1 &&& (3 : Int32)) = 0
  · refine own_ifNo (n := 10) X0 hx (hb hby at_7) (Jvm.Free.XT.i0_ne_f c7) rfl ?_
    refine own_dconst0 (n := 11) X0 hx (hb hby at_10) rfl ?_
    refine own_iloadN (n := 12) X0 hx (hb hby at_11) rfl rfl ?_
    refine own_iloadN (n := 13) X0 hx (hb hby at_12) rfl rfl ?_
    refine own_callS (n := 16) X0 hx hZ hown (hw _ (List.mem_of_getElem? (i := 0) rfl)) (hw _ (List.mem_of_getElem? (i := 1) rfl)) (hw _ (List.mem_of_getElem? (i := 2) rfl)) (hw _ (List.mem_of_getElem? (i := 3) rfl)) (by decide) e0 (rm1 l Z a0 hw [] (0 : UInt64) p4 p3 (0) h0 n0 Z0 Jvm.RoadKit.l2d_zero.symm (by decide) (by decide) (fun z => absurd rfl z)) (W := 0) (by decide) (by decide) (by decide) (by decide) (by rw [hml]; rfl) (argsL := [(.double (0 : UInt64)), (.int p4), (.int p3)]) (rest := []) pd_1 rfl (by rfl) (Nat.le_of_eq rfl) (hb hby at_13) rfl rfl ?_
    intro v1 T1 h1 L1 X1 e1 q1
    obtain ⟨r1, rfl, ra1, rb1, rc1, M1, rfl⟩ := q1
    have N1 := Fr.app N0 M1
    obtain rfl := ra1 rfl
    refine own_dstore (n := 18) X1 hx (hb hby at_16) (l' := #[.val (.int p1), .val (.int p2), .val (.int p3), .val (.int p4), .val (.int (p1 &&& (3 : Int32))), .val (.double (0 : UInt64)), .second, .unset, .unset, .unset, .unset, .unset, .unset, .unset, .unset, .unset, .unset, .unset, .unset, .unset]) rfl rfl ?_
    refine own_dload (n := 20) X1 hx (hb hby at_18) rfl rfl ?_
    refine own_dconst0 (n := 21) X1 hx (hb hby at_20) rfl ?_
    refine own_dcmp (n := 22) X1 hx (hb hby at_21) rfl ?_
    refine own_ifNo (n := 25) X1 hx (hb hby at_22) (Jvm.Free.XT.i0_ne_f (by decide +kernel)) rfl ?_
    refine own_iconst (n := 26) X1 hx (1 : Int32) (hb hby at_25) rfl rfl ?_
    refine own_goto (n := 30) X1 hx (hb hby at_26) (by decide) (by decide) ?_
    refine own_retN X1 hx lk hret (by simp) (hb hby at_30) (by decide) (by decide) ?_
    rw [e1]
    exact ⟨rfl, N1⟩
  · refine own_ifYes (n := 31) X0 hx (hb hby at_7) (Jvm.Free.XT.i0_ne_t c7) (by decide) (by decide) ?_
    refine own_iload (n := 33) X0 hx (hb hby at_31) rfl rfl ?_
    refine own_iconst (n := 34) X0 hx (1 : Int32) (hb hby at_33) rfl rfl ?_
    by_cases c34 : (p1 &&& (3 : Int32)) = (1 : Int32)
    · refine own_icmpNo (n := 37) X0 hx (hb hby at_34) (Jvm.Free.XT.ii_ne_f c34) rfl ?_
      refine own_iloadN (n := 38) X0 hx (hb hby at_37) rfl rfl ?_
      refine own_i2l (n := 39) X0 hx (hb hby at_38) rfl ?_
      refine own_ldc2_w (n := 42) X0 hx hZ hown (hw _ (List.mem_of_getElem? (i := 7) rfl)) (hb hby at_39) rfl ?_
      refine own_land (n := 43) X0 hx (hb hby at_42) rfl ?_
      refine own_lconst (n := 44) X0 hx (1 : Int64) (hb hby at_43) rfl rfl ?_
      refine own_ladd (n := 45) X0 hx (hb hby at_44) rfl ?_
      refine own_l2d (n := 46) X0 hx (hb hby at_45) rfl ?_
      refine own_dstore (n := 48) X0 hx (hb hby at_46) (l' := #[.val (.int p1), .val (.int p2), .val (.int p3), .val (.int p4), .val (.int (p1 &&& (3 : Int32))), .val (.double (FP.l2d (((p2.toInt64) &&& (2147483647 : Int64)) + (1 : Int64)))), .second, .unset, .unset, .unset, .unset, .unset, .unset, .unset, .unset, .unset, .unset, .unset, .unset, .unset]) rfl rfl ?_
      refine own_iloadN (n := 49) X0 hx (hb hby at_48) rfl rfl ?_
      refine own_ldc (n := 51) X0 hx hZ hown (hw _ (List.mem_of_getElem? (i := 5) rfl)) (hb hby at_49) rfl ?_
      refine own_iand (n := 52) X0 hx (hb hby at_51) rfl ?_
      refine own_istore (n := 54) X0 hx (hb hby at_52) (l' := #[.val (.int p1), .val (.int p2), .val (.int p3), .val (.int p4), .val (.int (p1 &&& (3 : Int32))), .val (.double (FP.l2d (((p2.toInt64) &&& (2147483647 : Int64)) + (1 : Int64)))), .second, .val (.int (p4 &&& (2147483647 : Int32))), .unset, .unset, .unset, .unset, .unset, .unset, .unset, .unset, .unset, .unset, .unset, .unset]) rfl rfl ?_
      refine own_dload (n := 56) X0 hx (hb hby at_54) rfl rfl ?_
      refine own_iload (n := 58) X0 hx (hb hby at_56) rfl rfl ?_
      refine own_iconst (n := 59) X0 hx (-1 : Int32) (hb hby at_58) (by decide) rfl ?_
      have hm1 := own_m1 p2
      refine own_callS (n := 62) X0 hx hZ hown (hw _ (List.mem_of_getElem? (i := 0) rfl)) (hw _ (List.mem_of_getElem? (i := 1) rfl)) (hw _ (List.mem_of_getElem? (i := 2) rfl)) (hw _ (List.mem_of_getElem? (i := 3) rfl)) (by decide) e0 (rm1 l Z a0 hw [] (FP.l2d (((p2.toInt64) &&& (2147483647 : Int64)) + (1 : Int64))) (p4 &&& (2147483647 : Int32)) (-1 : Int32) (((p2.toInt64) &&& (2147483647 : Int64)) + (1 : Int64)) h0 n0 Z0 rfl (by omega) hm1.2 (fun _ z => absurd (by decide) z)) (W := 0) (by decide) (by decide) (by decide) (by decide) (by rw [hml]; rfl) (argsL := [(.double (FP.l2d (((p2.toInt64) &&& (2147483647 : Int64)) + (1 : Int64)))), (.int (p4 &&& (2147483647 : Int32))), (.int (-1 : Int32))]) (rest := []) pd_1 rfl (by rfl) (Nat.le_of_eq rfl) (hb hby at_59) rfl rfl ?_
      intro v2 T2 h2 L2 X2 e2 q2
      obtain ⟨r2, rfl, ra2, rb2, rc2, M2, rfl⟩ := q2
      have N2 := Fr.app N0 M2
      obtain rfl := rb2 (fun z => by rw [z] at hm1; exact absurd hm1.1 (by decide)) (by decide)
      refine own_dstore (n := 64) X2 hx (hb hby at_62) (l' := #[.val (.int p1), .val (.int p2), .val (.int p3), .val (.int p4), .val (.int (p1 &&& (3 : Int32))), .val (.double (FP.l2d (((p2.toInt64) &&& (2147483647 : Int64)) + (1 : Int64)))), .second, .val (.int (p4 &&& (2147483647 : Int32))), .val (.double (9218868437227405312 : UInt64)), .second, .unset, .unset, .unset, .unset, .unset, .unset, .unset, .unset, .unset, .unset]) rfl rfl ?_
      refine own_dload (n := 66) X2 hx (hb hby at_64) rfl rfl ?_
      refine own_ldcD (n := 69) X2 hx hZ hown (hw _ (List.mem_of_getElem? (i := 9) rfl)) (hb hby at_66) rfl ?_
      refine own_dcmp (n := 70) X2 hx (hb hby at_69) rfl ?_
      refine own_ifNo (n := 73) X2 hx (hb hby at_70) (Jvm.Free.XT.i0_le_f (by decide +kernel)) rfl ?_
      refine own_dload (n := 75) X2 hx (hb hby at_73) rfl rfl ?_
      refine own_dload (n := 77) X2 hx (hb hby at_75) rfl rfl ?_
      refine own_dadd (n := 78) X2 hx (hb hby at_77) (by unfold Jvm.Free.Fl.NoNaN64; decide +kernel) rfl ?_
      refine own_dload (n := 80) X2 hx (hb hby at_78) rfl rfl ?_
      refine own_dcmp (n := 81) X2 hx (hb hby at_80) rfl ?_
      refine own_ifNo (n := 84) X2 hx (hb hby at_81) (Jvm.Free.XT.i0_ne_f (by decide +kernel)) rfl ?_
      refine own_iconst (n := 85) X2 hx (1 : Int32) (hb hby at_84) rfl rfl ?_
      refine own_goto (n := 89) X2 hx (hb hby at_85) (by decide) (by decide) ?_
      refine own_retN X2 hx lk hret (by simp) (hb hby at_89) (by decide) (by decide) ?_
      rw [e2]
      exact ⟨rfl, N2⟩
    · refine own_icmpYes (n := 90) X0 hx (hb hby at_34) (Jvm.Free.XT.ii_ne_t c34) (by decide) (by decide) ?_
      refine own_iloadN (n := 91) X0 hx (hb hby at_90) rfl rfl ?_
      refine own_ldc (n := 93) X0 hx hZ hown (hw _ (List.mem_of_getElem? (i := 4) rfl)) (hb hby at_91) rfl ?_
      refine own_iand (n := 94) X0 hx (hb hby at_93) rfl ?_
      refine own_i2l (n := 95) X0 hx (hb hby at_94) rfl ?_
      refine own_lstore (n := 97) X0 hx (hb hby at_95) (l' := #[.val (.int p1), .val (.int p2), .val (.int p3), .val (.int p4), .val (.int (p1 &&& (3 : Int32))), .val (.long ((p2 &&& (1048575 : Int32)).toInt64)), .second, .unset, .unset, .unset, .unset, .unset, .unset, .unset, .unset, .unset, .unset, .unset, .unset, .unset]) rfl rfl ?_
      show Ends p e below (EF s 0 0) (Q0 Z p1 p2 p3 p4  h0 n0) (s₁.setTop (mkF m 97 #[.val (.int p1), .val (.int p2), .val (.int p3), .val (.int p4), .val (.int (p1 &&& (3 : Int32))), .val (.long ((p2 &&& (1048575 : Int32)).toInt64)), .second, .unset, .unset, .unset, .unset, .unset, .unset, .unset, .unset, .unset, .unset, .unset, .unset, .unset] []))
      generalize g_ww : ((p2 &&& (1048575 : Int32)).toInt64) = ww
      refine own_iconst (n := 98) X0 hx (1 : Int32) (hb hby at_97) rfl rfl ?_
      refine own_iloadN (n := 99) X0 hx (hb hby at_98) rfl rfl ?_
      refine own_ldc (n := 101) X0 hx hZ hown (hw _ (List.mem_of_getElem? (i := 4) rfl)) (hb hby at_99) rfl ?_
      refine own_iand (n := 102) X0 hx (hb hby at_101) rfl ?_
      refine own_iadd (n := 103) X0 hx (hb hby at_102) rfl ?_
      refine own_istore (n := 105) X0 hx (hb hby at_103) (l' := #[.val (.int p1), .val (.int p2), .val (.int p3), .val (.int p4), .val (.int (p1 &&& (3 : Int32))), .val (.long ww), .second, .val (.int ((1 : Int32) + (p4 &&& (1048575 : Int32)))), .unset, .unset, .unset, .unset, .unset, .unset, .unset, .unset, .unset, .unset, .unset, .unset]) rfl rfl ?_
      show Ends p e below (EF s 0 0) (Q0 Z p1 p2 p3 p4  h0 n0) (s₁.setTop (mkF m 105 #[.val (.int p1), .val (.int p2), .val (.int p3), .val (.int p4), .val (.int (p1 &&& (3 : Int32))), .val (.long ww), .second, .val (.int ((1 : Int32) + (p4 &&& (1048575 : Int32)))), .unset, .unset, .unset, .unset, .unset, .unset, .unset, .unset, .unset, .unset, .unset, .unset] []))
      generalize g_dd : ((1 : Int32) + (p4 &&& (1048575 : Int32))) = dd
      refine own_iloadN (n := 106) X0 hx (hb hby at_105) rfl rfl ?_
      refine own_ldc (n := 108) X0 hx hZ hown (hw _ (List.mem_of_getElem? (i := 5) rfl)) (hb hby at_106) rfl ?_
      refine own_iand (n := 109) X0 hx (hb hby at_108) rfl ?_
      refine own_ldc (n := 111) X0 hx hZ hown (hw _ (List.mem_of_getElem? (i := 5) rfl)) (hb hby at_109) rfl ?_
      refine own_iload (n := 113) X0 hx (hb hby at_111) rfl rfl ?_
      refine own_isub (n := 114) X0 hx (hb hby at_113) rfl ?_
      refine own_irem (n := 115) X0 hx (hb hby at_114) (own_mx g_dd).2 rfl ?_
      refine own_istore (n := 117) X0 hx (hb hby at_115) (l' := #[.val (.int p1), .val (.int p2), .val (.int p3), .val (.int p4), .val (.int (p1 &&& (3 : Int32))), .val (.long ww), .second, .val (.int dd), .val (.int ((p3 &&& (2147483647 : Int32)) % ((2147483647 : Int32) - dd))), .unset, .unset, .unset, .unset, .unset, .unset, .unset, .unset, .unset, .unset, .unset]) rfl rfl ?_
      show Ends p e below (EF s 0 0) (Q0 Z p1 p2 p3 p4  h0 n0) (s₁.setTop (mkF m 117 #[.val (.int p1), .val (.int p2), .val (.int p3), .val (.int p4), .val (.int (p1 &&& (3 : Int32))), .val (.long ww), .second, .val (.int dd), .val (.int ((p3 &&& (2147483647 : Int32)) % ((2147483647 : Int32) - dd))), .unset, .unset, .unset, .unset, .unset, .unset, .unset, .unset, .unset, .unset, .unset] []))
      generalize g_pp : ((p3 &&& (2147483647 : Int32)) % ((2147483647 : Int32) - dd)) = pp
      have hww := own_ww g_ww
      have hdd := own_dd g_dd
      have hpp := own_pp g_dd g_pp
      refine own_iload (n := 119) X0 hx (hb hby at_117) rfl rfl ?_
      refine own_iload (n := 121) X0 hx (hb hby at_119) rfl rfl ?_
      refine own_iadd (n := 122) X0 hx (hb hby at_121) rfl ?_
      refine own_istore (n := 124) X0 hx (hb hby at_122) (l' := #[.val (.int p1), .val (.int p2), .val (.int p3), .val (.int p4), .val (.int (p1 &&& (3 : Int32))), .val (.long ww), .second, .val (.int dd), .val (.int pp), .val (.int (pp + dd)), .unset, .unset, .unset, .unset, .unset, .unset, .unset, .unset, .unset, .unset]) rfl rfl ?_
      refine own_lload (n := 126) X0 hx (hb hby at_124) rfl rfl ?_
      refine own_l2d (n := 127) X0 hx (hb hby at_126) rfl ?_
      refine own_iload (n := 129) X0 hx (hb hby at_127) rfl rfl ?_
      refine own_iload (n := 131) X0 hx (hb hby at_129) rfl rfl ?_
      refine own_callS (n := 134) X0 hx hZ hown (hw _ (List.mem_of_getElem? (i := 0) rfl)) (hw _ (List.mem_of_getElem? (i := 1) rfl)) (hw _ (List.mem_of_getElem? (i := 2) rfl)) (hw _ (List.mem_of_getElem? (i := 3) rfl)) (by decide) e0 (rm1 l Z a0 hw [] (FP.l2d ww) (pp + dd) pp ww h0 n0 Z0 rfl (by omega) (by omega) (fun _ _ => by rw [own_sl]; omega)) (W := 0) (by decide) (by decide) (by decide) (by decide) (by rw [hml]; rfl) (argsL := [(.double (FP.l2d ww)), (.int (pp + dd)), (.int pp)]) (rest := []) pd_1 rfl (by rfl) (Nat.le_of_eq rfl) (hb hby at_131) rfl rfl ?_
      intro v3 T3 h3 L3 X3 e3 q3
      obtain ⟨r3, rfl, ra3, rb3, rc3, M3, rfl⟩ := q3
      have N3 := Fr.app N0 M3
      rw [own_sl] at rc3
      refine own_dstore (n := 136) X3 hx (hb hby at_134) (l' := #[.val (.int p1), .val (.int p2), .val (.int p3), .val (.int p4), .val (.int (p1 &&& (3 : Int32))), .val (.long ww), .second, .val (.int dd), .val (.int pp), .val (.int (pp + dd)), .val (.double r3), .second, .unset, .unset, .unset, .unset, .unset, .unset, .unset, .unset]) rfl rfl ?_
      refine own_lload (n := 138) X3 hx (hb hby at_136) rfl rfl ?_
      refine own_iload (n := 140) X3 hx (hb hby at_138) rfl rfl ?_
      refine own_i2l (n := 141) X3 hx (hb hby at_140) rfl ?_
      refine own_lmul (n := 142) X3 hx (hb hby at_141) rfl ?_
      refine own_bipush (n := 144) X3 hx (22 : Int32) (hb hby at_142) rfl rfl ?_
      refine own_lshl (n := 145) X3 hx (hb hby at_144) rfl ?_
      refine own_lstore (n := 147) X3 hx (hb hby at_145) (l' := #[.val (.int p1), .val (.int p2), .val (.int p3), .val (.int p4), .val (.int (p1 &&& (3 : Int32))), .val (.long ww), .second, .val (.int dd), .val (.int pp), .val (.int (pp + dd)), .val (.double r3), .second, .val (.long ((ww * (dd.toInt64)) <<< ((22 : Int32) &&& 0x3f).toInt64)), .second, .unset, .unset, .unset, .unset, .unset, .unset]) rfl rfl ?_
      show Ends p e below (EF s 0 0) (Q0 Z p1 p2 p3 p4  h0 n0) (T3.setTop (mkF m 147 #[.val (.int p1), .val (.int p2), .val (.int p3), .val (.int p4), .val (.int (p1 &&& (3 : Int32))), .val (.long ww), .second, .val (.int dd), .val (.int pp), .val (.int (pp + dd)), .val (.double r3), .second, .val (.long ((ww * (dd.toInt64)) <<< ((22 : Int32) &&& 0x3f).toInt64)), .second, .unset, .unset, .unset, .unset, .unset, .unset] []))
      generalize g_sc : ((ww * (dd.toInt64)) <<< ((22 : Int32) &&& 0x3f).toInt64) = sc
      refine own_lload (n := 149) X3 hx (hb hby at_147) rfl rfl ?_
      refine own_iload (n := 151) X3 hx (hb hby at_149) rfl rfl ?_
      refine own_i2l (n := 152) X3 hx (hb hby at_151) rfl ?_
      refine own_lconst (n := 153) X3 hx (1 : Int64) (hb hby at_152) rfl rfl ?_
      refine own_ladd (n := 154) X3 hx (hb hby at_153) rfl ?_
      refine own_ldiv (n := 155) X3 hx (hb hby at_154) (own_pne hpp.1) rfl ?_
      refine own_lstore (n := 157) X3 hx (hb hby at_155) (l' := #[.val (.int p1), .val (.int p2), .val (.int p3), .val (.int p4), .val (.int (p1 &&& (3 : Int32))), .val (.long ww), .second, .val (.int dd), .val (.int pp), .val (.int (pp + dd)), .val (.double r3), .second, .val (.long sc), .second, .val (.long (sc / ((pp.toInt64) + (1 : Int64)))), .second, .unset, .unset, .unset, .unset]) rfl rfl ?_
      show Ends p e below (EF s 0 0) (Q0 Z p1 p2 p3 p4  h0 n0) (T3.setTop (mkF m 157 #[.val (.int p1), .val (.int p2), .val (.int p3), .val (.int p4), .val (.int (p1 &&& (3 : Int32))), .val (.long ww), .second, .val (.int dd), .val (.int pp), .val (.int (pp + dd)), .val (.double r3), .second, .val (.long sc), .second, .val (.long (sc / ((pp.toInt64) + (1 : Int64)))), .second, .unset, .unset, .unset, .unset] []))
      generalize g_qq : (sc / ((pp.toInt64) + (1 : Int64))) = qq
      refine own_lload (n := 159) X3 hx (hb hby at_157) rfl rfl ?_
      refine own_iload (n := 161) X3 hx (hb hby at_159) rfl rfl ?_
      refine own_i2l (n := 162) X3 hx (hb hby at_161) rfl ?_
      refine own_lconst (n := 163) X3 hx (1 : Int64) (hb hby at_162) rfl rfl ?_
      refine own_ladd (n := 164) X3 hx (hb hby at_163) rfl ?_
      refine own_lrem (n := 165) X3 hx (hb hby at_164) (own_pne hpp.1) rfl ?_
      refine own_lstore (n := 167) X3 hx (hb hby at_165) (l' := #[.val (.int p1), .val (.int p2), .val (.int p3), .val (.int p4), .val (.int (p1 &&& (3 : Int32))), .val (.long ww), .second, .val (.int dd), .val (.int pp), .val (.int (pp + dd)), .val (.double r3), .second, .val (.long sc), .second, .val (.long qq), .second, .val (.long (sc % ((pp.toInt64) + (1 : Int64)))), .second, .unset, .unset]) rfl rfl ?_
      show Ends p e below (EF s 0 0) (Q0 Z p1 p2 p3 p4  h0 n0) (T3.setTop (mkF m 167 #[.val (.int p1), .val (.int p2), .val (.int p3), .val (.int p4), .val (.int (p1 &&& (3 : Int32))), .val (.long ww), .second, .val (.int dd), .val (.int pp), .val (.int (pp + dd)), .val (.double r3), .second, .val (.long sc), .second, .val (.long qq), .second, .val (.long (sc % ((pp.toInt64) + (1 : Int64)))), .second, .unset, .unset] []))
      generalize g_rr : (sc % ((pp.toInt64) + (1 : Int64))) = rr
      obtain ⟨fa, fb, fc⟩ := own_main hww.1 hww.2 hdd.1 hdd.2 hpp.1 g_sc g_qq g_rr ra3 (fun z => rc3 z (by have o : (0 : Int32).toInt = 0 := rfl; rw [Int32.lt_iff_toInt_lt]; omega))
      refine own_dload (n := 169) X3 hx (hb hby at_167) rfl rfl ?_
      refine own_ldcD (n := 172) X3 hx hZ hown (hw _ (List.mem_of_getElem? (i := 6) rfl)) (hb hby at_169) rfl ?_
      refine own_dmul (n := 173) X3 hx (hb hby at_172) fa rfl ?_
      refine own_dstore (n := 175) X3 hx (hb hby at_173) (l' := #[.val (.int p1), .val (.int p2), .val (.int p3), .val (.int p4), .val (.int (p1 &&& (3 : Int32))), .val (.long ww), .second, .val (.int dd), .val (.int pp), .val (.int (pp + dd)), .val (.double r3), .second, .val (.long sc), .second, .val (.long qq), .second, .val (.long rr), .second, .val (.double (FP.dmul r3 (4706261610602168320 : UInt64))), .second]) rfl rfl ?_
      refine own_lload (n := 177) X3 hx (hb hby at_175) rfl rfl ?_
      refine own_lconst (n := 178) X3 hx (0 : Int64) (hb hby at_177) rfl rfl ?_
      refine own_lcmp (n := 179) X3 hx (hb hby at_178) rfl ?_
      by_cases c179 : rr = (0 : Int64)
      · refine own_ifNo (n := 182) X3 hx (hb hby at_179) (lw_ne_f c179) rfl ?_
        refine own_dload (n := 184) X3 hx (hb hby at_182) rfl rfl ?_
        refine own_lload (n := 186) X3 hx (hb hby at_184) rfl rfl ?_
        refine own_l2d (n := 187) X3 hx (hb hby at_186) rfl ?_
        refine own_dcmp (n := 188) X3 hx (hb hby at_187) rfl ?_
        refine own_ifNo (n := 191) X3 hx (hb hby at_188) (Jvm.Free.XT.i0_ne_f (fb c179)) rfl ?_
        refine own_iconst (n := 192) X3 hx (1 : Int32) (hb hby at_191) rfl rfl ?_
        refine own_goto (n := 196) X3 hx (hb hby at_192) (by decide) (by decide) ?_
        refine own_retN X3 hx lk hret (by simp) (hb hby at_196) (by decide) (by decide) ?_
        rw [e3]
        exact ⟨rfl, N3⟩
      · refine own_ifYes (n := 197) X3 hx (hb hby at_179) (lw_ne_t c179) (by decide) (by decide) ?_
        refine own_lload (n := 199) X3 hx (hb hby at_197) rfl rfl ?_
        refine own_l2d (n := 200) X3 hx (hb hby at_199) rfl ?_
        refine own_dload (n := 202) X3 hx (hb hby at_200) rfl rfl ?_
        refine own_dcmp (n := 203) X3 hx (hb hby at_202) rfl ?_
        refine own_ifNo (n := 206) X3 hx (hb hby at_203) (Jvm.Free.XT.i0_gt_f (fc c179).1) rfl ?_
        refine own_dload (n := 208) X3 hx (hb hby at_206) rfl rfl ?_
        refine own_lload (n := 210) X3 hx (hb hby at_208) rfl rfl ?_
        refine own_lconst (n := 211) X3 hx (1 : Int64) (hb hby at_210) rfl rfl ?_
        refine own_ladd (n := 212) X3 hx (hb hby at_211) rfl ?_
        refine own_l2d (n := 213) X3 hx (hb hby at_212) rfl ?_
        refine own_dcmp (n := 214) X3 hx (hb hby at_213) rfl ?_
        refine own_ifNo (n := 217) X3 hx (hb hby at_214) (Jvm.Free.XT.i0_gt_f (fc c179).2) rfl ?_
        refine own_iconst (n := 218) X3 hx (1 : Int32) (hb hby at_217) rfl rfl ?_
        refine own_goto (n := 222) X3 hx (hb hby at_218) (by decide) (by decide) ?_
        refine own_retN X3 hx lk hret (by simp) (hb hby at_222) (by decide) (by decide) ?_
        rw [e3]
        exact ⟨rfl, N3⟩
theorem comes_1 {Post : Tables → Env → Array Value → State → Outcome → State → Prop} (hpost : ∀ tb e args s v u, (limb_1_1.after args s (.returned v) u = true ∧ limb_1_2.after args s (.returned v) u = true ∧ True) → FrameEnd s (.returned v) u (Jvm.fieldLocs frame_1_writes args s ++ Jvm.arrayLocs frame_1_arrays args s ++ Jvm.staticLocs frame_1_statics s) 0 0 → Post tb e args s (.returned v) u) :
    ArmFor flags0 classFile x code maxLocals ret World_1 tables_1 room_1 Calls_1 rest_1 Pre_1 Post := by
  intro l hfl _ _ p e ha hc hk s m args below hf hA hF happ hP
  obtain ⟨hcalls, hrest, hpre⟩ := hP
  obtain ⟨-, -, -, hnamed, -, -, -, hat⟩ := (Spec.applies_iff hf).mp happ
  obtain ⟨hg, hn⟩ := and_e (Cond.before_iff.mp (show (Jvm.Cond.and given_1 narrow_1).before args s = true from hpre))
  obtain ⟨hcount, hg0⟩ := and_e hg
  obtain ⟨hi0, hg1⟩ := and_e hg0
  obtain ⟨hi1, hg2⟩ := and_e hg1
  obtain ⟨hi2, hg3⟩ := and_e hg2
  obtain ⟨w0, w1, w2, w3, rfl⟩ : ∃ w0 w1 w2 w3 : Value, args = #[w0, w1, w2, w3] := by
    have hs : args.size = 4 := by simpa [Cond.value, given_1] using hcount
    obtain ⟨L⟩ := args
    match L, hs with
    | [w0, w1, w2, w3], _ => exact ⟨w0, w1, w2, w3, rfl⟩
  have hw := fun d (hd : d ∈ tables_1) => atoms_spec (ws := Jvm.Cond.code x code maxLocals ret :: tables_1) hat d (List.mem_cons_of_mem _ hd)
  have hfit : Fit s := fun {y c} hc i hi => by
    obtain ⟨ha, rfl⟩ := Array.getElem?_eq_some_iff.mp hc
    have q := List.all_eq_true.mp ((Array.all_eq_true_iff_forall_mem.mp hF) _ (Array.getElem_mem ha)) i (List.mem_range.mpr hi)
    simpa [Array.getElem?_eq_getElem hi] using q
  obtain ⟨i0, j0⟩ := is_v hi0
  obtain rfl : w0 = (.int i0) := Option.some.inj j0
  obtain ⟨i1, j1⟩ := is_v hi1
  obtain rfl : w1 = (.int i1) := Option.some.inj j1
  obtain ⟨i2, j2⟩ := is_v hi2
  obtain rfl : w2 = (.int i2) := Option.some.inj j2
  obtain ⟨i3, j3⟩ := is_v hg3
  obtain rfl : w3 = (.int i3) := Option.some.inj j3
  obtain ⟨n, o, h1, h2, h3, _, L, rfl, ⟨rfl, N⟩, hq⟩ := rm0 l s _ hw tables_1 i0 i1 i2 i3  s.heap s.heap.size (Nat.le_refl _)  p e ha hc hk s m _ below hf ((Spec.applies_iff_loose hf).mp happ).1 ⟨rfl, State.Warmed39.refl s, rfl⟩ trivial
  refine ⟨n, _, h1, h2, h3, hpost _ _ _ _ _ _ ⟨Cond.after_iff.mpr rfl, Cond.after_iff.mpr (eq_i res_at (Term.int_eval (1)) rfl), trivial⟩ ⟨hq.1, hq.2.1, (hq.2.2.sift fun y hy => Or.inr (N y hy)).mono (by decide) (by decide)⟩⟩
theorem main_1_1 : Claimed_1_1 := comes_1 fun _ _ _ _ _ _ h hF => ⟨h.1, hF⟩
theorem main_1_2 : Claimed_1_2 := comes_1 fun _ _ _ _ _ _ h hF => ⟨h.2.1, hF⟩
end Jvm.Pilot.@@N@@
namespace Jvm.Pilot.@@N@@
open Jvm Jvm.ClassFile Sem Op Lib Jvm.Free Jvm.Stand Jvm.Pilot.@@N@@.Jvm.D
/-! MADE BY PROGRAM (witnessworld.py) out of the Statement's table words and the real class files: 9 classes; the members and pool entries that the words name. The judged class is class 1, her method 1. -/
namespace start1
open Jvm.ClassFile
def u (s : String) : CpInfo := .utf8 (stringToUtf16 s)
/-- a pool by its gaps: so many unusable entries, then the entry; so many at the end -/
def gap : Nat → List CpInfo → List CpInfo
  | 0, r => r
  | n + 1, r => .unusable :: gap n r
def poolList (es : List (Nat × CpInfo)) (last : Nat) : List CpInfo := es.foldr (fun e r => gap e.1 (e.2 :: r)) (gap last [])
def pool (es : List (Nat × CpInfo)) (last : Nat) : Array CpInfo := ⟨poolList es last⟩
def fileOf (pool : Array CpInfo) (this : Nat) (attrs : Array Attribute := #[]) (ms : Array MethodInfo := #[]) (fl : Nat := 33) (sup : Nat := 0) (ifs : Array Nat := #[]) (fds : Array FieldInfo := #[]) : ClassFile where
  minorVersion := 0
  majorVersion := 65
  constantPool := pool
  accessFlags := fl
  thisClass := this
  superClass := sup
  interfaces := ifs
  fields := fds
  methods := ms
  attributes := attrs
def plain (name : String) (sup : Option ClassId) : Class where
  name := name
  kind := .ordinary
  loader := none
  accessFlags := 33
  super := sup
  interfaces := #[]
  cf := none
  fields := #[]
  methods := #[]
  instanceTypes := #[]
  staticTypes := #[]
  resolved := #[]
  callSites := []
  init := .initialized
  statics := none
  mirror := none

def pool0 : Array CpInfo := pool [(5, u "<init>"), (0, u "()V"), (1, .class_ 10), (1, u "java/lang/Object")] 113

def k0m0 : Method := { name := "<init>", desc := "()V", sig := { parameters := [], returnType := none }, accessFlags := 1, code := none }
/-- java/lang/Object -/
def k0 : Class := { plain "java/lang/Object" none with
  accessFlags := 33
  interfaces := #[]
  cf := some (fileOf pool0 8 #[] #[{ accessFlags := 1, nameIndex := 5, descriptorIndex := 6, attributes := #[] }] 33 0 #[] #[])
  fields := #[]
  methods := #[k0m0]
  instanceTypes := #[]
  staticTypes := #[]
  resolved := Array.replicate 124 none
  statics := none }

def pool1 : Array CpInfo := pool [(2, .class_ 4), (1, u "java/lang/Object"), (0, u "<init>"), (0, u "()V"), (0, .interfaceMethodref 8 9), (0, .class_ 10), (0, .nameAndType 11 12), (0, u "com/example/revisit/revisit/policy/FetchValues"), (0, u "waitFloor"), (0, u "(DII)D"), (0, .long 2147483647), (1, .integer 2147483647), (0, .double 9214871658872686752), (1, .integer 1048575), (2, .double 4706261610602168320), (1, .class_ 24), (0, u "com/example/revisit/revisit/policy/FetchValuesWaitFloorPinLaw"), (2, u "law"), (0, u "(IIII)Z")] 3

def k1m0 : Method := { name := "<init>", desc := "()V", sig := { parameters := [], returnType := none }, accessFlags := 2, code := none }
def k1c1 : Code := { maxStack := 6, maxLocals := 20, code := code, exceptionTable := #[], attributes := #[] }
def k1m1 : Method := { name := "law", desc := "(IIII)Z", sig := { parameters := [.int, .int, .int, .int], returnType := some .boolean }, accessFlags := 9, code := some k1c1 }
/-- com/example/revisit/revisit/policy/FetchValuesWaitFloorPinLaw -/
def k1 : Class := { plain "com/example/revisit/revisit/policy/FetchValuesWaitFloorPinLaw" (some 0) with
  accessFlags := 49
  interfaces := #[]
  cf := some (fileOf pool1 23 #[] #[{ accessFlags := 2, nameIndex := 5, descriptorIndex := 6, attributes := #[] }, { accessFlags := 9, nameIndex := 27, descriptorIndex := 28, attributes := #[] }] 49 2 #[] #[])
  fields := #[]
  methods := #[k1m0, k1m1]
  instanceTypes := #[]
  staticTypes := #[]
  resolved := Array.replicate 32 none
  statics := none }

def pool2 : Array CpInfo := pool [(3, .class_ 4), (0, u "com/example/revisit/revisit/policy/FetchValues"), (8, .double 9218868437227405312), (1, .class_ 16), (0, u "java/lang/Object"), (0, u "STATE_NOT_KEPT"), (0, u "Ljava/lang/String;"), (20, u "waitFloor"), (0, u "(DII)D")] 3

def k2c0 : Code := { maxStack := 6, maxLocals := 4, code := prog_38_method_8_code, exceptionTable := #[], attributes := #[] }
def k2m0 : Method := { name := "waitFloor", desc := "(DII)D", sig := { parameters := [.double, .int, .int], returnType := some .double }, accessFlags := 9, code := some k2c0 }
/-- com/example/revisit/revisit/policy/FetchValues -/
def k2 : Class := { plain "com/example/revisit/revisit/policy/FetchValues" (some 0) with
  accessFlags := 1536
  interfaces := #[]
  cf := some (fileOf pool2 3 #[] #[{ accessFlags := 9, nameIndex := 39, descriptorIndex := 40, attributes := #[] }] 1536 15 #[] #[{ accessFlags := 25, nameIndex := 17, descriptorIndex := 18, attributes := #[] }])
  fields := #[{ name := "STATE_NOT_KEPT", type := (.object "java/lang/String"), accessFlags := 25, slot := 0, constantValue := 0 }]
  methods := #[k2m0]
  instanceTypes := #[]
  staticTypes := #[(.object "java/lang/String")]
  resolved := Array.replicate 44 none
  statics := none }

def pool3 : Array CpInfo := pool [(1, u "java/lang/Cloneable"), (0, .class_ 1), (0, u "java/lang/Object"), (0, .class_ 3)] 3

/-- java/lang/Cloneable -/
def k3 : Class := { plain "java/lang/Cloneable" (some 0) with
  accessFlags := 1537
  interfaces := #[]
  cf := some (fileOf pool3 2 #[] #[] 1537 4 #[] #[])
  fields := #[]
  methods := #[]
  instanceTypes := #[]
  staticTypes := #[]
  resolved := Array.replicate 8 none
  statics := none }

def pool4 : Array CpInfo := pool [(1, u "java/io/Serializable"), (0, .class_ 1), (0, u "java/lang/Object"), (0, .class_ 3)] 3

/-- java/io/Serializable -/
def k4 : Class := { plain "java/io/Serializable" (some 0) with
  accessFlags := 1537
  interfaces := #[]
  cf := some (fileOf pool4 2 #[] #[] 1537 4 #[] #[])
  fields := #[]
  methods := #[]
  instanceTypes := #[]
  staticTypes := #[]
  resolved := Array.replicate 8 none
  statics := none }

/-- the primitive byte -/
def k5 : Class := { plain "byte" none with kind := .primitive 'B', accessFlags := 0x411 }
/-- [B -/
def k6 : Class := { plain "[B" (some 0) with kind := .array 5 .byte, interfaces := #[3, 4], accessFlags := 1041 }

/-- the primitive int -/
def k7 : Class := { plain "int" none with kind := .primitive 'I', accessFlags := 0x411 }
/-- [I -/
def k8 : Class := { plain "[I" (some 0) with kind := .array 7 .int, interfaces := #[3, 4], accessFlags := 1041 }

def heap : Heap := #[]
def classes : Array Class := #[k0, k1, k2, k3, k4, k5, k6, k7, k8]
def interned : List (Array UInt16 × Addr) := []
def slotsUsed : Nat := 0
def theMethod : MethodId := ⟨1, 1⟩
def args0 : Array Value := #[.int 5, .int 5, .int 5, .int 5]
def aboutOver (below : List Frame) : State where
  vm := { classes := classes, interned := interned.toArray }
  heap := heap
  slotsUsed := slotsUsed
  threads := #[{ frames := .invoking theMethod args0 :: below }]
def below0 : List Frame := [.native { method := ⟨0, 0⟩, args := #[] }]
def about1 : State := aboutOver below0
def p0 : Program := .bare "" "" ""
def e0 : Env := launch0.env 0 0 0
theorem w_frames : about1.frames = Frame.invoking theMethod args0 :: below0 := rfl
set_option maxRecDepth 65536 in
theorem w_args : argsFit about1.vm theMethod args0 = true := by decide +kernel
set_option maxRecDepth 65536 in
theorem w_heap : heapFits about1 = true := by decide +kernel
set_option maxRecDepth 65536 in
theorem w_runnable : about1.curStatus? = some .runnable := by decide +kernel
set_option maxRecDepth 65536 in
theorem w_alone : about1.alone = true := by decide +kernel
set_option maxRecDepth 65536 in
theorem w_named : about1.methodNamed? x = some theMethod := by decide +kernel
set_option maxRecDepth 65536 in
theorem w_hears : about1.hears theMethod below0 = true := by decide +kernel
set_option maxRecDepth 65536 in
theorem w_ripe : about1.ripe theMethod args0 below0 = true := by decide +kernel
theorem w_running : about1.status = .running := rfl
set_option maxRecDepth 65536 in
theorem w_room : about1.hasRoom e0.platform room_1 = true :=
  launch0.hasRoom_least _ room_1 (by decide +kernel) (by decide +kernel) (by decide +kernel) (by decide +kernel) (by decide +kernel) (by decide +kernel)
theorem allAtoms_all (ts : List Jvm.Cond) (a : Array Jvm.Value) (st : Jvm.State) : (allAtoms ts).before a st = ts.all (fun c => c.before a st) := by
  induction ts with
  | nil => rfl
  | cons c t ih =>
    show (Jvm.Cond.and c (allAtoms t)).before a st = _
    rw [Jvm.Cond.before_and, ih, List.all_cons]
def words1 : List Jvm.Cond := Jvm.Cond.code x code maxLocals ret :: tables_1
/-- a 'code' word, met by the world's own term for the bytes: nothing is compared byte by byte -/
theorem code_word {y : MethodName} {bytes : ByteArray} {mx : Nat} {rt : Option FieldType} {a : Array Value} {s : State} {m : MethodId} {meth : Method} {c : Code} (h1 : s.methodNamed? y = some m) (h2 : s.vm.method? m = some meth) (h3 : meth.code = some c) (h4 : c.code = bytes)
    (h5 : (c.maxLocals == mx && c.exceptionTable.isEmpty && decide (c.maxStack ≤ mostOperands) && decide (meth.sig.returnType = rt) && !meth.locks && decide (parseMethodDescriptor y.desc = some meth.sig)) = true) : (Jvm.Cond.code y bytes mx rt).before a s = true := by
  simp only [Bool.and_eq_true, beq_iff_eq, Bool.not_eq_true', decide_eq_true_eq] at h5
  obtain ⟨⟨⟨⟨⟨g1, g2⟩, g3⟩, g4⟩, g5⟩, g6⟩ := h5
  simp [Cond.before, Cond.holds, Cond.value, h1, h2, h3, h4, g1, g2, g3, g4, g5, g6]
def isCode : Jvm.Cond → Bool
  | .code _ _ _ _ => true
  | _ => false
theorem all_split {L : List Jvm.Cond} {P : Jvm.Cond → Bool} (h1 : L.all (fun c => isCode c || P c) = true) (h2 : ∀ c ∈ L.filter isCode, P c = true) : L.all P = true := by
  refine List.all_eq_true.mpr fun c hc => ?_
  have h := List.all_eq_true.mp h1 c hc
  rcases Bool.eq_false_or_eq_true (isCode c) with hi | hi
  · exact h2 c (List.mem_filter.mpr ⟨hc, hi⟩)
  · simpa [hi] using h
set_option maxRecDepth 65536 in
theorem w_c0 : (Jvm.Cond.code x code maxLocals ret).before args0 about1 = true := code_word (m := ⟨1, 1⟩) (meth := k1m1) (c := k1c1) (by decide +kernel) rfl rfl rfl (by decide +kernel)
set_option maxRecDepth 65536 in
theorem w_c1 : (Jvm.Cond.code ({ cls := "com/example/revisit/revisit/policy/FetchValues", name := "waitFloor", desc := "(DII)D" } : Jvm.MethodName) prog_38_method_8_code (4 : Nat) (Option.some Jvm.ClassFile.FieldType.double)).before args0 about1 = true := code_word (m := ⟨2, 0⟩) (meth := k2m0) (c := k2c0) (by decide +kernel) rfl rfl rfl (by decide +kernel)
def codes1 : List Jvm.Cond := [Jvm.Cond.code x code maxLocals ret, Jvm.Cond.code ({ cls := "com/example/revisit/revisit/policy/FetchValues", name := "waitFloor", desc := "(DII)D" } : Jvm.MethodName) prog_38_method_8_code (4 : Nat) (Option.some Jvm.ClassFile.FieldType.double)]
set_option maxRecDepth 65536 in
theorem codes_eq : words1.filter isCode = codes1 := rfl
theorem w_codes : ∀ c ∈ words1.filter isCode, c.before args0 about1 = true := by
  rw [codes_eq]
  intro c hc
  simp only [codes1, List.mem_cons, List.not_mem_nil, or_false] at hc
  rcases hc with rfl | rfl
  · exact w_c0
  · exact w_c1
set_option maxRecDepth 65536 in
theorem w_t1 : words1.all (fun c => isCode c || c.before args0 about1) = true := by decide +kernel
theorem w_tables : (allAtoms (Jvm.Cond.code x code maxLocals ret :: tables_1)).before args0 about1 = true := by
  rw [allAtoms_all]
  show words1.all (fun c => c.before args0 about1) = true
  refine all_split ?_ w_codes
  rw [w_t1]
set_option maxRecDepth 65536 in
theorem w_case : (Jvm.Cond.and given_1 narrow_1).before args0 about1 = true := by decide +kernel
theorem w_applies : (headSpec (Jvm.Cond.code x code maxLocals ret :: tables_1) room_1).applies x e0.platform about1 = true :=
  (Spec.applies_iff w_frames).mpr ⟨w_running, w_runnable, w_alone, w_named, w_hears, w_ripe, w_room, w_tables⟩
theorem atStart : AtStart classFile x code maxLocals ret World_1 tables_1 room_1 Calls_1 rest_1 Pre_1 launch0 p0 e0 about1 theMethod args0 below0 :=
  ⟨lists_1, trivial, launch0.admits_env _ _ _, launch0.least_env, fairChoices_fair.cas, fairChoices_fair.clock, w_frames, w_args, w_heap, w_applies, trivial, trivial, w_case⟩
end start1
theorem witness_1 : WitnessClaimed_1 := ⟨start1.p0, start1.e0, start1.about1, start1.theMethod, start1.args0, start1.below0, start1.atStart⟩
end Jvm.Pilot.@@N@@
