import JvmDerived
import JvmDerived.Pilot.@@N@@Statement
import JvmDerived.Pilot.@@N@@Code
set_option linter.unusedVariables false
set_option linter.unusedSimpArgs false
set_option maxRecDepth 65536
set_option maxHeartbeats 4000000
namespace Jvm.Pilot.@@N@@
open Jvm Jvm.ClassFile Sem Op Lib Jvm.Free Jvm.Stand Jvm.LawKit Jvm.RoadKit Bundle Jvm.Pilot.@@N@@.Jvm.D
section Own
variable {p : Program} {l : Launch} {e : Env} {R : Room} {s : State} {m : MethodId} {args : Array Value} {below : List Frame} {meth : Method} {c : Code} {T : State} {locs : List Loc} {cells slots : Nat} {K J : Nat} {Q : Option Value → Heap → List Loc → Prop} {Z : State} {a0 : Array Value} {h : Heap}
/-- from U the run comes to its end, and what it leaves is Q's -/
def Ends (p : Program) (e : Env) (below : List Frame) (s : State) (K J : Nat) (Q : Option Value → Heap → List Loc → Prop) (U : State) : Prop :=
  ∃ s₂ o, Steps p.tables e below U s₂ ∧ s₂.status = .running ∧ Ended s₂ below o ∧ ∃ v L, o = .returned v ∧ Q v s₂.heap L ∧ FrameEnd s o s₂ L K J
theorem Ends.via {A B : State} (h : ∀ t, Steps p.tables e below A t → Steps p.tables e below B t) (k : Ends p e below s K J Q A) : Ends p e below s K J Q B := by
  obtain ⟨s2, o, h1, h2⟩ := k
  exact ⟨s2, o, h _ h1, h2⟩
theorem Ends.tr {A B : State} (h : Steps p.tables e below B A) (k : Ends p e below s K J Q A) : Ends p e below s K J Q B := by
  obtain ⟨s2, o, h1, h2⟩ := k
  exact ⟨s2, o, h.trans h1, h2⟩
theorem Ends.cast {g g' : JFrame} (q : g = g') (k : Ends p e below s K J Q (T.setTop g')) : Ends p e below s K J Q (T.setTop g) := q ▸ k
theorem own_iand (X : Stand p l e R s m args below meth c T locs cells slots) (hx : p.tables.exec = Jvm.exec) {pc n : Nat} {Ls : Array Slot} {st : List Value} {x y : Int32} (hd : decode c.code pc = .ok (.iand, 1))  (hn : pc + 1 = n) (k : Ends p e below s K J Q (T.setTop (mkF m n Ls (.int (x &&& y) :: st)))) : Ends p e below s K J Q (T.setTop (mkF m pc Ls (.int y :: .int x :: st))) := by
  subst hn
  exact Ends.via (fun t h => XS.iand X.here hx rfl hd rfl h) k
theorem own_irem (X : Stand p l e R s m args below meth c T locs cells slots) (hx : p.tables.exec = Jvm.exec) {pc n : Nat} {Ls : Array Slot} {st : List Value} {x y : Int32} (hd : decode c.code pc = .ok (.irem, 1)) (hy : y ≠ 0) (hn : pc + 1 = n) (k : Ends p e below s K J Q (T.setTop (mkF m n Ls (.int (x % y) :: st)))) : Ends p e below s K J Q (T.setTop (mkF m pc Ls (.int y :: .int x :: st))) := by
  subst hn
  exact Ends.via (fun t h => iremM X hx rfl hd rfl hy h) k
theorem own_iconst (X : Stand p l e R s m args below meth c T locs cells slots) (hx : p.tables.exec = Jvm.exec) {pc n : Nat} {Ls : Array Slot} {st : List Value} {i : Int} (v : Int32) (hd : decode c.code pc = .ok (.iconst i, 1)) (hv : Int32.ofInt i = v) (hn : pc + 1 = n) (k : Ends p e below s K J Q (T.setTop (mkF m n Ls (.int v :: st)))) : Ends p e below s K J Q (T.setTop (mkF m pc Ls st)) := by
  subst hn hv
  exact Ends.via (fun t h => XS.iconst X.here hx rfl hd h) k
theorem own_bipush (X : Stand p l e R s m args below meth c T locs cells slots) (hx : p.tables.exec = Jvm.exec) {pc n : Nat} {Ls : Array Slot} {st : List Value} {i : Int} (v : Int32) (hd : decode c.code pc = .ok (.bipush i, 2)) (hv : (Int8.ofInt i).toInt32 = v) (hn : pc + 2 = n) (k : Ends p e below s K J Q (T.setTop (mkF m n Ls (.int v :: st)))) : Ends p e below s K J Q (T.setTop (mkF m pc Ls st)) := by
  subst hn hv
  exact Ends.via (fun t h => XS.bipush X.here hx rfl hd h) k
theorem own_iload (X : Stand p l e R s m args below meth c T locs cells slots) (hx : p.tables.exec = Jvm.exec) {pc n : Nat} {Ls : Array Slot} {st : List Value} {i : Nat} {v : Int32} (hd : decode c.code pc = .ok (.iload i, 2)) (hl : Ls[i]? = some (.val (.int v))) (hn : pc + 2 = n) (k : Ends p e below s K J Q (T.setTop (mkF m n Ls (.int v :: st)))) : Ends p e below s K J Q (T.setTop (mkF m pc Ls (st))) := by
  subst hn
  exact Ends.via (fun t h => XS.iload X.here hx rfl hd hl h) k
theorem own_iloadN (X : Stand p l e R s m args below meth c T locs cells slots) (hx : p.tables.exec = Jvm.exec) {pc n : Nat} {Ls : Array Slot} {st : List Value} {i : Fin 4} {v : Int32} (hd : decode c.code pc = .ok (.iload_n i, 1)) (hl : Ls[i.val]? = some (.val (.int v))) (hn : pc + 1 = n) (k : Ends p e below s K J Q (T.setTop (mkF m n Ls (.int v :: st)))) : Ends p e below s K J Q (T.setTop (mkF m pc Ls (st))) := by
  subst hn
  exact Ends.via (fun t h => XS.iloadN X.here hx rfl hd hl h) k
theorem own_istore (X : Stand p l e R s m args below meth c T locs cells slots) (hx : p.tables.exec = Jvm.exec) {pc n : Nat} {Ls : Array Slot} {st : List Value} {i : Nat} {v : Int32} {l' : Array Slot} (hd : decode c.code pc = .ok (.istore i, 2)) (hl : storeLocals Ls i (.int v) = some l') (hn : pc + 2 = n) (k : Ends p e below s K J Q (T.setTop (mkF m n l' (st)))) : Ends p e below s K J Q (T.setTop (mkF m pc Ls (.int v :: st))) := by
  subst hn
  exact Ends.via (fun t h => XS.istore X.here hx rfl hd rfl hl h) k
theorem own_istoreN (X : Stand p l e R s m args below meth c T locs cells slots) (hx : p.tables.exec = Jvm.exec) {pc n : Nat} {Ls : Array Slot} {st : List Value} {i : Fin 4} {v : Int32} {l' : Array Slot} (hd : decode c.code pc = .ok (.istore_n i, 1)) (hl : storeLocals Ls i.val (.int v) = some l') (hn : pc + 1 = n) (k : Ends p e below s K J Q (T.setTop (mkF m n l' (st)))) : Ends p e below s K J Q (T.setTop (mkF m pc Ls (.int v :: st))) := by
  subst hn
  exact Ends.via (fun t h => XS.istoreN X.here hx rfl hd rfl hl h) k
theorem own_aloadN (X : Stand p l e R s m args below meth c T locs cells slots) (hx : p.tables.exec = Jvm.exec) {pc n : Nat} {Ls : Array Slot} {st : List Value} {i : Fin 4} {v : Value} (hd : decode c.code pc = .ok (.aload_n i, 1)) (hl : Ls[i.val]? = some (.val v)) (hv : v.isRef = true) (hn : pc + 1 = n) (k : Ends p e below s K J Q (T.setTop (mkF m n Ls (v :: st)))) : Ends p e below s K J Q (T.setTop (mkF m pc Ls (st))) := by
  subst hn
  exact Ends.via (fun t h => XS.aloadN X.here hx rfl hd hl hv h) k
theorem own_astoreN (X : Stand p l e R s m args below meth c T locs cells slots) (hx : p.tables.exec = Jvm.exec) {pc n : Nat} {Ls : Array Slot} {st : List Value} {i : Fin 4} {v : Value} {l' : Array Slot} (hd : decode c.code pc = .ok (.astore_n i, 1)) (hv : v.isRef = true) (hl : storeLocals Ls i.val v = some l') (hn : pc + 1 = n) (k : Ends p e below s K J Q (T.setTop (mkF m n l' (st)))) : Ends p e below s K J Q (T.setTop (mkF m pc Ls (v :: st))) := by
  subst hn
  exact Ends.via (fun t h => XS.astoreN X.here hx rfl hd rfl hv hl h) k
theorem own_goto (X : Stand p l e R s m args below meth c T locs cells slots) (hx : p.tables.exec = Jvm.exec) {pc n : Nat} {Ls : Array Slot} {st : List Value} {o : Int} (hd : decode c.code pc = .ok (.goto o, 3)) (ho : 0 ≤ (pc : Int) + o) (hp : ((pc : Int) + o).toNat = n) (k : Ends p e below s K J Q (T.setTop (mkF m n Ls st))) : Ends p e below s K J Q (T.setTop (mkF m pc Ls st)) :=
  Ends.via (fun t h => XS.goto X.here hx rfl (pc0 := pc) rfl hd ho hp h) k
theorem own_ifYes (X : Stand p l e R s m args below meth c T locs cells slots) (hx : p.tables.exec = Jvm.exec) {pc n : Nat} {Ls : Array Slot} {st : List Value} {o : Int} {cd : ClassFile.Cond} {x : Int32} (hd : decode c.code pc = .ok (.ifCond cd o, 3)) (hc : ifCond.holds cd x = true) (ho : 0 ≤ (pc : Int) + o) (hp : ((pc : Int) + o).toNat = n) (k : Ends p e below s K J Q (T.setTop (mkF m n Ls st))) : Ends p e below s K J Q (T.setTop (mkF m pc Ls (.int x :: st))) :=
  Ends.via (fun t h => XS.ifYes X.here hx rfl (pc0 := pc) rfl hd rfl hc ho hp h) k
theorem own_ifNo (X : Stand p l e R s m args below meth c T locs cells slots) (hx : p.tables.exec = Jvm.exec) {pc n : Nat} {Ls : Array Slot} {st : List Value} {o : Int} {cd : ClassFile.Cond} {x : Int32} (hd : decode c.code pc = .ok (.ifCond cd o, 3)) (hc : ifCond.holds cd x = false) (hn : pc + 3 = n) (k : Ends p e below s K J Q (T.setTop (mkF m n Ls st))) : Ends p e below s K J Q (T.setTop (mkF m pc Ls (.int x :: st))) := by
  subst hn
  exact Ends.via (fun t h => XS.ifNo X.here hx rfl hd rfl hc h) k
theorem own_icmpYes (X : Stand p l e R s m args below meth c T locs cells slots) (hx : p.tables.exec = Jvm.exec) {pc n : Nat} {Ls : Array Slot} {st : List Value} {o : Int} {cd : ClassFile.Cond} {x y : Int32} (hd : decode c.code pc = .ok (.if_icmp cd o, 3)) (hc : if_icmp.holds cd x y = true) (ho : 0 ≤ (pc : Int) + o) (hp : ((pc : Int) + o).toNat = n) (k : Ends p e below s K J Q (T.setTop (mkF m n Ls st))) : Ends p e below s K J Q (T.setTop (mkF m pc Ls (.int y :: .int x :: st))) :=
  Ends.via (fun t h => XS.icmpYes X.here hx rfl (pc0 := pc) rfl hd rfl hc ho hp h) k
theorem own_icmpNo (X : Stand p l e R s m args below meth c T locs cells slots) (hx : p.tables.exec = Jvm.exec) {pc n : Nat} {Ls : Array Slot} {st : List Value} {o : Int} {cd : ClassFile.Cond} {x y : Int32} (hd : decode c.code pc = .ok (.if_icmp cd o, 3)) (hc : if_icmp.holds cd x y = false) (hn : pc + 3 = n) (k : Ends p e below s K J Q (T.setTop (mkF m n Ls st))) : Ends p e below s K J Q (T.setTop (mkF m pc Ls (.int y :: .int x :: st))) := by
  subst hn
  exact Ends.via (fun t h => XS.icmpNo X.here hx rfl hd rfl hc h) k
theorem own_acmpYes (X : Stand p l e R s m args below meth c T locs cells slots) (hx : p.tables.exec = Jvm.exec) {pc n : Nat} {Ls : Array Slot} {st : List Value} {o : Int} {cd : ClassFile.ACond} {x y : Value} (hd : decode c.code pc = .ok (.if_acmp cd o, 3)) (h1 : x.isRef = true) (h2 : y.isRef = true) (hc : Jvm.Free.XT.acmp cd x y = true) (ho : 0 ≤ (pc : Int) + o) (hp : ((pc : Int) + o).toNat = n) (k : Ends p e below s K J Q (T.setTop (mkF m n Ls st))) : Ends p e below s K J Q (T.setTop (mkF m pc Ls (y :: x :: st))) :=
  Ends.via (fun t h => Jvm.Free.XT.acmpYes X.here hx rfl (pc0 := pc) rfl hd rfl h1 h2 hc ho hp h) k
theorem own_acmpNo (X : Stand p l e R s m args below meth c T locs cells slots) (hx : p.tables.exec = Jvm.exec) {pc n : Nat} {Ls : Array Slot} {st : List Value} {o : Int} {cd : ClassFile.ACond} {x y : Value} (hd : decode c.code pc = .ok (.if_acmp cd o, 3)) (h1 : x.isRef = true) (h2 : y.isRef = true) (hc : Jvm.Free.XT.acmp cd x y = false) (hn : pc + 3 = n) (k : Ends p e below s K J Q (T.setTop (mkF m n Ls st))) : Ends p e below s K J Q (T.setTop (mkF m pc Ls (y :: x :: st))) := by
  subst hn
  exact Ends.via (fun t h => Jvm.Free.XT.acmpNo X.here hx rfl hd rfl h1 h2 hc h) k
theorem own_ldc (X : Stand p l e R s m args below meth c T locs cells slots) (hx : p.tables.exec = Jvm.exec) (hZ : Z.Warmed39 s.vm) {own : String} (hown : s.vm.findClass own = some m.cls) {pc n : Nat} {Ls : Array Slot} {st : List Value} {i : Nat} {v : Int32} (w : (Cond.constant own i v).before a0 Z = true) (hd : decode c.code pc = .ok (.ldc i, 2)) (hn : pc + 2 = n) (k : Ends p e below s K J Q (T.setTop (mkF m n Ls (.int v :: st)))) : Ends p e below s K J Q (T.setTop (mkF m pc Ls st)) := by
  subst hn
  exact Ends.via (fun t h => X.ldcI hx hown (mvT hZ w) rfl hd h) k
theorem own_retN (X : Stand p l e R s m args below meth c T locs cells slots) (hx : p.tables.exec = Jvm.exec) (lk : meth.locks = false) {pc : Nat} {Ls : Array Slot} {rest : List Value} {z : Int32} {t : FieldType}  (hret : meth.sig.returnType = some t) (ht : t = .boolean ∨ t = .byte ∨ t = .char ∨ t = .short) (hd : decode c.code pc = .ok (.ireturn, 1)) (hK : cells ≤ K) (hJ : slots ≤ J) (hq : Q (some (.int (nar t z))) T.heap locs) : Ends p e below s K J Q (T.setTop (mkF m pc Ls (.int z :: rest))) := by
  obtain ⟨fs, hr, hrun, hended, hW, hsame⟩ := X.leave (v := (some (.int (nar t z)))) (fun h => by rw [hret] at h; cases h) lk
  exact ⟨_, _, Jvm.RoadKit.retN X hx hret ht hd hr, hrun, hended, _, _, rfl, hq, ⟨_, rfl⟩, hW, hsame.mono hK hJ⟩
theorem own_retA (X : Stand p l e R s m args below meth c T locs cells slots) (hx : p.tables.exec = Jvm.exec) (lk : meth.locks = false) {pc : Nat} {Ls : Array Slot} {rest : List Value} {w : Value} {t : FieldType}  (hret : meth.sig.returnType = some t) (ht : t.isReference = true) (hw : w.isRef = true) (hd : decode c.code pc = .ok (.areturn, 1)) (hK : cells ≤ K) (hJ : slots ≤ J) (hq : Q (some w) T.heap locs) : Ends p e below s K J Q (T.setTop (mkF m pc Ls (w :: rest))) := by
  obtain ⟨fs, hr, hrun, hended, hW, hsame⟩ := X.leave (v := (some w)) (fun h => by rw [hret] at h; cases h) lk
  exact ⟨_, _, retOut X hx (w := w) (t := t) hret (by rcases ref_cases hw with rfl | ⟨_, rfl⟩ <;> cases t <;> rfl) (Or.inr (Or.inr (Or.inr (Or.inr ⟨rfl, ht, hw⟩)))) hd hr, hrun, hended, _, _, rfl, hq, ⟨_, rfl⟩, hW, hsame.mono hK hJ⟩
theorem own_callS (X : Stand p l e R s m args below meth c T locs cells slots) (hx : p.tables.exec = Jvm.exec) (hZ : Z.Warmed39 s.vm) {own : String} {index : Nat} {y : MethodName} {bytes : ByteArray} {maxL : Nat} {ret : Option FieldType} (hown : s.vm.findClass own = some m.cls) (wl : (Cond.methodLink own index y).before a0 Z = true) (ws : (Cond.static y).before a0 Z = true) (wz : (Cond.initialized y.cls).before a0 Z = true) (wc : (Cond.code y bytes maxL ret).before a0 Z = true) (hy : y.cls ≠ "java/lang/invoke/MethodHandle" ∧ y.cls ≠ "java/lang/invoke/VarHandle") (eT : T.heap = h)
    {rm : Room} {Qc : Option Value → Heap → List Loc → Prop} {as' : Array Value} (hM : MetFree l y (head1 [Cond.code y bytes maxL ret] rm) (fun a U => a = as' ∧ Z.Warmed39 U.vm ∧ U.heap = h) (fun _ _ _ _ _ => True) (fun _ U o U' => ∃ v L, o = .returned v ∧ Qc v U'.heap L ∧ FrameEnd U o U' L rm.cells rm.slots)) {W : Nat} (hf : rm.frames + 1 ≤ R.frames) (hl : W + (maxL + 11) + rm.locals ≤ R.locals) (hc : cells + rm.cells ≤ R.cells) (hsl : slots + rm.slots ≤ R.slots) {pc n : Nat} {Ls : Array Slot} (hsize : Ls.size = c.maxLocals) {argsL rest : List Value} {ps : List FieldType} {r : Option FieldType} (hpd : parseMethodDescriptor y.desc = some ⟨ps, r⟩) (hlen : argsL.length = ps.length) (has : argsL.toArray = as') (hW : 0 + (rest.map fun v => v.category).sum ≤ W) (hd : decode c.code pc = .ok (.invokestatic index, 3)) (hn : pc + 3 = n) {st : List Value} (hst : st = argsL.reverse ++ rest)
    (k : ∀ v T' h' L', Stand p l e R s m args below meth c T' (locs ++ L') (cells + rm.cells) (slots + rm.slots) → T'.heap = h' → Qc v h' L' → Ends p e below s K J Q (T'.setTop (mkF m n Ls (v.toList ++ rest)))) : Ends p e below s K J Q (T.setTop (mkF m pc Ls st)) := by
  subst hn
  obtain ⟨v, _, ⟨T18, L18, k18, n18⟩, -, X18, ⟨Lc18, hQ18, l18, y18, z18⟩, st18⟩ := Jvm.LawKit.callS X hx hown (mvT hZ wl) (mvT hZ ws) (mvT hZ wz) (mvT hZ wc) hy (backOf (W := W) hM hZ wc wz hf hl) (g := mkF m pc Ls st) rfl hsize (argsL := argsL) (rest := rest) (lenOf hpd hlen) hst hW hd (fun _ _ => ⟨has, eT, hc, hsl⟩)
  dsimp only [Pt.U, Pt.locs, Pt.cells, Pt.slots] at X18 l18 y18 z18 st18 hQ18
  subst l18 y18 z18
  exact Ends.via (fun t h => st18 t h) (k v T18 _ Lc18 X18 rfl hQ18)
theorem own_callV (X : Stand p l e R s m args below meth c T locs cells slots) (hx : p.tables.exec = Jvm.exec) (hZ : Z.Warmed39 s.vm) {own C : String} {index : Nat} {y : MethodName} {bytes : ByteArray} {maxL : Nat} {ret : Option FieldType} (hown : s.vm.findClass own = some m.cls) (wl : (Cond.methodLink own index y).before a0 Z = true) (wd : (Cond.declares y).before a0 Z = true) (wsel : (Cond.selects C y y).before a0 Z = true) (wi : (Cond.instanceMethod y).before a0 Z = true) (wz : (Cond.initialized y.cls).before a0 Z = true) (wc : (Cond.code y bytes maxL ret).before a0 Z = true) (hy : y.cls ≠ "java/lang/invoke/MethodHandle" ∧ y.cls ≠ "java/lang/invoke/VarHandle") (eT : T.heap = h) {a : Addr} (EX : Exa Z h a C)
    {rm : Room} {Qc : Option Value → Heap → List Loc → Prop} {as' : Array Value} (hM : MetFree l y (head1 [Cond.code y bytes maxL ret] rm) (fun a U => a = as' ∧ Z.Warmed39 U.vm ∧ U.heap = h) (fun _ _ _ _ _ => True) (fun _ U o U' => ∃ v L, o = .returned v ∧ Qc v U'.heap L ∧ FrameEnd U o U' L rm.cells rm.slots)) {W : Nat} (hf : rm.frames + 1 ≤ R.frames) (hl : W + (maxL + 11) + rm.locals ≤ R.locals) (hc : cells + rm.cells ≤ R.cells) (hsl : slots + rm.slots ≤ R.slots) {pc n : Nat} {Ls : Array Slot} (hsize : Ls.size = c.maxLocals) {argsL rest : List Value} {ps : List FieldType} {r : Option FieldType} (hpd : parseMethodDescriptor y.desc = some ⟨ps, r⟩) (hlen : argsL.length = ps.length) (has : (.ref a :: argsL).toArray = as') (hW : 0 + (rest.map fun v => v.category).sum ≤ W) (hd : decode c.code pc = .ok (.invokevirtual index, 3)) (hn : pc + 3 = n) {st : List Value} (hst : st = argsL.reverse ++ .ref a :: rest)
    (k : ∀ v T' h' L', Stand p l e R s m args below meth c T' (locs ++ L') (cells + rm.cells) (slots + rm.slots) → T'.heap = h' → Qc v h' L' → Ends p e below s K J Q (T'.setTop (mkF m n Ls (v.toList ++ rest)))) : Ends p e below s K J Q (T.setTop (mkF m pc Ls st)) := by
  subst hn
  obtain ⟨cq, kq, qa, qb, qc⟩ := isOf hZ eT EX
  obtain ⟨v, _, ⟨T18, L18, k18, n18⟩, -, X18, ⟨Lc18, hQ18, l18, y18, z18⟩, st18⟩ := X.virtualBack hx hown (mvT hZ wl) (mvT hZ wd) (notFace_of_selects (args := #[]) (mvT hZ wsel)) (mvT hZ wsel) (mvT hZ wi) hy (backOf (W := W) hM hZ wc wz hf hl) qa qc (g := mkF m pc Ls st) rfl hsize (Steps.refl _) (argsL := argsL) (rest := rest) (lenOf hpd hlen) hst hW hd (fun _ _ => ⟨has, eT, hc, hsl⟩)
  dsimp only [Pt.U, Pt.locs, Pt.cells, Pt.slots] at X18 l18 y18 z18 st18 hQ18
  subst l18 y18 z18
  exact Ends.tr st18 (k v T18 _ Lc18 X18 rfl hQ18)
theorem own_getF (X : Stand p l e R s m args below meth c T locs cells slots) (hx : p.tables.exec = Jvm.exec) (hZ : Z.Warmed39 s.vm) {own C f d : String} {index : Nat} (hown : s.vm.findClass own = some m.cls) (w : (Cond.fieldLink own index C f d).before a0 Z = true) (eT : T.heap = h) {a : Addr} {v : Value} (F : Fld Z h a C f d v) {pc n : Nat} {Ls : Array Slot} {st : List Value} (hd : decode c.code pc = .ok (.getfield index, 3)) (hn : pc + 3 = n)
    (k : ∀ T', Stand p l e R s m args below meth c T' locs cells slots → T'.heap = h → Ends p e below s K J Q (T'.setTop (mkF m n Ls (v :: st)))) : Ends p e below s K J Q (T.setTop (mkF m pc Ls (.ref a :: st))) := by
  subst hn
  obtain ⟨T', X', e', st'⟩ := Jvm.RoadKit.getF X hx hZ hown (host := "") (Or.inl w) Via.refl eT F (g := mkF m pc Ls (.ref a :: st)) rfl rfl hd
  exact Ends.via (fun t h => st' t h) (k T' X' e')
theorem own_getS (X : Stand p l e R s m args below meth c T locs cells slots) (hx : p.tables.exec = Jvm.exec) (hZ : Z.Warmed39 s.vm) {own C f d : String} {index : Nat} (hown : s.vm.findClass own = some m.cls) (w : (Cond.fieldLink own index C f d).before a0 Z = true) (eT : T.heap = h) {v : Value} (F : Sta Z h C f d v) {pc n : Nat} {Ls : Array Slot} {st : List Value} (hd : decode c.code pc = .ok (.getstatic index, 3)) (hn : pc + 3 = n)
    (k : ∀ T', Stand p l e R s m args below meth c T' locs cells slots → T'.heap = h → Ends p e below s K J Q (T'.setTop (mkF m n Ls (v :: st)))) : Ends p e below s K J Q (T.setTop (mkF m pc Ls st)) := by
  subst hn
  obtain ⟨T', X', e', st'⟩ := getS2 X hx hZ hown (host := "") (Or.inl w) Via.refl eT F (g := mkF m pc Ls st) rfl hd
  exact Ends.via (fun t h => st' t h) (k T' X' e')
end Own
theorem own_fld {s : State} {args : Array Value} {t : Term} {a : Addr} {C n d : String} {k : Int32} (ev : t.eval args s none [] s = some (.ref a)) (h : (Cond.eq (Term.field t C n d) (Term.int k)).value args s none s [] = some true) : Fld s s.heap a C n d (.int k) := by
  obtain ⟨x, y, h1, h2, -, h3⟩ := cmp_v (Or.inl h)
  have e2 : y = .int k := (Option.some.inj h2).symm
  subst e2
  obtain ⟨z, rfl⟩ := h3
  have q := gotT (Cond.eq_ints h1 (Term.int_eval k)) h
  subst q
  rw [fld_at ev] at h1
  exact Fld.start h1
theorem own_ords {Z : State} {h : Heap} {a b : Addr} {C n d : String} {i j : Int32} (F : Fld Z h a C n d (.int i)) (G : Fld Z h b C n d (.int j)) (q : i ≠ j) : a ≠ b := Fld.ne F G fun z => q (Value.int.inj z)
theorem own_inj {Z : State} {h : Heap} {en : Nat → Addr} {C n d : String} (N : Nat) (hN : N ≤ 1000) (ORD : ∀ i, i < N → Fld Z h (en i) C n d (.int i.toInt32)) : ∀ i j, i < N → j < N → en i = en j → i = j := fun i j hi hj q => by
  apply Classical.byContradiction
  intro hne
  refine Fld.ne (ORD i hi) (ORD j hj) (fun z => hne ?_) q
  have z' := congrArg Int32.toInt (Value.int.inj z)
  rw [len_toInt (by omega), len_toInt (by omega)] at z'
  omega
theorem own_rem (x : Int32) : 0 ≤ ((x &&& (2147483647 : Int32)) % (14 : Int32)).toInt ∧ ((x &&& (2147483647 : Int32)) % (14 : Int32)).toInt < 14 := by
  have h := (c_and x 2147483647 (by decide)).1
  have := (c_iremV (x &&& 2147483647) 14).1 h (by decide)
  exact ⟨this.1, this.2.1⟩
theorem d1_0 : decode method_2_code 0 = .ok (.iload_n 0, 1) := by decide +kernel
theorem d1_1 : decode method_2_code 1 = .ok (.ifCond .ne 7, 3) := by decide +kernel
theorem d1_4 : decode method_2_code 4 = .ok (.getstatic 7, 3) := by decide +kernel
theorem d1_7 : decode method_2_code 7 = .ok (.areturn, 1) := by decide +kernel
theorem d1_8 : decode method_2_code 8 = .ok (.iload_n 0, 1) := by decide +kernel
theorem d1_9 : decode method_2_code 9 = .ok (.iconst 1, 1) := by decide +kernel
theorem d1_10 : decode method_2_code 10 = .ok (.if_icmp .ne 7, 3) := by decide +kernel
theorem d1_13 : decode method_2_code 13 = .ok (.getstatic 13, 3) := by decide +kernel
theorem d1_16 : decode method_2_code 16 = .ok (.areturn, 1) := by decide +kernel
theorem d1_17 : decode method_2_code 17 = .ok (.iload_n 0, 1) := by decide +kernel
theorem d1_18 : decode method_2_code 18 = .ok (.iconst 2, 1) := by decide +kernel
theorem d1_19 : decode method_2_code 19 = .ok (.if_icmp .ne 7, 3) := by decide +kernel
theorem d1_22 : decode method_2_code 22 = .ok (.getstatic 16, 3) := by decide +kernel
theorem d1_25 : decode method_2_code 25 = .ok (.areturn, 1) := by decide +kernel
theorem d1_26 : decode method_2_code 26 = .ok (.iload_n 0, 1) := by decide +kernel
theorem d1_27 : decode method_2_code 27 = .ok (.iconst 3, 1) := by decide +kernel
theorem d1_28 : decode method_2_code 28 = .ok (.if_icmp .ne 7, 3) := by decide +kernel
theorem d1_31 : decode method_2_code 31 = .ok (.getstatic 19, 3) := by decide +kernel
theorem d1_34 : decode method_2_code 34 = .ok (.areturn, 1) := by decide +kernel
theorem d1_35 : decode method_2_code 35 = .ok (.iload_n 0, 1) := by decide +kernel
theorem d1_36 : decode method_2_code 36 = .ok (.iconst 4, 1) := by decide +kernel
theorem d1_37 : decode method_2_code 37 = .ok (.if_icmp .ne 7, 3) := by decide +kernel
theorem d1_40 : decode method_2_code 40 = .ok (.getstatic 22, 3) := by decide +kernel
theorem d1_43 : decode method_2_code 43 = .ok (.areturn, 1) := by decide +kernel
theorem d1_44 : decode method_2_code 44 = .ok (.iload_n 0, 1) := by decide +kernel
theorem d1_45 : decode method_2_code 45 = .ok (.iconst 5, 1) := by decide +kernel
theorem d1_46 : decode method_2_code 46 = .ok (.if_icmp .ne 7, 3) := by decide +kernel
theorem d1_49 : decode method_2_code 49 = .ok (.getstatic 25, 3) := by decide +kernel
theorem d1_52 : decode method_2_code 52 = .ok (.areturn, 1) := by decide +kernel
theorem d1_53 : decode method_2_code 53 = .ok (.iload_n 0, 1) := by decide +kernel
theorem d1_54 : decode method_2_code 54 = .ok (.bipush 6, 2) := by decide +kernel
theorem d1_56 : decode method_2_code 56 = .ok (.if_icmp .ne 7, 3) := by decide +kernel
theorem d1_59 : decode method_2_code 59 = .ok (.getstatic 28, 3) := by decide +kernel
theorem d1_62 : decode method_2_code 62 = .ok (.areturn, 1) := by decide +kernel
theorem d1_63 : decode method_2_code 63 = .ok (.iload_n 0, 1) := by decide +kernel
theorem d1_64 : decode method_2_code 64 = .ok (.bipush 7, 2) := by decide +kernel
theorem d1_66 : decode method_2_code 66 = .ok (.if_icmp .ne 7, 3) := by decide +kernel
theorem d1_69 : decode method_2_code 69 = .ok (.getstatic 31, 3) := by decide +kernel
theorem d1_72 : decode method_2_code 72 = .ok (.areturn, 1) := by decide +kernel
theorem d1_73 : decode method_2_code 73 = .ok (.iload_n 0, 1) := by decide +kernel
theorem d1_74 : decode method_2_code 74 = .ok (.bipush 8, 2) := by decide +kernel
theorem d1_76 : decode method_2_code 76 = .ok (.if_icmp .ne 7, 3) := by decide +kernel
theorem d1_79 : decode method_2_code 79 = .ok (.getstatic 34, 3) := by decide +kernel
theorem d1_82 : decode method_2_code 82 = .ok (.areturn, 1) := by decide +kernel
theorem d1_83 : decode method_2_code 83 = .ok (.iload_n 0, 1) := by decide +kernel
theorem d1_84 : decode method_2_code 84 = .ok (.bipush 9, 2) := by decide +kernel
theorem d1_86 : decode method_2_code 86 = .ok (.if_icmp .ne 7, 3) := by decide +kernel
theorem d1_89 : decode method_2_code 89 = .ok (.getstatic 37, 3) := by decide +kernel
theorem d1_92 : decode method_2_code 92 = .ok (.areturn, 1) := by decide +kernel
theorem d1_93 : decode method_2_code 93 = .ok (.iload_n 0, 1) := by decide +kernel
theorem d1_94 : decode method_2_code 94 = .ok (.bipush 10, 2) := by decide +kernel
theorem d1_96 : decode method_2_code 96 = .ok (.if_icmp .ne 7, 3) := by decide +kernel
theorem d1_99 : decode method_2_code 99 = .ok (.getstatic 40, 3) := by decide +kernel
theorem d1_102 : decode method_2_code 102 = .ok (.areturn, 1) := by decide +kernel
theorem d1_103 : decode method_2_code 103 = .ok (.iload_n 0, 1) := by decide +kernel
theorem d1_104 : decode method_2_code 104 = .ok (.bipush 11, 2) := by decide +kernel
theorem d1_106 : decode method_2_code 106 = .ok (.if_icmp .ne 7, 3) := by decide +kernel
theorem d1_109 : decode method_2_code 109 = .ok (.getstatic 43, 3) := by decide +kernel
theorem d1_112 : decode method_2_code 112 = .ok (.areturn, 1) := by decide +kernel
theorem d1_113 : decode method_2_code 113 = .ok (.iload_n 0, 1) := by decide +kernel
theorem d1_114 : decode method_2_code 114 = .ok (.bipush 12, 2) := by decide +kernel
theorem d1_116 : decode method_2_code 116 = .ok (.if_icmp .ne 7, 3) := by decide +kernel
theorem d1_119 : decode method_2_code 119 = .ok (.getstatic 46, 3) := by decide +kernel
theorem d1_122 : decode method_2_code 122 = .ok (.areturn, 1) := by decide +kernel
theorem d1_123 : decode method_2_code 123 = .ok (.getstatic 49, 3) := by decide +kernel
theorem d1_126 : decode method_2_code 126 = .ok (.areturn, 1) := by decide +kernel
theorem pn_1 : plainFor (⟨"com/example/idun/idun/http1/FieldNameFramingPinLaw", "pick", "(I)Lcom/example/idun/idun/http1/FieldName;"⟩ : MethodName) = true := by first | exact plainFor_of_name (by first | (simp [plainName, overriddenIn]; done) | decide +kernel) | decide +kernel
theorem ef_1 (m : MethodId) (p1 : Int32) : entryFrame m #[(.int p1)] 1 = mkF m 0 #[.val (.int p1)] [] := by first | rfl | (simp [entryFrame, mkF, argsToLocals, Value.category]; done)
theorem pd_1 : parseMethodDescriptor "(I)Lcom/example/idun/idun/http1/FieldName;" = some ⟨[.int], some (.object "com/example/idun/idun/http1/FieldName")⟩ := by decide +kernel
def Q1 (Z : State) (p1 : Int32) (en : Nat → Addr) (h0 : Heap) (n0 : Nat) (v : Option Value) (h : Heap) (L : List Loc) : Prop := ∃ i, i < 14 ∧ v = some (.ref (en i)) ∧ (0 ≤ p1.toInt → p1.toInt < 14 → (i : Int) = p1.toInt) ∧ Fr n0 L ∧ h0 = h
theorem rm1 (l : Launch) (Z : State) (a0 : Array Value) (hw : ∀ d ∈ tables_1, d.before a0 Z = true) (ws : List Jvm.Cond) (p1 : Int32) (en : Nat → Addr) (h0 : Heap) (n0 : Nat) (Z0 : n0 ≤ h0.size) (S0 : Sta Z h0 "com/example/idun/idun/http1/FieldName" "CONNECTION" "Lcom/example/idun/idun/http1/FieldName;" (.ref (en 0))) (S1 : Sta Z h0 "com/example/idun/idun/http1/FieldName" "KEEP_ALIVE" "Lcom/example/idun/idun/http1/FieldName;" (.ref (en 1))) (S2 : Sta Z h0 "com/example/idun/idun/http1/FieldName" "PROXY_CONNECTION" "Lcom/example/idun/idun/http1/FieldName;" (.ref (en 2))) (S3 : Sta Z h0 "com/example/idun/idun/http1/FieldName" "TE" "Lcom/example/idun/idun/http1/FieldName;" (.ref (en 3))) (S4 : Sta Z h0 "com/example/idun/idun/http1/FieldName" "TRAILER" "Lcom/example/idun/idun/http1/FieldName;" (.ref (en 4))) (S5 : Sta Z h0 "com/example/idun/idun/http1/FieldName" "UPGRADE" "Lcom/example/idun/idun/http1/FieldName;" (.ref (en 5))) (S6 : Sta Z h0 "com/example/idun/idun/http1/FieldName" "CONTENT_LENGTH" "Lcom/example/idun/idun/http1/FieldName;" (.ref (en 6))) (S7 : Sta Z h0 "com/example/idun/idun/http1/FieldName" "TRANSFER_ENCODING" "Lcom/example/idun/idun/http1/FieldName;" (.ref (en 7))) (S8 : Sta Z h0 "com/example/idun/idun/http1/FieldName" "HOST" "Lcom/example/idun/idun/http1/FieldName;" (.ref (en 8))) (S9 : Sta Z h0 "com/example/idun/idun/http1/FieldName" "X_FORWARDED_FOR" "Lcom/example/idun/idun/http1/FieldName;" (.ref (en 9))) (S10 : Sta Z h0 "com/example/idun/idun/http1/FieldName" "X_FORWARDED_HOST" "Lcom/example/idun/idun/http1/FieldName;" (.ref (en 10))) (S11 : Sta Z h0 "com/example/idun/idun/http1/FieldName" "X_FORWARDED_PROTO" "Lcom/example/idun/idun/http1/FieldName;" (.ref (en 11))) (S12 : Sta Z h0 "com/example/idun/idun/http1/FieldName" "VIA" "Lcom/example/idun/idun/http1/FieldName;" (.ref (en 12))) (S13 : Sta Z h0 "com/example/idun/idun/http1/FieldName" "OTHER" "Lcom/example/idun/idun/http1/FieldName;" (.ref (en 13))) :
    MetFree l (⟨"com/example/idun/idun/http1/FieldNameFramingPinLaw", "pick", "(I)Lcom/example/idun/idun/http1/FieldName;"⟩ : MethodName) (head1 (Jvm.Cond.code (⟨"com/example/idun/idun/http1/FieldNameFramingPinLaw", "pick", "(I)Lcom/example/idun/idun/http1/FieldName;"⟩ : MethodName) method_2_code 1 (some (.object "com/example/idun/idun/http1/FieldName")) :: ws) ({ frames := 0, cells := 0, slots := 0, locals := 0 } : Room)) (fun a U => a = #[(.int p1)] ∧ Z.Warmed39 U.vm ∧ U.heap = h0) (fun _ _ _ _ _ => True) (fun _ U o U' => ∃ v L, o = .returned v ∧ (Q1 Z p1 en h0 n0) v U'.heap L ∧ FrameEnd U o U' L ({ frames := 0, cells := 0, slots := 0, locals := 0 } : Room).cells ({ frames := 0, cells := 0, slots := 0, locals := 0 } : Room).slots) := by
  refine MetFree.of_bodySF pn_1 hisR ?_
  intro p e s m args below meth c s₁ Bd hml0 hP hK
  obtain ⟨rfl, hZ, hh⟩ := hP
  have hx := Bd.exec
  have hby := Bd.bytes
  have hml : c.maxLocals = 1 := hml0
  have hown : s.vm.findClass "com/example/idun/idun/http1/FieldNameFramingPinLaw" = some m.cls := findClass_of_methodNamed Bd.named
  have hnm := (name_of_methodNamed Bd.named Bd.method).1
  have X0 : Stand p l e ({ frames := 0, cells := 0, slots := 0, locals := 0 } : Room) s m #[(.int p1)] below meth c s₁ [] 0 0 := Stand.of_body Bd
  have e0 : s₁.heap = h0 := by rw [← hh, Bd.state]; rfl
  have N0 := Fr.nil n0
  have lk : meth.locks = false := BodyLoose.notSynchronized Bd
  have hret := Bd.returns
  show Ends p e below s ({ frames := 0, cells := 0, slots := 0, locals := 0 } : Room).cells ({ frames := 0, cells := 0, slots := 0, locals := 0 } : Room).slots (Q1 Z p1 en h0 n0) (s₁.setTop (entryFrame m #[(.int p1)] 1))
  refine Ends.cast (ef_1 m p1) ?_
  refine own_iloadN (n := 1) X0 hx (hb hby d1_0) rfl rfl ?_
  by_cases c1 : p1 = 0
  · refine own_ifNo (n := 4) X0 hx (hb hby d1_1) (Jvm.Free.XT.i0_ne_f c1) rfl ?_
    refine own_getS (n := 7) X0 hx hZ hown (hw _ (List.mem_of_getElem? (i := 5) rfl)) e0 S0 (hb hby d1_4) rfl ?_
    intro T1 X1 e1
    refine own_retA X1 hx lk hret rfl rfl (hb hby d1_7) (by decide) (by decide) ?_
    rw [e1]
    exact ⟨0, by decide, rfl, fun _ _ => by rw [c1]; rfl, N0, rfl⟩
  · refine own_ifYes (n := 8) X0 hx (hb hby d1_1) (Jvm.Free.XT.i0_ne_t c1) (by decide) (by decide) ?_
    refine own_iloadN (n := 9) X0 hx (hb hby d1_8) rfl rfl ?_
    refine own_iconst (n := 10) X0 hx (1 : Int32) (hb hby d1_9) rfl rfl ?_
    by_cases c10 : p1 = (1 : Int32)
    · refine own_icmpNo (n := 13) X0 hx (hb hby d1_10) (Jvm.Free.XT.ii_ne_f c10) rfl ?_
      refine own_getS (n := 16) X0 hx hZ hown (hw _ (List.mem_of_getElem? (i := 42) rfl)) e0 S1 (hb hby d1_13) rfl ?_
      intro T2 X2 e2
      refine own_retA X2 hx lk hret rfl rfl (hb hby d1_16) (by decide) (by decide) ?_
      rw [e2]
      exact ⟨1, by decide, rfl, fun _ _ => by rw [c10]; rfl, N0, rfl⟩
    · refine own_icmpYes (n := 17) X0 hx (hb hby d1_10) (Jvm.Free.XT.ii_ne_t c10) (by decide) (by decide) ?_
      refine own_iloadN (n := 18) X0 hx (hb hby d1_17) rfl rfl ?_
      refine own_iconst (n := 19) X0 hx (2 : Int32) (hb hby d1_18) rfl rfl ?_
      by_cases c19 : p1 = (2 : Int32)
      · refine own_icmpNo (n := 22) X0 hx (hb hby d1_19) (Jvm.Free.XT.ii_ne_f c19) rfl ?_
        refine own_getS (n := 25) X0 hx hZ hown (hw _ (List.mem_of_getElem? (i := 35) rfl)) e0 S2 (hb hby d1_22) rfl ?_
        intro T3 X3 e3
        refine own_retA X3 hx lk hret rfl rfl (hb hby d1_25) (by decide) (by decide) ?_
        rw [e3]
        exact ⟨2, by decide, rfl, fun _ _ => by rw [c19]; rfl, N0, rfl⟩
      · refine own_icmpYes (n := 26) X0 hx (hb hby d1_19) (Jvm.Free.XT.ii_ne_t c19) (by decide) (by decide) ?_
        refine own_iloadN (n := 27) X0 hx (hb hby d1_26) rfl rfl ?_
        refine own_iconst (n := 28) X0 hx (3 : Int32) (hb hby d1_27) rfl rfl ?_
        by_cases c28 : p1 = (3 : Int32)
        · refine own_icmpNo (n := 31) X0 hx (hb hby d1_28) (Jvm.Free.XT.ii_ne_f c28) rfl ?_
          refine own_getS (n := 34) X0 hx hZ hown (hw _ (List.mem_of_getElem? (i := 19) rfl)) e0 S3 (hb hby d1_31) rfl ?_
          intro T4 X4 e4
          refine own_retA X4 hx lk hret rfl rfl (hb hby d1_34) (by decide) (by decide) ?_
          rw [e4]
          exact ⟨3, by decide, rfl, fun _ _ => by rw [c28]; rfl, N0, rfl⟩
        · refine own_icmpYes (n := 35) X0 hx (hb hby d1_28) (Jvm.Free.XT.ii_ne_t c28) (by decide) (by decide) ?_
          refine own_iloadN (n := 36) X0 hx (hb hby d1_35) rfl rfl ?_
          refine own_iconst (n := 37) X0 hx (4 : Int32) (hb hby d1_36) rfl rfl ?_
          by_cases c37 : p1 = (4 : Int32)
          · refine own_icmpNo (n := 40) X0 hx (hb hby d1_37) (Jvm.Free.XT.ii_ne_f c37) rfl ?_
            refine own_getS (n := 43) X0 hx hZ hown (hw _ (List.mem_of_getElem? (i := 25) rfl)) e0 S4 (hb hby d1_40) rfl ?_
            intro T5 X5 e5
            refine own_retA X5 hx lk hret rfl rfl (hb hby d1_43) (by decide) (by decide) ?_
            rw [e5]
            exact ⟨4, by decide, rfl, fun _ _ => by rw [c37]; rfl, N0, rfl⟩
          · refine own_icmpYes (n := 44) X0 hx (hb hby d1_37) (Jvm.Free.XT.ii_ne_t c37) (by decide) (by decide) ?_
            refine own_iloadN (n := 45) X0 hx (hb hby d1_44) rfl rfl ?_
            refine own_iconst (n := 46) X0 hx (5 : Int32) (hb hby d1_45) rfl rfl ?_
            by_cases c46 : p1 = (5 : Int32)
            · refine own_icmpNo (n := 49) X0 hx (hb hby d1_46) (Jvm.Free.XT.ii_ne_f c46) rfl ?_
              refine own_getS (n := 52) X0 hx hZ hown (hw _ (List.mem_of_getElem? (i := 46) rfl)) e0 S5 (hb hby d1_49) rfl ?_
              intro T6 X6 e6
              refine own_retA X6 hx lk hret rfl rfl (hb hby d1_52) (by decide) (by decide) ?_
              rw [e6]
              exact ⟨5, by decide, rfl, fun _ _ => by rw [c46]; rfl, N0, rfl⟩
            · refine own_icmpYes (n := 53) X0 hx (hb hby d1_46) (Jvm.Free.XT.ii_ne_t c46) (by decide) (by decide) ?_
              refine own_iloadN (n := 54) X0 hx (hb hby d1_53) rfl rfl ?_
              refine own_bipush (n := 56) X0 hx (6 : Int32) (hb hby d1_54) rfl rfl ?_
              by_cases c56 : p1 = (6 : Int32)
              · refine own_icmpNo (n := 59) X0 hx (hb hby d1_56) (Jvm.Free.XT.ii_ne_f c56) rfl ?_
                refine own_getS (n := 62) X0 hx hZ hown (hw _ (List.mem_of_getElem? (i := 48) rfl)) e0 S6 (hb hby d1_59) rfl ?_
                intro T7 X7 e7
                refine own_retA X7 hx lk hret rfl rfl (hb hby d1_62) (by decide) (by decide) ?_
                rw [e7]
                exact ⟨6, by decide, rfl, fun _ _ => by rw [c56]; rfl, N0, rfl⟩
              · refine own_icmpYes (n := 63) X0 hx (hb hby d1_56) (Jvm.Free.XT.ii_ne_t c56) (by decide) (by decide) ?_
                refine own_iloadN (n := 64) X0 hx (hb hby d1_63) rfl rfl ?_
                refine own_bipush (n := 66) X0 hx (7 : Int32) (hb hby d1_64) rfl rfl ?_
                by_cases c66 : p1 = (7 : Int32)
                · refine own_icmpNo (n := 69) X0 hx (hb hby d1_66) (Jvm.Free.XT.ii_ne_f c66) rfl ?_
                  refine own_getS (n := 72) X0 hx hZ hown (hw _ (List.mem_of_getElem? (i := 27) rfl)) e0 S7 (hb hby d1_69) rfl ?_
                  intro T8 X8 e8
                  refine own_retA X8 hx lk hret rfl rfl (hb hby d1_72) (by decide) (by decide) ?_
                  rw [e8]
                  exact ⟨7, by decide, rfl, fun _ _ => by rw [c66]; rfl, N0, rfl⟩
                · refine own_icmpYes (n := 73) X0 hx (hb hby d1_66) (Jvm.Free.XT.ii_ne_t c66) (by decide) (by decide) ?_
                  refine own_iloadN (n := 74) X0 hx (hb hby d1_73) rfl rfl ?_
                  refine own_bipush (n := 76) X0 hx (8 : Int32) (hb hby d1_74) rfl rfl ?_
                  by_cases c76 : p1 = (8 : Int32)
                  · refine own_icmpNo (n := 79) X0 hx (hb hby d1_76) (Jvm.Free.XT.ii_ne_f c76) rfl ?_
                    refine own_getS (n := 82) X0 hx hZ hown (hw _ (List.mem_of_getElem? (i := 41) rfl)) e0 S8 (hb hby d1_79) rfl ?_
                    intro T9 X9 e9
                    refine own_retA X9 hx lk hret rfl rfl (hb hby d1_82) (by decide) (by decide) ?_
                    rw [e9]
                    exact ⟨8, by decide, rfl, fun _ _ => by rw [c76]; rfl, N0, rfl⟩
                  · refine own_icmpYes (n := 83) X0 hx (hb hby d1_76) (Jvm.Free.XT.ii_ne_t c76) (by decide) (by decide) ?_
                    refine own_iloadN (n := 84) X0 hx (hb hby d1_83) rfl rfl ?_
                    refine own_bipush (n := 86) X0 hx (9 : Int32) (hb hby d1_84) rfl rfl ?_
                    by_cases c86 : p1 = (9 : Int32)
                    · refine own_icmpNo (n := 89) X0 hx (hb hby d1_86) (Jvm.Free.XT.ii_ne_f c86) rfl ?_
                      refine own_getS (n := 92) X0 hx hZ hown (hw _ (List.mem_of_getElem? (i := 44) rfl)) e0 S9 (hb hby d1_89) rfl ?_
                      intro T10 X10 e10
                      refine own_retA X10 hx lk hret rfl rfl (hb hby d1_92) (by decide) (by decide) ?_
                      rw [e10]
                      exact ⟨9, by decide, rfl, fun _ _ => by rw [c86]; rfl, N0, rfl⟩
                    · refine own_icmpYes (n := 93) X0 hx (hb hby d1_86) (Jvm.Free.XT.ii_ne_t c86) (by decide) (by decide) ?_
                      refine own_iloadN (n := 94) X0 hx (hb hby d1_93) rfl rfl ?_
                      refine own_bipush (n := 96) X0 hx (10 : Int32) (hb hby d1_94) rfl rfl ?_
                      by_cases c96 : p1 = (10 : Int32)
                      · refine own_icmpNo (n := 99) X0 hx (hb hby d1_96) (Jvm.Free.XT.ii_ne_f c96) rfl ?_
                        refine own_getS (n := 102) X0 hx hZ hown (hw _ (List.mem_of_getElem? (i := 39) rfl)) e0 S10 (hb hby d1_99) rfl ?_
                        intro T11 X11 e11
                        refine own_retA X11 hx lk hret rfl rfl (hb hby d1_102) (by decide) (by decide) ?_
                        rw [e11]
                        exact ⟨10, by decide, rfl, fun _ _ => by rw [c96]; rfl, N0, rfl⟩
                      · refine own_icmpYes (n := 103) X0 hx (hb hby d1_96) (Jvm.Free.XT.ii_ne_t c96) (by decide) (by decide) ?_
                        refine own_iloadN (n := 104) X0 hx (hb hby d1_103) rfl rfl ?_
                        refine own_bipush (n := 106) X0 hx (11 : Int32) (hb hby d1_104) rfl rfl ?_
                        by_cases c106 : p1 = (11 : Int32)
                        · refine own_icmpNo (n := 109) X0 hx (hb hby d1_106) (Jvm.Free.XT.ii_ne_f c106) rfl ?_
                          refine own_getS (n := 112) X0 hx hZ hown (hw _ (List.mem_of_getElem? (i := 37) rfl)) e0 S11 (hb hby d1_109) rfl ?_
                          intro T12 X12 e12
                          refine own_retA X12 hx lk hret rfl rfl (hb hby d1_112) (by decide) (by decide) ?_
                          rw [e12]
                          exact ⟨11, by decide, rfl, fun _ _ => by rw [c106]; rfl, N0, rfl⟩
                        · refine own_icmpYes (n := 113) X0 hx (hb hby d1_106) (Jvm.Free.XT.ii_ne_t c106) (by decide) (by decide) ?_
                          refine own_iloadN (n := 114) X0 hx (hb hby d1_113) rfl rfl ?_
                          refine own_bipush (n := 116) X0 hx (12 : Int32) (hb hby d1_114) rfl rfl ?_
                          by_cases c116 : p1 = (12 : Int32)
                          · refine own_icmpNo (n := 119) X0 hx (hb hby d1_116) (Jvm.Free.XT.ii_ne_f c116) rfl ?_
                            refine own_getS (n := 122) X0 hx hZ hown (hw _ (List.mem_of_getElem? (i := 21) rfl)) e0 S12 (hb hby d1_119) rfl ?_
                            intro T13 X13 e13
                            refine own_retA X13 hx lk hret rfl rfl (hb hby d1_122) (by decide) (by decide) ?_
                            rw [e13]
                            exact ⟨12, by decide, rfl, fun _ _ => by rw [c116]; rfl, N0, rfl⟩
                          · refine own_icmpYes (n := 123) X0 hx (hb hby d1_116) (Jvm.Free.XT.ii_ne_t c116) (by decide) (by decide) ?_
                            refine own_getS (n := 126) X0 hx hZ hown (hw _ (List.mem_of_getElem? (i := 23) rfl)) e0 S13 (hb hby d1_123) rfl ?_
                            intro T14 X14 e14
                            refine own_retA X14 hx lk hret rfl rfl (hb hby d1_126) (by decide) (by decide) ?_
                            rw [e14]
                            refine ⟨13, by decide, rfl, fun h1 h2 => ?_, N0, rfl⟩
                            have y0 : p1.toInt ≠ 0 := fun z => c1 (Int32.toInt_inj.mp z)
                            have y1 : p1.toInt ≠ 1 := fun z => c10 (Int32.toInt_inj.mp z)
                            have y2 : p1.toInt ≠ 2 := fun z => c19 (Int32.toInt_inj.mp z)
                            have y3 : p1.toInt ≠ 3 := fun z => c28 (Int32.toInt_inj.mp z)
                            have y4 : p1.toInt ≠ 4 := fun z => c37 (Int32.toInt_inj.mp z)
                            have y5 : p1.toInt ≠ 5 := fun z => c46 (Int32.toInt_inj.mp z)
                            have y6 : p1.toInt ≠ 6 := fun z => c56 (Int32.toInt_inj.mp z)
                            have y7 : p1.toInt ≠ 7 := fun z => c66 (Int32.toInt_inj.mp z)
                            have y8 : p1.toInt ≠ 8 := fun z => c76 (Int32.toInt_inj.mp z)
                            have y9 : p1.toInt ≠ 9 := fun z => c86 (Int32.toInt_inj.mp z)
                            have y10 : p1.toInt ≠ 10 := fun z => c96 (Int32.toInt_inj.mp z)
                            have y11 : p1.toInt ≠ 11 := fun z => c106 (Int32.toInt_inj.mp z)
                            have y12 : p1.toInt ≠ 12 := fun z => c116 (Int32.toInt_inj.mp z)
                            omega
theorem d2_0 : decode prog_24_method_6_code 0 = .ok (.aload_n 0, 1) := by decide +kernel
theorem d2_1 : decode prog_24_method_6_code 1 = .ok (.getstatic 22, 3) := by decide +kernel
theorem d2_4 : decode prog_24_method_6_code 4 = .ok (.if_acmp .eq 17, 3) := by decide +kernel
theorem d2_7 : decode prog_24_method_6_code 7 = .ok (.aload_n 0, 1) := by decide +kernel
theorem d2_8 : decode prog_24_method_6_code 8 = .ok (.getstatic 25, 3) := by decide +kernel
theorem d2_11 : decode prog_24_method_6_code 11 = .ok (.if_acmp .eq 10, 3) := by decide +kernel
theorem d2_14 : decode prog_24_method_6_code 14 = .ok (.aload_n 0, 1) := by decide +kernel
theorem d2_15 : decode prog_24_method_6_code 15 = .ok (.getstatic 28, 3) := by decide +kernel
theorem d2_18 : decode prog_24_method_6_code 18 = .ok (.if_acmp .ne 7, 3) := by decide +kernel
theorem d2_21 : decode prog_24_method_6_code 21 = .ok (.iconst 1, 1) := by decide +kernel
theorem d2_22 : decode prog_24_method_6_code 22 = .ok (.goto 4, 3) := by decide +kernel
theorem d2_25 : decode prog_24_method_6_code 25 = .ok (.iconst 0, 1) := by decide +kernel
theorem d2_26 : decode prog_24_method_6_code 26 = .ok (.ireturn, 1) := by decide +kernel
theorem pn_2 : plainFor (⟨"com/example/idun/idun/http1/FieldName", "framing", "()Z"⟩ : MethodName) = true := by first | exact plainFor_of_name (by first | (simp [plainName, overriddenIn]; done) | decide +kernel) | decide +kernel
theorem ef_2 (m : MethodId) (a1 : Addr) : entryFrame m #[(.ref a1)] 1 = mkF m 0 #[.val (.ref a1)] [] := by first | rfl | (simp [entryFrame, mkF, argsToLocals, Value.category]; done)
theorem pd_2 : parseMethodDescriptor "()Z" = some ⟨[], some .boolean⟩ := by decide +kernel
def Q2 (Z : State) (a1 : Addr) (en : Nat → Addr) (h0 : Heap) (n0 : Nat) (v : Option Value) (h : Heap) (L : List Loc) : Prop := (a1 = en 6 ∨ a1 = en 7 ∨ a1 = en 8 → v = some (.int 1)) ∧ (¬ (a1 = en 6 ∨ a1 = en 7 ∨ a1 = en 8) → v = some (.int 0)) ∧ Fr n0 L ∧ h0 = h
theorem rm2 (l : Launch) (Z : State) (a0 : Array Value) (hw : ∀ d ∈ tables_1, d.before a0 Z = true) (ws : List Jvm.Cond) (a1 : Addr) (en : Nat → Addr) (h0 : Heap) (n0 : Nat) (Z0 : n0 ≤ h0.size) (S6 : Sta Z h0 "com/example/idun/idun/http1/FieldName" "CONTENT_LENGTH" "Lcom/example/idun/idun/http1/FieldName;" (.ref (en 6))) (S7 : Sta Z h0 "com/example/idun/idun/http1/FieldName" "TRANSFER_ENCODING" "Lcom/example/idun/idun/http1/FieldName;" (.ref (en 7))) (S8 : Sta Z h0 "com/example/idun/idun/http1/FieldName" "HOST" "Lcom/example/idun/idun/http1/FieldName;" (.ref (en 8))) :
    MetFree l (⟨"com/example/idun/idun/http1/FieldName", "framing", "()Z"⟩ : MethodName) (head1 (Jvm.Cond.code (⟨"com/example/idun/idun/http1/FieldName", "framing", "()Z"⟩ : MethodName) prog_24_method_6_code 1 (some .boolean) :: ws) ({ frames := 0, cells := 0, slots := 0, locals := 0 } : Room)) (fun a U => a = #[(.ref a1)] ∧ Z.Warmed39 U.vm ∧ U.heap = h0) (fun _ _ _ _ _ => True) (fun _ U o U' => ∃ v L, o = .returned v ∧ (Q2 Z a1 en h0 n0) v U'.heap L ∧ FrameEnd U o U' L ({ frames := 0, cells := 0, slots := 0, locals := 0 } : Room).cells ({ frames := 0, cells := 0, slots := 0, locals := 0 } : Room).slots) := by
  refine MetFree.of_bodySF pn_2 hisR ?_
  intro p e s m args below meth c s₁ Bd hml0 hP hK
  obtain ⟨rfl, hZ, hh⟩ := hP
  have hx := Bd.exec
  have hby := Bd.bytes
  have hml : c.maxLocals = 1 := hml0
  have hown : s.vm.findClass "com/example/idun/idun/http1/FieldName" = some m.cls := findClass_of_methodNamed Bd.named
  have hnm := (name_of_methodNamed Bd.named Bd.method).1
  have X0 : Stand p l e ({ frames := 0, cells := 0, slots := 0, locals := 0 } : Room) s m #[(.ref a1)] below meth c s₁ [] 0 0 := Stand.of_body Bd
  have e0 : s₁.heap = h0 := by rw [← hh, Bd.state]; rfl
  have N0 := Fr.nil n0
  have lk : meth.locks = false := BodyLoose.notSynchronized Bd
  have hret := Bd.returns
  show Ends p e below s ({ frames := 0, cells := 0, slots := 0, locals := 0 } : Room).cells ({ frames := 0, cells := 0, slots := 0, locals := 0 } : Room).slots (Q2 Z a1 en h0 n0) (s₁.setTop (entryFrame m #[(.ref a1)] 1))
  refine Ends.cast (ef_2 m a1) ?_
  refine own_aloadN (n := 1) X0 hx (hb hby d2_0) rfl rfl rfl ?_
  refine own_getS (n := 4) X0 hx hZ hown (hw _ (List.mem_of_getElem? (i := 13) rfl)) e0 S6 (hb hby d2_1) rfl ?_
  intro T1 X1 e1
  by_cases c4 : ((.ref a1) : Value) = (.ref (en 6))
  · refine own_acmpYes (n := 21) X1 hx (hb hby d2_4) rfl rfl (Jvm.Free.XT.aa_eq_t c4) (by decide) (by decide) ?_
    refine own_iconst (n := 22) X1 hx (1 : Int32) (hb hby d2_21) rfl rfl ?_
    refine own_goto (n := 26) X1 hx (hb hby d2_22) (by decide) (by decide) ?_
    refine own_retN X1 hx lk hret (by simp) (hb hby d2_26) (by decide) (by decide) ?_
    rw [e1]
    exact ⟨fun _ => rfl, fun q => absurd (Or.inl (Value.ref.inj c4)) q, N0, rfl⟩
  · refine own_acmpNo (n := 7) X1 hx (hb hby d2_4) rfl rfl (Jvm.Free.XT.aa_eq_f c4) rfl ?_
    refine own_aloadN (n := 8) X1 hx (hb hby d2_7) rfl rfl rfl ?_
    refine own_getS (n := 11) X1 hx hZ hown (hw _ (List.mem_of_getElem? (i := 15) rfl)) e1 S7 (hb hby d2_8) rfl ?_
    intro T2 X2 e2
    by_cases c11 : ((.ref a1) : Value) = (.ref (en 7))
    · refine own_acmpYes (n := 21) X2 hx (hb hby d2_11) rfl rfl (Jvm.Free.XT.aa_eq_t c11) (by decide) (by decide) ?_
      refine own_iconst (n := 22) X2 hx (1 : Int32) (hb hby d2_21) rfl rfl ?_
      refine own_goto (n := 26) X2 hx (hb hby d2_22) (by decide) (by decide) ?_
      refine own_retN X2 hx lk hret (by simp) (hb hby d2_26) (by decide) (by decide) ?_
      rw [e2]
      exact ⟨fun _ => rfl, fun q => absurd (Or.inr (Or.inl (Value.ref.inj c11))) q, N0, rfl⟩
    · refine own_acmpNo (n := 14) X2 hx (hb hby d2_11) rfl rfl (Jvm.Free.XT.aa_eq_f c11) rfl ?_
      refine own_aloadN (n := 15) X2 hx (hb hby d2_14) rfl rfl rfl ?_
      refine own_getS (n := 18) X2 hx hZ hown (hw _ (List.mem_of_getElem? (i := 17) rfl)) e2 S8 (hb hby d2_15) rfl ?_
      intro T3 X3 e3
      by_cases c18 : ((.ref a1) : Value) = (.ref (en 8))
      · refine own_acmpNo (n := 21) X3 hx (hb hby d2_18) rfl rfl (Jvm.Free.XT.aa_ne_f c18) rfl ?_
        refine own_iconst (n := 22) X3 hx (1 : Int32) (hb hby d2_21) rfl rfl ?_
        refine own_goto (n := 26) X3 hx (hb hby d2_22) (by decide) (by decide) ?_
        refine own_retN X3 hx lk hret (by simp) (hb hby d2_26) (by decide) (by decide) ?_
        rw [e3]
        exact ⟨fun _ => rfl, fun q => absurd (Or.inr (Or.inr (Value.ref.inj c18))) q, N0, rfl⟩
      · refine own_acmpYes (n := 25) X3 hx (hb hby d2_18) rfl rfl (Jvm.Free.XT.aa_ne_t c18) (by decide) (by decide) ?_
        refine own_iconst (n := 26) X3 hx (0 : Int32) (hb hby d2_25) rfl rfl ?_
        refine own_retN X3 hx lk hret (by simp) (hb hby d2_26) (by decide) (by decide) ?_
        rw [e3]
        exact ⟨fun q => q.elim (fun z => absurd (congrArg Value.ref z) c4) fun q => q.elim (fun z => absurd (congrArg Value.ref z) c11) fun z => absurd (congrArg Value.ref z) c18, fun _ => rfl, N0, rfl⟩
theorem d3_0 : decode prog_24_method_5_code 0 = .ok (.aload_n 0, 1) := by decide +kernel
theorem d3_1 : decode prog_24_method_5_code 1 = .ok (.getfield 81, 3) := by decide +kernel
theorem d3_4 : decode prog_24_method_5_code 4 = .ok (.ireturn, 1) := by decide +kernel
theorem pn_3 : plainFor (⟨"com/example/idun/idun/http1/FieldName", "hopByHop", "()Z"⟩ : MethodName) = true := by first | exact plainFor_of_name (by first | (simp [plainName, overriddenIn]; done) | decide +kernel) | decide +kernel
theorem ef_3 (m : MethodId) (a1 : Addr) : entryFrame m #[(.ref a1)] 1 = mkF m 0 #[.val (.ref a1)] [] := by first | rfl | (simp [entryFrame, mkF, argsToLocals, Value.category]; done)
theorem pd_3 : parseMethodDescriptor "()Z" = some ⟨[], some .boolean⟩ := by decide +kernel
def Q3 (Z : State) (a1 : Addr)  (h0 : Heap) (n0 : Nat) (v : Option Value) (h : Heap) (L : List Loc) : Prop := v = some (.int 0) ∧ Fr n0 L ∧ h0 = h
theorem rm3 (l : Launch) (Z : State) (a0 : Array Value) (hw : ∀ d ∈ tables_1, d.before a0 Z = true) (ws : List Jvm.Cond) (a1 : Addr)  (h0 : Heap) (n0 : Nat) (Z0 : n0 ≤ h0.size) (F : Fld Z h0 a1 "com/example/idun/idun/http1/FieldName" "hopByHop" "Z" (.int 0)) :
    MetFree l (⟨"com/example/idun/idun/http1/FieldName", "hopByHop", "()Z"⟩ : MethodName) (head1 (Jvm.Cond.code (⟨"com/example/idun/idun/http1/FieldName", "hopByHop", "()Z"⟩ : MethodName) prog_24_method_5_code 1 (some .boolean) :: ws) ({ frames := 0, cells := 0, slots := 0, locals := 0 } : Room)) (fun a U => a = #[(.ref a1)] ∧ Z.Warmed39 U.vm ∧ U.heap = h0) (fun _ _ _ _ _ => True) (fun _ U o U' => ∃ v L, o = .returned v ∧ (Q3 Z a1  h0 n0) v U'.heap L ∧ FrameEnd U o U' L ({ frames := 0, cells := 0, slots := 0, locals := 0 } : Room).cells ({ frames := 0, cells := 0, slots := 0, locals := 0 } : Room).slots) := by
  refine MetFree.of_bodySF pn_3 hisR ?_
  intro p e s m args below meth c s₁ Bd hml0 hP hK
  obtain ⟨rfl, hZ, hh⟩ := hP
  have hx := Bd.exec
  have hby := Bd.bytes
  have hml : c.maxLocals = 1 := hml0
  have hown : s.vm.findClass "com/example/idun/idun/http1/FieldName" = some m.cls := findClass_of_methodNamed Bd.named
  have hnm := (name_of_methodNamed Bd.named Bd.method).1
  have X0 : Stand p l e ({ frames := 0, cells := 0, slots := 0, locals := 0 } : Room) s m #[(.ref a1)] below meth c s₁ [] 0 0 := Stand.of_body Bd
  have e0 : s₁.heap = h0 := by rw [← hh, Bd.state]; rfl
  have N0 := Fr.nil n0
  have lk : meth.locks = false := BodyLoose.notSynchronized Bd
  have hret := Bd.returns
  show Ends p e below s ({ frames := 0, cells := 0, slots := 0, locals := 0 } : Room).cells ({ frames := 0, cells := 0, slots := 0, locals := 0 } : Room).slots (Q3 Z a1  h0 n0) (s₁.setTop (entryFrame m #[(.ref a1)] 1))
  refine Ends.cast (ef_3 m a1) ?_
  refine own_aloadN (n := 1) X0 hx (hb hby d3_0) rfl rfl rfl ?_
  refine own_getF (n := 4) X0 hx hZ hown (hw _ (List.mem_of_getElem? (i := 33) rfl)) e0 F (hb hby d3_1) rfl ?_
  intro T1 X1 e1
  refine own_retN X1 hx lk hret (by simp) (hb hby d3_4) (by decide) (by decide) ?_
  rw [e1]
  exact ⟨rfl, N0, rfl⟩
theorem pn_0 : plainFor x = true := by first | exact plainFor_of_name (by first | (simp [plainName, overriddenIn]; done) | decide +kernel) | decide +kernel
theorem ef_0 (m : MethodId) (p1 : Int32) : entryFrame m #[(.int p1)] maxLocals = mkF m 0 #[.val (.int p1), .unset, .unset, .unset, .unset] [] := by first | rfl | (simp [entryFrame, mkF, argsToLocals, Value.category, maxLocals]; done)
def Q0 (Z : State) (p1 : Int32) (en : Nat → Addr) (h0 : Heap) (n0 : Nat) (v : Option Value) (h : Heap) (L : List Loc) : Prop := v = some (.int 1) ∧ Fr n0 L
theorem rm0 (l : Launch) (Z : State) (a0 : Array Value) (hw : ∀ d ∈ tables_1, d.before a0 Z = true) (ws : List Jvm.Cond) (p1 : Int32) (en : Nat → Addr) (h0 : Heap) (n0 : Nat) (Z0 : n0 ≤ h0.size) (S0 : Sta Z h0 "com/example/idun/idun/http1/FieldName" "CONNECTION" "Lcom/example/idun/idun/http1/FieldName;" (.ref (en 0))) (S1 : Sta Z h0 "com/example/idun/idun/http1/FieldName" "KEEP_ALIVE" "Lcom/example/idun/idun/http1/FieldName;" (.ref (en 1))) (S2 : Sta Z h0 "com/example/idun/idun/http1/FieldName" "PROXY_CONNECTION" "Lcom/example/idun/idun/http1/FieldName;" (.ref (en 2))) (S3 : Sta Z h0 "com/example/idun/idun/http1/FieldName" "TE" "Lcom/example/idun/idun/http1/FieldName;" (.ref (en 3))) (S4 : Sta Z h0 "com/example/idun/idun/http1/FieldName" "TRAILER" "Lcom/example/idun/idun/http1/FieldName;" (.ref (en 4))) (S5 : Sta Z h0 "com/example/idun/idun/http1/FieldName" "UPGRADE" "Lcom/example/idun/idun/http1/FieldName;" (.ref (en 5))) (S6 : Sta Z h0 "com/example/idun/idun/http1/FieldName" "CONTENT_LENGTH" "Lcom/example/idun/idun/http1/FieldName;" (.ref (en 6))) (S7 : Sta Z h0 "com/example/idun/idun/http1/FieldName" "TRANSFER_ENCODING" "Lcom/example/idun/idun/http1/FieldName;" (.ref (en 7))) (S8 : Sta Z h0 "com/example/idun/idun/http1/FieldName" "HOST" "Lcom/example/idun/idun/http1/FieldName;" (.ref (en 8))) (S9 : Sta Z h0 "com/example/idun/idun/http1/FieldName" "X_FORWARDED_FOR" "Lcom/example/idun/idun/http1/FieldName;" (.ref (en 9))) (S10 : Sta Z h0 "com/example/idun/idun/http1/FieldName" "X_FORWARDED_HOST" "Lcom/example/idun/idun/http1/FieldName;" (.ref (en 10))) (S11 : Sta Z h0 "com/example/idun/idun/http1/FieldName" "X_FORWARDED_PROTO" "Lcom/example/idun/idun/http1/FieldName;" (.ref (en 11))) (S12 : Sta Z h0 "com/example/idun/idun/http1/FieldName" "VIA" "Lcom/example/idun/idun/http1/FieldName;" (.ref (en 12))) (S13 : Sta Z h0 "com/example/idun/idun/http1/FieldName" "OTHER" "Lcom/example/idun/idun/http1/FieldName;" (.ref (en 13))) (EX : ∀ i, i < 14 → Exa Z h0 (en i) "com/example/idun/idun/http1/FieldName") (INJ : ∀ i j, i < 14 → j < 14 → en i = en j → i = j) (HOP : ∀ i, i = 6 ∨ i = 7 ∨ i = 8 → Fld Z h0 (en i) "com/example/idun/idun/http1/FieldName" "hopByHop" "Z" (.int 0)) :
    MetFree l x (head1 (Jvm.Cond.code x code maxLocals ret :: ws) room_1) (fun a U => a = #[(.int p1)] ∧ Z.Warmed39 U.vm ∧ U.heap = h0) (fun _ _ _ _ _ => True) (fun _ U o U' => ∃ v L, o = .returned v ∧ (Q0 Z p1 en h0 n0) v U'.heap L ∧ FrameEnd U o U' L 0 0) := by
  refine MetFree.of_bodySF pn_0 hisR ?_
  intro p e s m args below meth c s₁ Bd hml0 hP hK
  obtain ⟨rfl, hZ, hh⟩ := hP
  have hx := Bd.exec
  have hby := Bd.bytes
  have hml : c.maxLocals = 5 := hml0
  have hown : s.vm.findClass "com/example/idun/idun/http1/FieldNameFramingPinLaw" = some m.cls := findClass_of_methodNamed Bd.named
  have hnm := (name_of_methodNamed Bd.named Bd.method).1
  have X0 : Stand p l e room_1 s m #[(.int p1)] below meth c s₁ [] 0 0 := Stand.of_body Bd
  have e0 : s₁.heap = h0 := by rw [← hh, Bd.state]; rfl
  have N0 := Fr.nil n0
  have lk : meth.locks = false := BodyLoose.notSynchronized Bd
  have hret := Bd.returns
  show Ends p e below s 0 0 (Q0 Z p1 en h0 n0) (s₁.setTop (entryFrame m #[(.int p1)] maxLocals))
  refine Ends.cast (ef_0 m p1) ?_
  refine own_iloadN (n := 1) X0 hx (hb hby at_0) rfl rfl ?_
  refine own_ldc (n := 3) X0 hx hZ hown (hw _ (List.mem_of_getElem? (i := 0) rfl)) (hb hby at_1) rfl ?_
  refine own_iand (n := 4) X0 hx (hb hby at_3) rfl ?_
  refine own_bipush (n := 6) X0 hx (14 : Int32) (hb hby at_4) rfl rfl ?_
  refine own_irem (n := 7) X0 hx (hb hby at_6) (by decide) rfl ?_
  refine own_istoreN (n := 8) X0 hx (hb hby at_7) (l' := #[.val (.int p1), .val (.int ((p1 &&& (2147483647 : Int32)) % (14 : Int32))), .unset, .unset, .unset]) rfl rfl ?_
  show Ends p e below s 0 0 (Q0 Z p1 en h0 n0) (s₁.setTop (mkF m 8 #[.val (.int p1), .val (.int ((p1 &&& (2147483647 : Int32)) % (14 : Int32))), .unset, .unset, .unset] []))
  generalize g_k1 : ((p1 &&& (2147483647 : Int32)) % (14 : Int32)) = k1
  refine own_iloadN (n := 9) X0 hx (hb hby at_8) rfl rfl ?_
  have hk := own_rem p1
  rw [g_k1] at hk
  refine own_callS (n := 12) X0 hx hZ hown (hw _ (List.mem_of_getElem? (i := 1) rfl)) (hw _ (List.mem_of_getElem? (i := 2) rfl)) (hw _ (List.mem_of_getElem? (i := 3) rfl)) (hw _ (List.mem_of_getElem? (i := 4) rfl)) (by decide) e0 (rm1 l Z a0 hw [] k1 en h0 n0 Z0 S0 S1 S2 S3 S4 S5 S6 S7 S8 S9 S10 S11 S12 S13) (W := 0) (by decide) (by decide) (by decide) (by decide) (by rw [hml]; rfl) (argsL := [(.int k1)]) (rest := []) pd_1 rfl (by rfl) (Nat.le_of_eq rfl) (hb hby at_9) rfl rfl ?_
  intro v1 T1 h1 L1 X1 e1 q1
  obtain ⟨i, hi, rfl, hik, M1, rfl⟩ := q1
  have N1 := Fr.app N0 M1
  have hik := hik hk.1 hk.2
  refine own_astoreN (n := 13) X1 hx (hb hby at_12) rfl (l' := #[.val (.int p1), .val (.int k1), .val (.ref (en i)), .unset, .unset]) rfl rfl ?_
  refine own_iloadN (n := 14) X1 hx (hb hby at_13) rfl rfl ?_
  refine own_bipush (n := 16) X1 hx (6 : Int32) (hb hby at_14) rfl rfl ?_
  by_cases c16 : k1 < (6 : Int32)
  · refine own_icmpYes (n := 29) X1 hx (hb hby at_16) (Jvm.Free.XT.ii_lt_t c16) (by decide) (by decide) ?_
    refine own_iconst (n := 30) X1 hx (0 : Int32) (hb hby at_29) rfl rfl ?_
    refine own_istoreN (n := 31) X1 hx (hb hby at_30) (l' := #[.val (.int p1), .val (.int k1), .val (.ref (en i)), .val (.int (0 : Int32)), .unset]) rfl rfl ?_
    refine own_aloadN (n := 32) X1 hx (hb hby at_31) rfl rfl rfl ?_
    refine own_callV (n := 35) X1 hx hZ hown (hw _ (List.mem_of_getElem? (i := 8) rfl)) (hw _ (List.mem_of_getElem? (i := 9) rfl)) (hw _ (List.mem_of_getElem? (i := 11) rfl)) (hw _ (List.mem_of_getElem? (i := 10) rfl)) (hw _ (List.mem_of_getElem? (i := 6) rfl)) (hw _ (List.mem_of_getElem? (i := 12) rfl)) (by decide) e1 (EX i hi) (rm2 l Z a0 hw [] (en i) en h0 n0 Z0 S6 S7 S8) (W := 0) (by decide) (by decide) (by decide) (by decide) (by rw [hml]; rfl) (argsL := []) (rest := []) pd_2 rfl (by rfl) (Nat.le_of_eq rfl) (hb hby at_32) rfl rfl ?_
    intro v2 T2 h2 L2 X2 e2 q2
    obtain ⟨qa2, qb2, M2, rfl⟩ := q2
    have N2 := Fr.app N1 M2
    have o6 : (6 : Int32).toInt = 6 := rfl
    have o8 : (8 : Int32).toInt = 8 := rfl
    rw [Int32.lt_iff_toInt_lt] at c16
    obtain rfl := qb2 (fun q => q.elim (fun z => by have := INJ _ _ hi (by decide) z; omega) fun q => q.elim (fun z => by have := INJ _ _ hi (by decide) z; omega) fun z => by have := INJ _ _ hi (by decide) z; omega)
    refine own_istore (n := 37) X2 hx (hb hby at_35) (l' := #[.val (.int p1), .val (.int k1), .val (.ref (en i)), .val (.int (0 : Int32)), .val (.int (0 : Int32))]) rfl rfl ?_
    refine own_iload (n := 39) X2 hx (hb hby at_37) rfl rfl ?_
    refine own_iloadN (n := 40) X2 hx (hb hby at_39) rfl rfl ?_
    refine own_icmpNo (n := 43) X2 hx (hb hby at_40) (Jvm.Free.XT.ii_ne_f rfl) rfl ?_
    refine own_iload (n := 45) X2 hx (hb hby at_43) rfl rfl ?_
    refine own_ifYes (n := 55) X2 hx (hb hby at_45) (Jvm.Free.XT.i0_eq_t rfl) (by decide) (by decide) ?_
    refine own_iconst (n := 56) X2 hx (1 : Int32) (hb hby at_55) rfl rfl ?_
    refine own_goto (n := 60) X2 hx (hb hby at_56) (by decide) (by decide) ?_
    refine own_retN X2 hx lk hret (by simp) (hb hby at_60) (by decide) (by decide) ?_
    rw [e2]
    exact ⟨rfl, N2⟩
  · refine own_icmpNo (n := 19) X1 hx (hb hby at_16) (Jvm.Free.XT.ii_lt_f c16) rfl ?_
    refine own_iloadN (n := 20) X1 hx (hb hby at_19) rfl rfl ?_
    refine own_bipush (n := 22) X1 hx (8 : Int32) (hb hby at_20) rfl rfl ?_
    by_cases c22 : (8 : Int32) < k1
    · refine own_icmpYes (n := 29) X1 hx (hb hby at_22) (Jvm.Free.XT.ii_gt_t c22) (by decide) (by decide) ?_
      refine own_iconst (n := 30) X1 hx (0 : Int32) (hb hby at_29) rfl rfl ?_
      refine own_istoreN (n := 31) X1 hx (hb hby at_30) (l' := #[.val (.int p1), .val (.int k1), .val (.ref (en i)), .val (.int (0 : Int32)), .unset]) rfl rfl ?_
      refine own_aloadN (n := 32) X1 hx (hb hby at_31) rfl rfl rfl ?_
      refine own_callV (n := 35) X1 hx hZ hown (hw _ (List.mem_of_getElem? (i := 8) rfl)) (hw _ (List.mem_of_getElem? (i := 9) rfl)) (hw _ (List.mem_of_getElem? (i := 11) rfl)) (hw _ (List.mem_of_getElem? (i := 10) rfl)) (hw _ (List.mem_of_getElem? (i := 6) rfl)) (hw _ (List.mem_of_getElem? (i := 12) rfl)) (by decide) e1 (EX i hi) (rm2 l Z a0 hw [] (en i) en h0 n0 Z0 S6 S7 S8) (W := 0) (by decide) (by decide) (by decide) (by decide) (by rw [hml]; rfl) (argsL := []) (rest := []) pd_2 rfl (by rfl) (Nat.le_of_eq rfl) (hb hby at_32) rfl rfl ?_
      intro v3 T3 h3 L3 X3 e3 q3
      obtain ⟨qa3, qb3, M3, rfl⟩ := q3
      have N3 := Fr.app N1 M3
      have o6 : (6 : Int32).toInt = 6 := rfl
      have o8 : (8 : Int32).toInt = 8 := rfl
      rw [Int32.lt_iff_toInt_lt] at c22
      obtain rfl := qb3 (fun q => q.elim (fun z => by have := INJ _ _ hi (by decide) z; omega) fun q => q.elim (fun z => by have := INJ _ _ hi (by decide) z; omega) fun z => by have := INJ _ _ hi (by decide) z; omega)
      refine own_istore (n := 37) X3 hx (hb hby at_35) (l' := #[.val (.int p1), .val (.int k1), .val (.ref (en i)), .val (.int (0 : Int32)), .val (.int (0 : Int32))]) rfl rfl ?_
      refine own_iload (n := 39) X3 hx (hb hby at_37) rfl rfl ?_
      refine own_iloadN (n := 40) X3 hx (hb hby at_39) rfl rfl ?_
      refine own_icmpNo (n := 43) X3 hx (hb hby at_40) (Jvm.Free.XT.ii_ne_f rfl) rfl ?_
      refine own_iload (n := 45) X3 hx (hb hby at_43) rfl rfl ?_
      refine own_ifYes (n := 55) X3 hx (hb hby at_45) (Jvm.Free.XT.i0_eq_t rfl) (by decide) (by decide) ?_
      refine own_iconst (n := 56) X3 hx (1 : Int32) (hb hby at_55) rfl rfl ?_
      refine own_goto (n := 60) X3 hx (hb hby at_56) (by decide) (by decide) ?_
      refine own_retN X3 hx lk hret (by simp) (hb hby at_60) (by decide) (by decide) ?_
      rw [e3]
      exact ⟨rfl, N3⟩
    · refine own_icmpNo (n := 25) X1 hx (hb hby at_22) (Jvm.Free.XT.ii_gt_f c22) rfl ?_
      refine own_iconst (n := 26) X1 hx (1 : Int32) (hb hby at_25) rfl rfl ?_
      refine own_goto (n := 30) X1 hx (hb hby at_26) (by decide) (by decide) ?_
      refine own_istoreN (n := 31) X1 hx (hb hby at_30) (l' := #[.val (.int p1), .val (.int k1), .val (.ref (en i)), .val (.int (1 : Int32)), .unset]) rfl rfl ?_
      refine own_aloadN (n := 32) X1 hx (hb hby at_31) rfl rfl rfl ?_
      refine own_callV (n := 35) X1 hx hZ hown (hw _ (List.mem_of_getElem? (i := 8) rfl)) (hw _ (List.mem_of_getElem? (i := 9) rfl)) (hw _ (List.mem_of_getElem? (i := 11) rfl)) (hw _ (List.mem_of_getElem? (i := 10) rfl)) (hw _ (List.mem_of_getElem? (i := 6) rfl)) (hw _ (List.mem_of_getElem? (i := 12) rfl)) (by decide) e1 (EX i hi) (rm2 l Z a0 hw [] (en i) en h0 n0 Z0 S6 S7 S8) (W := 0) (by decide) (by decide) (by decide) (by decide) (by rw [hml]; rfl) (argsL := []) (rest := []) pd_2 rfl (by rfl) (Nat.le_of_eq rfl) (hb hby at_32) rfl rfl ?_
      intro v4 T4 h4 L4 X4 e4 q4
      obtain ⟨qa4, qb4, M4, rfl⟩ := q4
      have N4 := Fr.app N1 M4
      have o6 : (6 : Int32).toInt = 6 := rfl
      have o8 : (8 : Int32).toInt = 8 := rfl
      rw [Int32.lt_iff_toInt_lt] at c16 c22
      have hs : i = 6 ∨ i = 7 ∨ i = 8 := by omega
      obtain rfl := qa4 (hs.elim (fun z => Or.inl (congrArg en z)) fun q => q.elim (fun z => Or.inr (Or.inl (congrArg en z))) fun z => Or.inr (Or.inr (congrArg en z)))
      refine own_istore (n := 37) X4 hx (hb hby at_35) (l' := #[.val (.int p1), .val (.int k1), .val (.ref (en i)), .val (.int (1 : Int32)), .val (.int (1 : Int32))]) rfl rfl ?_
      refine own_iload (n := 39) X4 hx (hb hby at_37) rfl rfl ?_
      refine own_iloadN (n := 40) X4 hx (hb hby at_39) rfl rfl ?_
      refine own_icmpNo (n := 43) X4 hx (hb hby at_40) (Jvm.Free.XT.ii_ne_f rfl) rfl ?_
      refine own_iload (n := 45) X4 hx (hb hby at_43) rfl rfl ?_
      refine own_ifNo (n := 48) X4 hx (hb hby at_45) (Jvm.Free.XT.i0_eq_f (by decide)) rfl ?_
      refine own_aloadN (n := 49) X4 hx (hb hby at_48) rfl rfl rfl ?_
      refine own_callV (n := 52) X4 hx hZ hown (hw _ (List.mem_of_getElem? (i := 28) rfl)) (hw _ (List.mem_of_getElem? (i := 29) rfl)) (hw _ (List.mem_of_getElem? (i := 31) rfl)) (hw _ (List.mem_of_getElem? (i := 30) rfl)) (hw _ (List.mem_of_getElem? (i := 6) rfl)) (hw _ (List.mem_of_getElem? (i := 32) rfl)) (by decide) e4 (EX i hi) (rm3 l Z a0 hw [] (en i) h0 n0 Z0 (HOP i hs)) (W := 0) (by decide) (by decide) (by decide) (by decide) (by rw [hml]; rfl) (argsL := []) (rest := []) pd_3 rfl (by rfl) (Nat.le_of_eq rfl) (hb hby at_49) rfl rfl ?_
      intro v5 T5 h5 L5 X5 e5 q5
      obtain ⟨rfl, M5, rfl⟩ := q5
      have N5 := Fr.app N4 M5
      refine own_ifNo (n := 55) X5 hx (hb hby at_52) (Jvm.Free.XT.i0_ne_f rfl) rfl ?_
      refine own_iconst (n := 56) X5 hx (1 : Int32) (hb hby at_55) rfl rfl ?_
      refine own_goto (n := 60) X5 hx (hb hby at_56) (by decide) (by decide) ?_
      refine own_retN X5 hx lk hret (by simp) (hb hby at_60) (by decide) (by decide) ?_
      rw [e5]
      exact ⟨rfl, N5⟩
theorem comes_1 {Post : Tables → Env → Array Value → State → Outcome → State → Prop} (hpost : ∀ tb e args s v u, (limb_1_1.after args s (.returned v) u = true ∧ limb_1_2.after args s (.returned v) u = true ∧ True) → FrameEnd s (.returned v) u (Jvm.fieldLocs frame_1_writes args s ++ Jvm.arrayLocs frame_1_arrays args s ++ Jvm.staticLocs frame_1_statics s) 0 0 → Post tb e args s (.returned v) u) :
    ArmFor flags0 classFile x code maxLocals ret World_1 tables_1 room_1 Calls_1 rest_1 Pre_1 Post := by
  intro l hfl _ _ p e ha hc hk s m args below hf hA hF happ hP
  obtain ⟨hcalls, hrest, hpre⟩ := hP
  obtain ⟨-, -, -, hnamed, -, -, -, hat⟩ := (Spec.applies_iff hf).mp happ
  obtain ⟨hg, hn⟩ := and_e (Cond.before_iff.mp (show (Jvm.Cond.and given_1 narrow_1).before args s = true from hpre))
  obtain ⟨hcount, hg0⟩ := and_e hg
  obtain ⟨w0, rfl⟩ : ∃ w0 : Value, args = #[w0] := by
    have hs : args.size = 1 := by simpa [Cond.value, given_1] using hcount
    obtain ⟨L⟩ := args
    match L, hs with
    | [w0], _ => exact ⟨w0, rfl⟩
  have hw := fun d (hd : d ∈ tables_1) => atoms_spec (ws := Jvm.Cond.code x code maxLocals ret :: tables_1) hat d (List.mem_cons_of_mem _ hd)
  have hfit : Fit s := fun {y c} hc i hi => by
    obtain ⟨ha, rfl⟩ := Array.getElem?_eq_some_iff.mp hc
    have q := List.all_eq_true.mp ((Array.all_eq_true_iff_forall_mem.mp hF) _ (Array.getElem_mem ha)) i (List.mem_range.mpr hi)
    simpa [Array.getElem?_eq_getElem hi] using q
  obtain ⟨i0, j0⟩ := is_v hg0
  obtain rfl : w0 = (.int i0) := Option.some.inj j0
  obtain ⟨m0, t0⟩ := and_e hn
  obtain ⟨m1, t1⟩ := and_e t0
  obtain ⟨m2, t2⟩ := and_e t1
  obtain ⟨m3, t3⟩ := and_e t2
  obtain ⟨m4, t4⟩ := and_e t3
  obtain ⟨m5, t5⟩ := and_e t4
  obtain ⟨m6, t6⟩ := and_e t5
  obtain ⟨m7, t7⟩ := and_e t6
  obtain ⟨m8, t8⟩ := and_e t7
  obtain ⟨m9, t9⟩ := and_e t8
  obtain ⟨m10, t10⟩ := and_e t9
  obtain ⟨m11, t11⟩ := and_e t10
  obtain ⟨m12, t12⟩ := and_e t11
  obtain ⟨m13, t13⟩ := and_e t12
  obtain ⟨m14, t14⟩ := and_e t13
  obtain ⟨m15, t15⟩ := and_e t14
  obtain ⟨m16, t16⟩ := and_e t15
  obtain ⟨m17, t17⟩ := and_e t16
  obtain ⟨m18, t18⟩ := and_e t17
  obtain ⟨m19, t19⟩ := and_e t18
  obtain ⟨m20, t20⟩ := and_e t19
  obtain ⟨m21, t21⟩ := and_e t20
  obtain ⟨m22, t22⟩ := and_e t21
  obtain ⟨m23, t23⟩ := and_e t22
  obtain ⟨m24, t24⟩ := and_e t23
  obtain ⟨m25, t25⟩ := and_e t24
  obtain ⟨m26, t26⟩ := and_e t25
  obtain ⟨m27, t27⟩ := and_e t26
  obtain ⟨m28, t28⟩ := and_e t27
  obtain ⟨m29, t29⟩ := and_e t28
  obtain ⟨m30, t30⟩ := and_e t29
  obtain ⟨m31, t31⟩ := and_e t30
  obtain ⟨m32, t32⟩ := and_e t31
  obtain ⟨m33, t33⟩ := and_e t32
  obtain ⟨m34, t34⟩ := and_e t33
  obtain ⟨m35, t35⟩ := and_e t34
  obtain ⟨m36, t36⟩ := and_e t35
  obtain ⟨m37, t37⟩ := and_e t36
  obtain ⟨m38, t38⟩ := and_e t37
  obtain ⟨m39, t39⟩ := and_e t38
  obtain ⟨m40, t40⟩ := and_e t39
  have m41 := t40
  obtain ⟨A_CONNECTION, ev_CONNECTION⟩ := exa_v m0
  have S_CONNECTION : Sta s s.heap "com/example/idun/idun/http1/FieldName" "CONNECTION" "Lcom/example/idun/idun/http1/FieldName;" (.ref A_CONNECTION) := Sta.start ev_CONNECTION (Or.inr ⟨(hw _ (List.mem_of_getElem? (i := 6) rfl)), (hw _ (List.mem_of_getElem? (i := 7) rfl))⟩)
  have E_CONNECTION : Exa s s.heap A_CONNECTION "com/example/idun/idun/http1/FieldName" := Exa.start ev_CONNECTION m0
  obtain ⟨A_CONTENT_LENGTH, ev_CONTENT_LENGTH⟩ := exa_v m1
  have S_CONTENT_LENGTH : Sta s s.heap "com/example/idun/idun/http1/FieldName" "CONTENT_LENGTH" "Lcom/example/idun/idun/http1/FieldName;" (.ref A_CONTENT_LENGTH) := Sta.start ev_CONTENT_LENGTH (Or.inr ⟨(hw _ (List.mem_of_getElem? (i := 6) rfl)), (hw _ (List.mem_of_getElem? (i := 14) rfl))⟩)
  have E_CONTENT_LENGTH : Exa s s.heap A_CONTENT_LENGTH "com/example/idun/idun/http1/FieldName" := Exa.start ev_CONTENT_LENGTH m1
  obtain ⟨A_TRANSFER_ENCODING, ev_TRANSFER_ENCODING⟩ := exa_v m4
  have S_TRANSFER_ENCODING : Sta s s.heap "com/example/idun/idun/http1/FieldName" "TRANSFER_ENCODING" "Lcom/example/idun/idun/http1/FieldName;" (.ref A_TRANSFER_ENCODING) := Sta.start ev_TRANSFER_ENCODING (Or.inr ⟨(hw _ (List.mem_of_getElem? (i := 6) rfl)), (hw _ (List.mem_of_getElem? (i := 16) rfl))⟩)
  have E_TRANSFER_ENCODING : Exa s s.heap A_TRANSFER_ENCODING "com/example/idun/idun/http1/FieldName" := Exa.start ev_TRANSFER_ENCODING m4
  obtain ⟨A_HOST, ev_HOST⟩ := exa_v m6
  have S_HOST : Sta s s.heap "com/example/idun/idun/http1/FieldName" "HOST" "Lcom/example/idun/idun/http1/FieldName;" (.ref A_HOST) := Sta.start ev_HOST (Or.inr ⟨(hw _ (List.mem_of_getElem? (i := 6) rfl)), (hw _ (List.mem_of_getElem? (i := 18) rfl))⟩)
  have E_HOST : Exa s s.heap A_HOST "com/example/idun/idun/http1/FieldName" := Exa.start ev_HOST m6
  obtain ⟨A_TE, ev_TE⟩ := exa_v m8
  have S_TE : Sta s s.heap "com/example/idun/idun/http1/FieldName" "TE" "Lcom/example/idun/idun/http1/FieldName;" (.ref A_TE) := Sta.start ev_TE (Or.inr ⟨(hw _ (List.mem_of_getElem? (i := 6) rfl)), (hw _ (List.mem_of_getElem? (i := 20) rfl))⟩)
  have E_TE : Exa s s.heap A_TE "com/example/idun/idun/http1/FieldName" := Exa.start ev_TE m8
  obtain ⟨A_VIA, ev_VIA⟩ := exa_v m10
  have S_VIA : Sta s s.heap "com/example/idun/idun/http1/FieldName" "VIA" "Lcom/example/idun/idun/http1/FieldName;" (.ref A_VIA) := Sta.start ev_VIA (Or.inr ⟨(hw _ (List.mem_of_getElem? (i := 6) rfl)), (hw _ (List.mem_of_getElem? (i := 22) rfl))⟩)
  have E_VIA : Exa s s.heap A_VIA "com/example/idun/idun/http1/FieldName" := Exa.start ev_VIA m10
  obtain ⟨A_OTHER, ev_OTHER⟩ := exa_v m12
  have S_OTHER : Sta s s.heap "com/example/idun/idun/http1/FieldName" "OTHER" "Lcom/example/idun/idun/http1/FieldName;" (.ref A_OTHER) := Sta.start ev_OTHER (Or.inr ⟨(hw _ (List.mem_of_getElem? (i := 6) rfl)), (hw _ (List.mem_of_getElem? (i := 24) rfl))⟩)
  have E_OTHER : Exa s s.heap A_OTHER "com/example/idun/idun/http1/FieldName" := Exa.start ev_OTHER m12
  obtain ⟨A_TRAILER, ev_TRAILER⟩ := exa_v m14
  have S_TRAILER : Sta s s.heap "com/example/idun/idun/http1/FieldName" "TRAILER" "Lcom/example/idun/idun/http1/FieldName;" (.ref A_TRAILER) := Sta.start ev_TRAILER (Or.inr ⟨(hw _ (List.mem_of_getElem? (i := 6) rfl)), (hw _ (List.mem_of_getElem? (i := 26) rfl))⟩)
  have E_TRAILER : Exa s s.heap A_TRAILER "com/example/idun/idun/http1/FieldName" := Exa.start ev_TRAILER m14
  obtain ⟨A_PROXY_CONNECTION, ev_PROXY_CONNECTION⟩ := exa_v m17
  have S_PROXY_CONNECTION : Sta s s.heap "com/example/idun/idun/http1/FieldName" "PROXY_CONNECTION" "Lcom/example/idun/idun/http1/FieldName;" (.ref A_PROXY_CONNECTION) := Sta.start ev_PROXY_CONNECTION (Or.inr ⟨(hw _ (List.mem_of_getElem? (i := 6) rfl)), (hw _ (List.mem_of_getElem? (i := 36) rfl))⟩)
  have E_PROXY_CONNECTION : Exa s s.heap A_PROXY_CONNECTION "com/example/idun/idun/http1/FieldName" := Exa.start ev_PROXY_CONNECTION m17
  obtain ⟨A_X_FORWARDED_PROTO, ev_X_FORWARDED_PROTO⟩ := exa_v m19
  have S_X_FORWARDED_PROTO : Sta s s.heap "com/example/idun/idun/http1/FieldName" "X_FORWARDED_PROTO" "Lcom/example/idun/idun/http1/FieldName;" (.ref A_X_FORWARDED_PROTO) := Sta.start ev_X_FORWARDED_PROTO (Or.inr ⟨(hw _ (List.mem_of_getElem? (i := 6) rfl)), (hw _ (List.mem_of_getElem? (i := 38) rfl))⟩)
  have E_X_FORWARDED_PROTO : Exa s s.heap A_X_FORWARDED_PROTO "com/example/idun/idun/http1/FieldName" := Exa.start ev_X_FORWARDED_PROTO m19
  obtain ⟨A_X_FORWARDED_HOST, ev_X_FORWARDED_HOST⟩ := exa_v m21
  have S_X_FORWARDED_HOST : Sta s s.heap "com/example/idun/idun/http1/FieldName" "X_FORWARDED_HOST" "Lcom/example/idun/idun/http1/FieldName;" (.ref A_X_FORWARDED_HOST) := Sta.start ev_X_FORWARDED_HOST (Or.inr ⟨(hw _ (List.mem_of_getElem? (i := 6) rfl)), (hw _ (List.mem_of_getElem? (i := 40) rfl))⟩)
  have E_X_FORWARDED_HOST : Exa s s.heap A_X_FORWARDED_HOST "com/example/idun/idun/http1/FieldName" := Exa.start ev_X_FORWARDED_HOST m21
  obtain ⟨A_KEEP_ALIVE, ev_KEEP_ALIVE⟩ := exa_v m24
  have S_KEEP_ALIVE : Sta s s.heap "com/example/idun/idun/http1/FieldName" "KEEP_ALIVE" "Lcom/example/idun/idun/http1/FieldName;" (.ref A_KEEP_ALIVE) := Sta.start ev_KEEP_ALIVE (Or.inr ⟨(hw _ (List.mem_of_getElem? (i := 6) rfl)), (hw _ (List.mem_of_getElem? (i := 43) rfl))⟩)
  have E_KEEP_ALIVE : Exa s s.heap A_KEEP_ALIVE "com/example/idun/idun/http1/FieldName" := Exa.start ev_KEEP_ALIVE m24
  obtain ⟨A_X_FORWARDED_FOR, ev_X_FORWARDED_FOR⟩ := exa_v m26
  have S_X_FORWARDED_FOR : Sta s s.heap "com/example/idun/idun/http1/FieldName" "X_FORWARDED_FOR" "Lcom/example/idun/idun/http1/FieldName;" (.ref A_X_FORWARDED_FOR) := Sta.start ev_X_FORWARDED_FOR (Or.inr ⟨(hw _ (List.mem_of_getElem? (i := 6) rfl)), (hw _ (List.mem_of_getElem? (i := 45) rfl))⟩)
  have E_X_FORWARDED_FOR : Exa s s.heap A_X_FORWARDED_FOR "com/example/idun/idun/http1/FieldName" := Exa.start ev_X_FORWARDED_FOR m26
  obtain ⟨A_UPGRADE, ev_UPGRADE⟩ := exa_v m28
  have S_UPGRADE : Sta s s.heap "com/example/idun/idun/http1/FieldName" "UPGRADE" "Lcom/example/idun/idun/http1/FieldName;" (.ref A_UPGRADE) := Sta.start ev_UPGRADE (Or.inr ⟨(hw _ (List.mem_of_getElem? (i := 6) rfl)), (hw _ (List.mem_of_getElem? (i := 47) rfl))⟩)
  have E_UPGRADE : Exa s s.heap A_UPGRADE "com/example/idun/idun/http1/FieldName" := Exa.start ev_UPGRADE m28
  have O_CONNECTION_ordinal : Fld s s.heap A_CONNECTION "java/lang/Enum" "ordinal" "I" (.int (0 : Int32)) := own_fld ev_CONNECTION m2
  have O_CONTENT_LENGTH_ordinal : Fld s s.heap A_CONTENT_LENGTH "java/lang/Enum" "ordinal" "I" (.int (6 : Int32)) := own_fld ev_CONTENT_LENGTH m3
  have O_TRANSFER_ENCODING_ordinal : Fld s s.heap A_TRANSFER_ENCODING "java/lang/Enum" "ordinal" "I" (.int (7 : Int32)) := own_fld ev_TRANSFER_ENCODING m5
  have O_HOST_ordinal : Fld s s.heap A_HOST "java/lang/Enum" "ordinal" "I" (.int (8 : Int32)) := own_fld ev_HOST m7
  have O_TE_ordinal : Fld s s.heap A_TE "java/lang/Enum" "ordinal" "I" (.int (3 : Int32)) := own_fld ev_TE m9
  have O_VIA_ordinal : Fld s s.heap A_VIA "java/lang/Enum" "ordinal" "I" (.int (12 : Int32)) := own_fld ev_VIA m11
  have O_OTHER_ordinal : Fld s s.heap A_OTHER "java/lang/Enum" "ordinal" "I" (.int (13 : Int32)) := own_fld ev_OTHER m13
  have O_TRAILER_ordinal : Fld s s.heap A_TRAILER "java/lang/Enum" "ordinal" "I" (.int (4 : Int32)) := own_fld ev_TRAILER m15
  have O_TRANSFER_ENCODING_hopByHop : Fld s s.heap A_TRANSFER_ENCODING "com/example/idun/idun/http1/FieldName" "hopByHop" "Z" (.int (0 : Int32)) := own_fld ev_TRANSFER_ENCODING m16
  have O_PROXY_CONNECTION_ordinal : Fld s s.heap A_PROXY_CONNECTION "java/lang/Enum" "ordinal" "I" (.int (2 : Int32)) := own_fld ev_PROXY_CONNECTION m18
  have O_X_FORWARDED_PROTO_ordinal : Fld s s.heap A_X_FORWARDED_PROTO "java/lang/Enum" "ordinal" "I" (.int (11 : Int32)) := own_fld ev_X_FORWARDED_PROTO m20
  have O_X_FORWARDED_HOST_ordinal : Fld s s.heap A_X_FORWARDED_HOST "java/lang/Enum" "ordinal" "I" (.int (10 : Int32)) := own_fld ev_X_FORWARDED_HOST m22
  have O_HOST_hopByHop : Fld s s.heap A_HOST "com/example/idun/idun/http1/FieldName" "hopByHop" "Z" (.int (0 : Int32)) := own_fld ev_HOST m23
  have O_KEEP_ALIVE_ordinal : Fld s s.heap A_KEEP_ALIVE "java/lang/Enum" "ordinal" "I" (.int (1 : Int32)) := own_fld ev_KEEP_ALIVE m25
  have O_X_FORWARDED_FOR_ordinal : Fld s s.heap A_X_FORWARDED_FOR "java/lang/Enum" "ordinal" "I" (.int (9 : Int32)) := own_fld ev_X_FORWARDED_FOR m27
  have O_UPGRADE_ordinal : Fld s s.heap A_UPGRADE "java/lang/Enum" "ordinal" "I" (.int (5 : Int32)) := own_fld ev_UPGRADE m29
  have O_CONTENT_LENGTH_hopByHop : Fld s s.heap A_CONTENT_LENGTH "com/example/idun/idun/http1/FieldName" "hopByHop" "Z" (.int (0 : Int32)) := own_fld ev_CONTENT_LENGTH m30
  have O_CONNECTION_hopByHop : Fld s s.heap A_CONNECTION "com/example/idun/idun/http1/FieldName" "hopByHop" "Z" (.int (1 : Int32)) := own_fld ev_CONNECTION m31
  have O_TE_hopByHop : Fld s s.heap A_TE "com/example/idun/idun/http1/FieldName" "hopByHop" "Z" (.int (1 : Int32)) := own_fld ev_TE m32
  have O_VIA_hopByHop : Fld s s.heap A_VIA "com/example/idun/idun/http1/FieldName" "hopByHop" "Z" (.int (0 : Int32)) := own_fld ev_VIA m33
  have O_OTHER_hopByHop : Fld s s.heap A_OTHER "com/example/idun/idun/http1/FieldName" "hopByHop" "Z" (.int (0 : Int32)) := own_fld ev_OTHER m34
  have O_TRAILER_hopByHop : Fld s s.heap A_TRAILER "com/example/idun/idun/http1/FieldName" "hopByHop" "Z" (.int (1 : Int32)) := own_fld ev_TRAILER m35
  have O_PROXY_CONNECTION_hopByHop : Fld s s.heap A_PROXY_CONNECTION "com/example/idun/idun/http1/FieldName" "hopByHop" "Z" (.int (1 : Int32)) := own_fld ev_PROXY_CONNECTION m36
  have O_X_FORWARDED_PROTO_hopByHop : Fld s s.heap A_X_FORWARDED_PROTO "com/example/idun/idun/http1/FieldName" "hopByHop" "Z" (.int (0 : Int32)) := own_fld ev_X_FORWARDED_PROTO m37
  have O_X_FORWARDED_HOST_hopByHop : Fld s s.heap A_X_FORWARDED_HOST "com/example/idun/idun/http1/FieldName" "hopByHop" "Z" (.int (0 : Int32)) := own_fld ev_X_FORWARDED_HOST m38
  have O_KEEP_ALIVE_hopByHop : Fld s s.heap A_KEEP_ALIVE "com/example/idun/idun/http1/FieldName" "hopByHop" "Z" (.int (1 : Int32)) := own_fld ev_KEEP_ALIVE m39
  have O_X_FORWARDED_FOR_hopByHop : Fld s s.heap A_X_FORWARDED_FOR "com/example/idun/idun/http1/FieldName" "hopByHop" "Z" (.int (0 : Int32)) := own_fld ev_X_FORWARDED_FOR m40
  have O_UPGRADE_hopByHop : Fld s s.heap A_UPGRADE "com/example/idun/idun/http1/FieldName" "hopByHop" "Z" (.int (1 : Int32)) := own_fld ev_UPGRADE m41
  obtain ⟨en, hen⟩ : ∃ en : Nat → Addr, en = fun i => [A_CONNECTION, A_KEEP_ALIVE, A_PROXY_CONNECTION, A_TE, A_TRAILER, A_UPGRADE, A_CONTENT_LENGTH, A_TRANSFER_ENCODING, A_HOST, A_X_FORWARDED_FOR, A_X_FORWARDED_HOST, A_X_FORWARDED_PROTO, A_VIA, A_OTHER].getD i A_OTHER := ⟨_, rfl⟩
  have en0 : en 0 = A_CONNECTION := by rw [hen]; rfl
  have en1 : en 1 = A_KEEP_ALIVE := by rw [hen]; rfl
  have en2 : en 2 = A_PROXY_CONNECTION := by rw [hen]; rfl
  have en3 : en 3 = A_TE := by rw [hen]; rfl
  have en4 : en 4 = A_TRAILER := by rw [hen]; rfl
  have en5 : en 5 = A_UPGRADE := by rw [hen]; rfl
  have en6 : en 6 = A_CONTENT_LENGTH := by rw [hen]; rfl
  have en7 : en 7 = A_TRANSFER_ENCODING := by rw [hen]; rfl
  have en8 : en 8 = A_HOST := by rw [hen]; rfl
  have en9 : en 9 = A_X_FORWARDED_FOR := by rw [hen]; rfl
  have en10 : en 10 = A_X_FORWARDED_HOST := by rw [hen]; rfl
  have en11 : en 11 = A_X_FORWARDED_PROTO := by rw [hen]; rfl
  have en12 : en 12 = A_VIA := by rw [hen]; rfl
  have en13 : en 13 = A_OTHER := by rw [hen]; rfl
  have EX : ∀ i, i < 14 → Exa s s.heap (en i) "com/example/idun/idun/http1/FieldName" := fun i hi => match i, hi with
    | 0, _ => en0.symm ▸ E_CONNECTION
    | 1, _ => en1.symm ▸ E_KEEP_ALIVE
    | 2, _ => en2.symm ▸ E_PROXY_CONNECTION
    | 3, _ => en3.symm ▸ E_TE
    | 4, _ => en4.symm ▸ E_TRAILER
    | 5, _ => en5.symm ▸ E_UPGRADE
    | 6, _ => en6.symm ▸ E_CONTENT_LENGTH
    | 7, _ => en7.symm ▸ E_TRANSFER_ENCODING
    | 8, _ => en8.symm ▸ E_HOST
    | 9, _ => en9.symm ▸ E_X_FORWARDED_FOR
    | 10, _ => en10.symm ▸ E_X_FORWARDED_HOST
    | 11, _ => en11.symm ▸ E_X_FORWARDED_PROTO
    | 12, _ => en12.symm ▸ E_VIA
    | 13, _ => en13.symm ▸ E_OTHER
    | n + 14, h => absurd h (by omega)
  have ORD : ∀ i, i < 14 → Fld s s.heap (en i) "java/lang/Enum" "ordinal" "I" (.int i.toInt32) := fun i hi => match i, hi with
    | 0, _ => en0.symm ▸ O_CONNECTION_ordinal
    | 1, _ => en1.symm ▸ O_KEEP_ALIVE_ordinal
    | 2, _ => en2.symm ▸ O_PROXY_CONNECTION_ordinal
    | 3, _ => en3.symm ▸ O_TE_ordinal
    | 4, _ => en4.symm ▸ O_TRAILER_ordinal
    | 5, _ => en5.symm ▸ O_UPGRADE_ordinal
    | 6, _ => en6.symm ▸ O_CONTENT_LENGTH_ordinal
    | 7, _ => en7.symm ▸ O_TRANSFER_ENCODING_ordinal
    | 8, _ => en8.symm ▸ O_HOST_ordinal
    | 9, _ => en9.symm ▸ O_X_FORWARDED_FOR_ordinal
    | 10, _ => en10.symm ▸ O_X_FORWARDED_HOST_ordinal
    | 11, _ => en11.symm ▸ O_X_FORWARDED_PROTO_ordinal
    | 12, _ => en12.symm ▸ O_VIA_ordinal
    | 13, _ => en13.symm ▸ O_OTHER_ordinal
    | n + 14, h => absurd h (by omega)
  have INJ := own_inj 14 (by decide) ORD
  have Se0 : Sta s s.heap "com/example/idun/idun/http1/FieldName" "CONNECTION" "Lcom/example/idun/idun/http1/FieldName;" (.ref (en 0)) := en0.symm ▸ S_CONNECTION
  have Se1 : Sta s s.heap "com/example/idun/idun/http1/FieldName" "KEEP_ALIVE" "Lcom/example/idun/idun/http1/FieldName;" (.ref (en 1)) := en1.symm ▸ S_KEEP_ALIVE
  have Se2 : Sta s s.heap "com/example/idun/idun/http1/FieldName" "PROXY_CONNECTION" "Lcom/example/idun/idun/http1/FieldName;" (.ref (en 2)) := en2.symm ▸ S_PROXY_CONNECTION
  have Se3 : Sta s s.heap "com/example/idun/idun/http1/FieldName" "TE" "Lcom/example/idun/idun/http1/FieldName;" (.ref (en 3)) := en3.symm ▸ S_TE
  have Se4 : Sta s s.heap "com/example/idun/idun/http1/FieldName" "TRAILER" "Lcom/example/idun/idun/http1/FieldName;" (.ref (en 4)) := en4.symm ▸ S_TRAILER
  have Se5 : Sta s s.heap "com/example/idun/idun/http1/FieldName" "UPGRADE" "Lcom/example/idun/idun/http1/FieldName;" (.ref (en 5)) := en5.symm ▸ S_UPGRADE
  have Se6 : Sta s s.heap "com/example/idun/idun/http1/FieldName" "CONTENT_LENGTH" "Lcom/example/idun/idun/http1/FieldName;" (.ref (en 6)) := en6.symm ▸ S_CONTENT_LENGTH
  have Se7 : Sta s s.heap "com/example/idun/idun/http1/FieldName" "TRANSFER_ENCODING" "Lcom/example/idun/idun/http1/FieldName;" (.ref (en 7)) := en7.symm ▸ S_TRANSFER_ENCODING
  have Se8 : Sta s s.heap "com/example/idun/idun/http1/FieldName" "HOST" "Lcom/example/idun/idun/http1/FieldName;" (.ref (en 8)) := en8.symm ▸ S_HOST
  have Se9 : Sta s s.heap "com/example/idun/idun/http1/FieldName" "X_FORWARDED_FOR" "Lcom/example/idun/idun/http1/FieldName;" (.ref (en 9)) := en9.symm ▸ S_X_FORWARDED_FOR
  have Se10 : Sta s s.heap "com/example/idun/idun/http1/FieldName" "X_FORWARDED_HOST" "Lcom/example/idun/idun/http1/FieldName;" (.ref (en 10)) := en10.symm ▸ S_X_FORWARDED_HOST
  have Se11 : Sta s s.heap "com/example/idun/idun/http1/FieldName" "X_FORWARDED_PROTO" "Lcom/example/idun/idun/http1/FieldName;" (.ref (en 11)) := en11.symm ▸ S_X_FORWARDED_PROTO
  have Se12 : Sta s s.heap "com/example/idun/idun/http1/FieldName" "VIA" "Lcom/example/idun/idun/http1/FieldName;" (.ref (en 12)) := en12.symm ▸ S_VIA
  have Se13 : Sta s s.heap "com/example/idun/idun/http1/FieldName" "OTHER" "Lcom/example/idun/idun/http1/FieldName;" (.ref (en 13)) := en13.symm ▸ S_OTHER
  have HOP : ∀ i, i = 6 ∨ i = 7 ∨ i = 8 → Fld s s.heap (en i) "com/example/idun/idun/http1/FieldName" "hopByHop" "Z" (.int 0) := fun i hi => by
    rcases hi with rfl | rfl | rfl
    · exact en6.symm ▸ O_CONTENT_LENGTH_hopByHop
    · exact en7.symm ▸ O_TRANSFER_ENCODING_hopByHop
    · exact en8.symm ▸ O_HOST_hopByHop
  obtain ⟨n, o, h1, h2, h3, _, L, rfl, ⟨rfl, N⟩, hq⟩ := rm0 l s _ hw tables_1 i0 en s.heap s.heap.size (Nat.le_refl _) Se0 Se1 Se2 Se3 Se4 Se5 Se6 Se7 Se8 Se9 Se10 Se11 Se12 Se13 EX INJ HOP p e ha hc hk s m _ below hf ((Spec.applies_iff_loose hf).mp happ).1 ⟨rfl, State.Warmed39.refl s, rfl⟩ trivial
  refine ⟨n, _, h1, h2, h3, hpost _ _ _ _ _ _ ⟨Cond.after_iff.mpr rfl, Cond.after_iff.mpr (eq_i res_at (Term.int_eval (1)) rfl), trivial⟩ ⟨hq.1, hq.2.1, (hq.2.2.sift fun y hy => Or.inr (N y hy)).mono (by decide) (by decide)⟩⟩
theorem main_1_1 : Claimed_1_1 := comes_1 fun _ _ _ _ _ _ h hF => ⟨h.1, hF⟩
theorem main_1_2 : Claimed_1_2 := comes_1 fun _ _ _ _ _ _ h hF => ⟨h.2.1, hF⟩
end Jvm.Pilot.@@N@@
namespace Jvm.Pilot.@@N@@
open Jvm Jvm.ClassFile Sem Op Lib Jvm.Free Jvm.Stand Jvm.Pilot.@@N@@.Jvm.D
/-! MADE BY PROGRAM (witnessworld.py) out of the Statement's table words and the real class files: 12 classes; the members and pool entries that the words name. The judged class is class 1, her method 2. -/
namespace start1
open Jvm.ClassFile
def u (s : String) : CpInfo := .utf8 (stringToUtf16 s)
/-- a pool by its gaps: so many unusable entries, then the entry; so many at the end -/
def gap : Nat → List CpInfo → List CpInfo
  | 0, r => r
  | n + 1, r => .unusable :: gap n r
def poolList (es : List (Nat × CpInfo)) (last : Nat) : List CpInfo := es.foldr (fun e r => gap e.1 (e.2 :: r)) (gap last [])
def pool (es : List (Nat × CpInfo)) (last : Nat) : Array CpInfo := ⟨poolList es last⟩
def fileOf (pool : Array CpInfo) (this : Nat) (attrs : Array Attribute := #[]) (ms : Array MethodInfo := #[]) (fl : Nat := 33) (sup : Nat := 0) (ifs : Array Nat := #[]) (fds : Array FieldInfo := #[]) : ClassFile where
  minorVersion := 0
  majorVersion := 65
  constantPool := pool
  accessFlags := fl
  thisClass := this
  superClass := sup
  interfaces := ifs
  fields := fds
  methods := ms
  attributes := attrs
def plain (name : String) (sup : Option ClassId) : Class where
  name := name
  kind := .ordinary
  loader := none
  accessFlags := 33
  super := sup
  interfaces := #[]
  cf := none
  fields := #[]
  methods := #[]
  instanceTypes := #[]
  staticTypes := #[]
  resolved := #[]
  callSites := []
  init := .initialized
  statics := none
  mirror := none

def pool0 : Array CpInfo := pool [(5, u "<init>"), (0, u "()V"), (1, .class_ 10), (1, u "java/lang/Object")] 113

def k0m0 : Method := { name := "<init>", desc := "()V", sig := { parameters := [], returnType := none }, accessFlags := 1, code := none }
/-- java/lang/Object -/
def k0 : Class := { plain "java/lang/Object" none with
  accessFlags := 33
  interfaces := #[]
  cf := some (fileOf pool0 8 #[] #[{ accessFlags := 1, nameIndex := 5, descriptorIndex := 6, attributes := #[] }] 33 0 #[] #[])
  fields := #[]
  methods := #[k0m0]
  instanceTypes := #[]
  staticTypes := #[]
  resolved := Array.replicate 124 none
  statics := none }

def pool1 : Array CpInfo := pool [(2, .class_ 4), (1, u "java/lang/Object"), (0, u "<init>"), (0, u "()V"), (0, .fieldref 8 9), (0, .class_ 10), (0, .nameAndType 11 12), (0, u "com/example/idun/idun/http1/FieldName"), (0, u "CONNECTION"), (0, u "Lcom/example/idun/idun/http1/FieldName;"), (0, .fieldref 8 14), (0, .nameAndType 15 12), (0, u "KEEP_ALIVE"), (0, .fieldref 8 17), (0, .nameAndType 18 12), (0, u "PROXY_CONNECTION"), (0, .fieldref 8 20), (0, .nameAndType 21 12), (0, u "TE"), (0, .fieldref 8 23), (0, .nameAndType 24 12), (0, u "TRAILER"), (0, .fieldref 8 26), (0, .nameAndType 27 12), (0, u "UPGRADE"), (0, .fieldref 8 29), (0, .nameAndType 30 12), (0, u "CONTENT_LENGTH"), (0, .fieldref 8 32), (0, .nameAndType 33 12), (0, u "TRANSFER_ENCODING"), (0, .fieldref 8 35), (0, .nameAndType 36 12), (0, u "HOST"), (0, .fieldref 8 38), (0, .nameAndType 39 12), (0, u "X_FORWARDED_FOR"), (0, .fieldref 8 41), (0, .nameAndType 42 12), (0, u "X_FORWARDED_HOST"), (0, .fieldref 8 44), (0, .nameAndType 45 12), (0, u "X_FORWARDED_PROTO"), (0, .fieldref 8 47), (0, .nameAndType 48 12), (0, u "VIA"), (0, .fieldref 8 50), (0, .nameAndType 51 12), (0, u "OTHER"), (0, .integer 2147483647), (0, .methodref 54 55), (0, .class_ 56), (0, .nameAndType 57 58), (0, u "com/example/idun/idun/http1/FieldNameFramingPinLaw"), (0, u "pick"), (0, u "(I)Lcom/example/idun/idun/http1/FieldName;"), (0, .methodref 8 60), (0, .nameAndType 61 62), (0, u "framing"), (0, u "()Z"), (0, .methodref 8 64), (0, .nameAndType 65 62), (0, u "hopByHop"), (3, u "law"), (0, u "(I)Z")] 2

def k1m0 : Method := { name := "<init>", desc := "()V", sig := { parameters := [], returnType := none }, accessFlags := 2, code := none }
def k1c1 : Code := { maxStack := 2, maxLocals := 1, code := method_2_code, exceptionTable := #[], attributes := #[] }
def k1m1 : Method := { name := "pick", desc := "(I)Lcom/example/idun/idun/http1/FieldName;", sig := { parameters := [.int], returnType := some (.object "com/example/idun/idun/http1/FieldName") }, accessFlags := 10, code := some k1c1 }
def k1c2 : Code := { maxStack := 2, maxLocals := 5, code := code, exceptionTable := #[], attributes := #[] }
def k1m2 : Method := { name := "law", desc := "(I)Z", sig := { parameters := [.int], returnType := some .boolean }, accessFlags := 9, code := some k1c2 }
/-- com/example/idun/idun/http1/FieldNameFramingPinLaw -/
def k1 : Class := { plain "com/example/idun/idun/http1/FieldNameFramingPinLaw" (some 0) with
  accessFlags := 49
  interfaces := #[]
  cf := some (fileOf pool1 54 #[] #[{ accessFlags := 2, nameIndex := 5, descriptorIndex := 6, attributes := #[] }, { accessFlags := 10, nameIndex := 57, descriptorIndex := 58, attributes := #[] }, { accessFlags := 9, nameIndex := 69, descriptorIndex := 70, attributes := #[] }] 49 2 #[] #[])
  fields := #[]
  methods := #[k1m0, k1m1, k1m2]
  instanceTypes := #[]
  staticTypes := #[]
  resolved := Array.replicate 73 none
  statics := none }

def pool2 : Array CpInfo := pool [(1, .class_ 2), (0, u "java/lang/constant/Constable"), (0, .class_ 4), (0, u "java/lang/Object")] 6

/-- java/lang/constant/Constable -/
def k2 : Class := { plain "java/lang/constant/Constable" (some 0) with
  accessFlags := 1537
  interfaces := #[]
  cf := some (fileOf pool2 1 #[] #[] 1537 3 #[] #[])
  fields := #[]
  methods := #[]
  instanceTypes := #[]
  staticTypes := #[]
  resolved := Array.replicate 11 none
  statics := none }

def pool3 : Array CpInfo := pool [(1, .class_ 2), (0, u "java/lang/Comparable"), (0, .class_ 4), (0, u "java/lang/Object")] 7

/-- java/lang/Comparable -/
def k3 : Class := { plain "java/lang/Comparable" (some 0) with
  accessFlags := 1537
  interfaces := #[]
  cf := some (fileOf pool3 1 #[] #[] 1537 3 #[] #[])
  fields := #[]
  methods := #[]
  instanceTypes := #[]
  staticTypes := #[]
  resolved := Array.replicate 12 none
  statics := none }

def pool4 : Array CpInfo := pool [(1, .class_ 2), (0, u "java/io/Serializable"), (0, .class_ 4), (0, u "java/lang/Object")] 2

/-- java/io/Serializable -/
def k4 : Class := { plain "java/io/Serializable" (some 0) with
  accessFlags := 1537
  interfaces := #[]
  cf := some (fileOf pool4 1 #[] #[] 1537 3 #[] #[])
  fields := #[]
  methods := #[]
  instanceTypes := #[]
  staticTypes := #[]
  resolved := Array.replicate 7 none
  statics := none }

def pool5 : Array CpInfo := pool [(2, .class_ 4), (1, u "java/lang/Enum"), (0, u "name"), (0, u "Ljava/lang/String;"), (2, u "ordinal"), (0, u "I"), (1, .class_ 14), (1, u "java/lang/Object"), (4, u "hash"), (86, .class_ 108), (1, u "java/lang/Enum$EnumDesc"), (2, .class_ 112), (0, u "java/lang/constant/Constable"), (0, .class_ 114), (0, u "java/lang/Comparable"), (0, .class_ 116), (0, u "java/io/Serializable")] 87

/-- java/lang/Enum -/
def k5 : Class := { plain "java/lang/Enum" (some 0) with
  accessFlags := 1057
  interfaces := #[2, 3, 4]
  cf := some (fileOf pool5 2 #[.nestMembers #[106]] #[] 1057 12 #[111, 113, 115] #[{ accessFlags := 18, nameIndex := 5, descriptorIndex := 6, attributes := #[] }, { accessFlags := 18, nameIndex := 9, descriptorIndex := 10, attributes := #[] }, { accessFlags := 2, nameIndex := 19, descriptorIndex := 10, attributes := #[] }])
  fields := #[{ name := "name", type := (.object "java/lang/String"), accessFlags := 18, slot := 0, constantValue := 0 }, { name := "ordinal", type := .int, accessFlags := 18, slot := 1, constantValue := 0 }, { name := "hash", type := .int, accessFlags := 2, slot := 2, constantValue := 0 }]
  methods := #[]
  instanceTypes := #[(.object "java/lang/String"), .int, .int]
  staticTypes := #[]
  resolved := Array.replicate 204 none
  statics := none }

def pool6 : Array CpInfo := pool [(1, .class_ 2), (0, u "com/example/idun/idun/http1/FieldName"), (2, u "CONNECTION"), (0, u "Lcom/example/idun/idun/http1/FieldName;"), (2, u "KEEP_ALIVE"), (2, u "PROXY_CONNECTION"), (2, u "TE"), (2, u "TRAILER"), (2, u "UPGRADE"), (0, .fieldref 1 23), (0, .nameAndType 24 6), (0, u "CONTENT_LENGTH"), (0, .fieldref 1 26), (0, .nameAndType 27 6), (0, u "TRANSFER_ENCODING"), (0, .fieldref 1 29), (0, .nameAndType 30 6), (0, u "HOST"), (2, u "X_FORWARDED_FOR"), (2, u "X_FORWARDED_HOST"), (2, u "X_FORWARDED_PROTO"), (2, u "VIA"), (2, u "OTHER"), (2, u "$VALUES"), (0, u "[Lcom/example/idun/idun/http1/FieldName;"), (6, .class_ 58), (1, u "java/lang/Enum"), (20, u "lower"), (0, u "[B"), (0, .fieldref 1 82), (0, .nameAndType 83 84), (0, u "hopByHop"), (0, u "Z"), (2, u "NAMED"), (70, u "()Z"), (0, u "framing")] 8

def k6c0 : Code := { maxStack := 1, maxLocals := 1, code := prog_24_method_5_code, exceptionTable := #[], attributes := #[] }
def k6m0 : Method := { name := "hopByHop", desc := "()Z", sig := { parameters := [], returnType := some .boolean }, accessFlags := 0, code := some k6c0 }
def k6c1 : Code := { maxStack := 2, maxLocals := 1, code := prog_24_method_6_code, exceptionTable := #[], attributes := #[] }
def k6m1 : Method := { name := "framing", desc := "()Z", sig := { parameters := [], returnType := some .boolean }, accessFlags := 0, code := some k6c1 }
/-- com/example/idun/idun/http1/FieldName -/
def k6 : Class := { plain "com/example/idun/idun/http1/FieldName" (some 5) with
  accessFlags := 16432
  interfaces := #[]
  cf := some (fileOf pool6 1 #[] #[{ accessFlags := 0, nameIndex := 83, descriptorIndex := 158, attributes := #[] }, { accessFlags := 0, nameIndex := 159, descriptorIndex := 158, attributes := #[] }] 16432 56 #[] #[{ accessFlags := 16409, nameIndex := 5, descriptorIndex := 6, attributes := #[] }, { accessFlags := 16409, nameIndex := 9, descriptorIndex := 6, attributes := #[] }, { accessFlags := 16409, nameIndex := 12, descriptorIndex := 6, attributes := #[] }, { accessFlags := 16409, nameIndex := 15, descriptorIndex := 6, attributes := #[] }, { accessFlags := 16409, nameIndex := 18, descriptorIndex := 6, attributes := #[] }, { accessFlags := 16409, nameIndex := 21, descriptorIndex := 6, attributes := #[] }, { accessFlags := 16409, nameIndex := 24, descriptorIndex := 6, attributes := #[] }, { accessFlags := 16409, nameIndex := 27, descriptorIndex := 6, attributes := #[] }, { accessFlags := 16409, nameIndex := 30, descriptorIndex := 6, attributes := #[] }, { accessFlags := 16409, nameIndex := 33, descriptorIndex := 6, attributes := #[] }, { accessFlags := 16409, nameIndex := 36, descriptorIndex := 6, attributes := #[] }, { accessFlags := 16409, nameIndex := 39, descriptorIndex := 6, attributes := #[] }, { accessFlags := 16409, nameIndex := 42, descriptorIndex := 6, attributes := #[] }, { accessFlags := 16409, nameIndex := 45, descriptorIndex := 6, attributes := #[] }, { accessFlags := 26, nameIndex := 87, descriptorIndex := 49, attributes := #[] }, { accessFlags := 18, nameIndex := 79, descriptorIndex := 80, attributes := #[] }, { accessFlags := 18, nameIndex := 83, descriptorIndex := 84, attributes := #[] }, { accessFlags := 4122, nameIndex := 48, descriptorIndex := 49, attributes := #[] }])
  fields := #[{ name := "CONNECTION", type := (.object "com/example/idun/idun/http1/FieldName"), accessFlags := 16409, slot := 0, constantValue := 0 }, { name := "KEEP_ALIVE", type := (.object "com/example/idun/idun/http1/FieldName"), accessFlags := 16409, slot := 1, constantValue := 0 }, { name := "PROXY_CONNECTION", type := (.object "com/example/idun/idun/http1/FieldName"), accessFlags := 16409, slot := 2, constantValue := 0 }, { name := "TE", type := (.object "com/example/idun/idun/http1/FieldName"), accessFlags := 16409, slot := 3, constantValue := 0 }, { name := "TRAILER", type := (.object "com/example/idun/idun/http1/FieldName"), accessFlags := 16409, slot := 4, constantValue := 0 }, { name := "UPGRADE", type := (.object "com/example/idun/idun/http1/FieldName"), accessFlags := 16409, slot := 5, constantValue := 0 }, { name := "CONTENT_LENGTH", type := (.object "com/example/idun/idun/http1/FieldName"), accessFlags := 16409, slot := 6, constantValue := 0 }, { name := "TRANSFER_ENCODING", type := (.object "com/example/idun/idun/http1/FieldName"), accessFlags := 16409, slot := 7, constantValue := 0 }, { name := "HOST", type := (.object "com/example/idun/idun/http1/FieldName"), accessFlags := 16409, slot := 8, constantValue := 0 }, { name := "X_FORWARDED_FOR", type := (.object "com/example/idun/idun/http1/FieldName"), accessFlags := 16409, slot := 9, constantValue := 0 }, { name := "X_FORWARDED_HOST", type := (.object "com/example/idun/idun/http1/FieldName"), accessFlags := 16409, slot := 10, constantValue := 0 }, { name := "X_FORWARDED_PROTO", type := (.object "com/example/idun/idun/http1/FieldName"), accessFlags := 16409, slot := 11, constantValue := 0 }, { name := "VIA", type := (.object "com/example/idun/idun/http1/FieldName"), accessFlags := 16409, slot := 12, constantValue := 0 }, { name := "OTHER", type := (.object "com/example/idun/idun/http1/FieldName"), accessFlags := 16409, slot := 13, constantValue := 0 }, { name := "NAMED", type := (.array (.object "com/example/idun/idun/http1/FieldName")), accessFlags := 26, slot := 14, constantValue := 0 }, { name := "lower", type := (.array .byte), accessFlags := 18, slot := 3, constantValue := 0 }, { name := "hopByHop", type := .boolean, accessFlags := 18, slot := 4, constantValue := 0 }, { name := "$VALUES", type := (.array (.object "com/example/idun/idun/http1/FieldName")), accessFlags := 4122, slot := 15, constantValue := 0 }]
  methods := #[k6m0, k6m1]
  instanceTypes := #[(.object "java/lang/String"), .int, .int, (.array .byte), .boolean]
  staticTypes := #[(.object "com/example/idun/idun/http1/FieldName"), (.object "com/example/idun/idun/http1/FieldName"), (.object "com/example/idun/idun/http1/FieldName"), (.object "com/example/idun/idun/http1/FieldName"), (.object "com/example/idun/idun/http1/FieldName"), (.object "com/example/idun/idun/http1/FieldName"), (.object "com/example/idun/idun/http1/FieldName"), (.object "com/example/idun/idun/http1/FieldName"), (.object "com/example/idun/idun/http1/FieldName"), (.object "com/example/idun/idun/http1/FieldName"), (.object "com/example/idun/idun/http1/FieldName"), (.object "com/example/idun/idun/http1/FieldName"), (.object "com/example/idun/idun/http1/FieldName"), (.object "com/example/idun/idun/http1/FieldName"), (.array (.object "com/example/idun/idun/http1/FieldName")), (.array (.object "com/example/idun/idun/http1/FieldName"))]
  resolved := Array.replicate 168 none
  statics := some 0 }

def pool7 : Array CpInfo := pool [(1, u "java/lang/Cloneable"), (0, .class_ 1), (0, u "java/lang/Object"), (0, .class_ 3)] 3

/-- java/lang/Cloneable -/
def k7 : Class := { plain "java/lang/Cloneable" (some 0) with
  accessFlags := 1537
  interfaces := #[]
  cf := some (fileOf pool7 2 #[] #[] 1537 4 #[] #[])
  fields := #[]
  methods := #[]
  instanceTypes := #[]
  staticTypes := #[]
  resolved := Array.replicate 8 none
  statics := none }

/-- the primitive byte -/
def k8 : Class := { plain "byte" none with kind := .primitive 'B', accessFlags := 0x411 }
/-- [B -/
def k9 : Class := { plain "[B" (some 0) with kind := .array 8 .byte, interfaces := #[7, 4], accessFlags := 1041 }

/-- the primitive int -/
def k10 : Class := { plain "int" none with kind := .primitive 'I', accessFlags := 0x411 }
/-- [I -/
def k11 : Class := { plain "[I" (some 0) with kind := .array 10 .int, interfaces := #[7, 4], accessFlags := 1041 }

def heap : Heap := #[{ cls := 6, slots := #[.ref 1, .ref 2, .ref 3, .ref 4, .ref 5, .ref 6, .ref 7, .ref 8, .ref 9, .ref 10, .ref 11, .ref 12, .ref 13, .ref 14, .null, .null], vm := .statics 6 },
  { cls := 6, slots := #[.null, .int 0, .int 0, .null, .int 1], vm := .none },
  { cls := 6, slots := #[.null, .int 1, .int 0, .null, .int 1], vm := .none },
  { cls := 6, slots := #[.null, .int 2, .int 0, .null, .int 1], vm := .none },
  { cls := 6, slots := #[.null, .int 3, .int 0, .null, .int 1], vm := .none },
  { cls := 6, slots := #[.null, .int 4, .int 0, .null, .int 1], vm := .none },
  { cls := 6, slots := #[.null, .int 5, .int 0, .null, .int 1], vm := .none },
  { cls := 6, slots := #[.null, .int 6, .int 0, .null, .int 0], vm := .none },
  { cls := 6, slots := #[.null, .int 7, .int 0, .null, .int 0], vm := .none },
  { cls := 6, slots := #[.null, .int 8, .int 0, .null, .int 0], vm := .none },
  { cls := 6, slots := #[.null, .int 9, .int 0, .null, .int 0], vm := .none },
  { cls := 6, slots := #[.null, .int 10, .int 0, .null, .int 0], vm := .none },
  { cls := 6, slots := #[.null, .int 11, .int 0, .null, .int 0], vm := .none },
  { cls := 6, slots := #[.null, .int 12, .int 0, .null, .int 0], vm := .none },
  { cls := 6, slots := #[.null, .int 13, .int 0, .null, .int 0], vm := .none }]
def classes : Array Class := #[k0, k1, k2, k3, k4, k5, k6, k7, k8, k9, k10, k11]
def interned : List (Array UInt16 × Addr) := []
def slotsUsed : Nat := 86
def theMethod : MethodId := ⟨1, 2⟩
def args0 : Array Value := #[.int 5]
def aboutOver (below : List Frame) : State where
  vm := { classes := classes, interned := interned.toArray }
  heap := heap
  slotsUsed := slotsUsed
  threads := #[{ frames := .invoking theMethod args0 :: below }]
def below0 : List Frame := [.native { method := ⟨0, 0⟩, args := #[] }]
def about1 : State := aboutOver below0
def p0 : Program := .bare "" "" ""
def e0 : Env := launch0.env 0 0 0
theorem w_frames : about1.frames = Frame.invoking theMethod args0 :: below0 := rfl
set_option maxRecDepth 65536 in
theorem w_args : argsFit about1.vm theMethod args0 = true := by decide +kernel
set_option maxRecDepth 65536 in
theorem w_heap : heapFits about1 = true := by decide +kernel
set_option maxRecDepth 65536 in
theorem w_runnable : about1.curStatus? = some .runnable := by decide +kernel
set_option maxRecDepth 65536 in
theorem w_alone : about1.alone = true := by decide +kernel
set_option maxRecDepth 65536 in
theorem w_named : about1.methodNamed? x = some theMethod := by decide +kernel
set_option maxRecDepth 65536 in
theorem w_hears : about1.hears theMethod below0 = true := by decide +kernel
set_option maxRecDepth 65536 in
theorem w_ripe : about1.ripe theMethod args0 below0 = true := by decide +kernel
theorem w_running : about1.status = .running := rfl
set_option maxRecDepth 65536 in
theorem w_room : about1.hasRoom e0.platform room_1 = true :=
  launch0.hasRoom_least _ room_1 (by decide +kernel) (by decide +kernel) (by decide +kernel) (by decide +kernel) (by decide +kernel) (by decide +kernel)
theorem allAtoms_all (ts : List Jvm.Cond) (a : Array Jvm.Value) (st : Jvm.State) : (allAtoms ts).before a st = ts.all (fun c => c.before a st) := by
  induction ts with
  | nil => rfl
  | cons c t ih =>
    show (Jvm.Cond.and c (allAtoms t)).before a st = _
    rw [Jvm.Cond.before_and, ih, List.all_cons]
def words1 : List Jvm.Cond := Jvm.Cond.code x code maxLocals ret :: tables_1
/-- a 'code' word, met by the world's own term for the bytes: nothing is compared byte by byte -/
theorem code_word {y : MethodName} {bytes : ByteArray} {mx : Nat} {rt : Option FieldType} {a : Array Value} {s : State} {m : MethodId} {meth : Method} {c : Code} (h1 : s.methodNamed? y = some m) (h2 : s.vm.method? m = some meth) (h3 : meth.code = some c) (h4 : c.code = bytes)
    (h5 : (c.maxLocals == mx && c.exceptionTable.isEmpty && decide (c.maxStack ≤ mostOperands) && decide (meth.sig.returnType = rt) && !meth.locks && decide (parseMethodDescriptor y.desc = some meth.sig)) = true) : (Jvm.Cond.code y bytes mx rt).before a s = true := by
  simp only [Bool.and_eq_true, beq_iff_eq, Bool.not_eq_true', decide_eq_true_eq] at h5
  obtain ⟨⟨⟨⟨⟨g1, g2⟩, g3⟩, g4⟩, g5⟩, g6⟩ := h5
  simp [Cond.before, Cond.holds, Cond.value, h1, h2, h3, h4, g1, g2, g3, g4, g5, g6]
def isCode : Jvm.Cond → Bool
  | .code _ _ _ _ => true
  | _ => false
theorem all_split {L : List Jvm.Cond} {P : Jvm.Cond → Bool} (h1 : L.all (fun c => isCode c || P c) = true) (h2 : ∀ c ∈ L.filter isCode, P c = true) : L.all P = true := by
  refine List.all_eq_true.mpr fun c hc => ?_
  have h := List.all_eq_true.mp h1 c hc
  rcases Bool.eq_false_or_eq_true (isCode c) with hi | hi
  · exact h2 c (List.mem_filter.mpr ⟨hc, hi⟩)
  · simpa [hi] using h
set_option maxRecDepth 65536 in
theorem w_c0 : (Jvm.Cond.code x code maxLocals ret).before args0 about1 = true := code_word (m := ⟨1, 2⟩) (meth := k1m2) (c := k1c2) (by decide +kernel) rfl rfl rfl (by decide +kernel)
set_option maxRecDepth 65536 in
theorem w_c1 : (Jvm.Cond.code ({ cls := "com/example/idun/idun/http1/FieldNameFramingPinLaw", name := "pick", desc := "(I)Lcom/example/idun/idun/http1/FieldName;" } : Jvm.MethodName) method_2_code (1 : Nat) (Option.some (Jvm.ClassFile.FieldType.object "com/example/idun/idun/http1/FieldName"))).before args0 about1 = true := code_word (m := ⟨1, 1⟩) (meth := k1m1) (c := k1c1) (by decide +kernel) rfl rfl rfl (by decide +kernel)
set_option maxRecDepth 65536 in
theorem w_c2 : (Jvm.Cond.code ({ cls := "com/example/idun/idun/http1/FieldName", name := "framing", desc := "()Z" } : Jvm.MethodName) prog_24_method_6_code (1 : Nat) (Option.some Jvm.ClassFile.FieldType.boolean)).before args0 about1 = true := code_word (m := ⟨6, 1⟩) (meth := k6m1) (c := k6c1) (by decide +kernel) rfl rfl rfl (by decide +kernel)
set_option maxRecDepth 65536 in
theorem w_c3 : (Jvm.Cond.code ({ cls := "com/example/idun/idun/http1/FieldName", name := "hopByHop", desc := "()Z" } : Jvm.MethodName) prog_24_method_5_code (1 : Nat) (Option.some Jvm.ClassFile.FieldType.boolean)).before args0 about1 = true := code_word (m := ⟨6, 0⟩) (meth := k6m0) (c := k6c0) (by decide +kernel) rfl rfl rfl (by decide +kernel)
def codes1 : List Jvm.Cond := [Jvm.Cond.code x code maxLocals ret, Jvm.Cond.code ({ cls := "com/example/idun/idun/http1/FieldNameFramingPinLaw", name := "pick", desc := "(I)Lcom/example/idun/idun/http1/FieldName;" } : Jvm.MethodName) method_2_code (1 : Nat) (Option.some (Jvm.ClassFile.FieldType.object "com/example/idun/idun/http1/FieldName")), Jvm.Cond.code ({ cls := "com/example/idun/idun/http1/FieldName", name := "framing", desc := "()Z" } : Jvm.MethodName) prog_24_method_6_code (1 : Nat) (Option.some Jvm.ClassFile.FieldType.boolean), Jvm.Cond.code ({ cls := "com/example/idun/idun/http1/FieldName", name := "hopByHop", desc := "()Z" } : Jvm.MethodName) prog_24_method_5_code (1 : Nat) (Option.some Jvm.ClassFile.FieldType.boolean)]
set_option maxRecDepth 65536 in
theorem codes_eq : words1.filter isCode = codes1 := rfl
theorem w_codes : ∀ c ∈ words1.filter isCode, c.before args0 about1 = true := by
  rw [codes_eq]
  intro c hc
  simp only [codes1, List.mem_cons, List.not_mem_nil, or_false] at hc
  rcases hc with rfl | rfl | rfl | rfl
  · exact w_c0
  · exact w_c1
  · exact w_c2
  · exact w_c3
set_option maxRecDepth 65536 in
theorem w_t1 : (words1.take 24).all (fun c => isCode c || c.before args0 about1) = true := by decide +kernel
set_option maxRecDepth 65536 in
theorem w_t2 : ((words1.drop 24).take 24).all (fun c => isCode c || c.before args0 about1) = true := by decide +kernel
set_option maxRecDepth 65536 in
theorem w_t3 : ((words1.drop 24).drop 24).all (fun c => isCode c || c.before args0 about1) = true := by decide +kernel
theorem w_tables : (allAtoms (Jvm.Cond.code x code maxLocals ret :: tables_1)).before args0 about1 = true := by
  rw [allAtoms_all]
  show words1.all (fun c => c.before args0 about1) = true
  refine all_split ?_ w_codes
  rw [← List.take_append_drop 24 words1, List.all_append, w_t1, ← List.take_append_drop 24 (words1.drop 24), List.all_append, w_t2, w_t3]
  rfl
set_option maxRecDepth 65536 in
theorem w_case : (Jvm.Cond.and given_1 narrow_1).before args0 about1 = true := by decide +kernel
theorem w_applies : (headSpec (Jvm.Cond.code x code maxLocals ret :: tables_1) room_1).applies x e0.platform about1 = true :=
  (Spec.applies_iff w_frames).mpr ⟨w_running, w_runnable, w_alone, w_named, w_hears, w_ripe, w_room, w_tables⟩
theorem atStart : AtStart classFile x code maxLocals ret World_1 tables_1 room_1 Calls_1 rest_1 Pre_1 launch0 p0 e0 about1 theMethod args0 below0 :=
  ⟨lists_1, trivial, launch0.admits_env _ _ _, launch0.least_env, fairChoices_fair.cas, fairChoices_fair.clock, w_frames, w_args, w_heap, w_applies, trivial, trivial, w_case⟩
end start1
theorem witness_1 : WitnessClaimed_1 := ⟨start1.p0, start1.e0, start1.about1, start1.theMethod, start1.args0, start1.below0, start1.atStart⟩
end Jvm.Pilot.@@N@@
