import JvmDerived
import JvmDerived.Pilot.@@N@@Statement
import JvmDerived.Pilot.@@N@@Code
set_option linter.unusedVariables false
set_option linter.unusedSimpArgs false
set_option maxRecDepth 65536
set_option maxHeartbeats 4000000
namespace Jvm.Pilot.@@N@@
open Jvm Jvm.ClassFile Sem Op Lib Jvm.Free Jvm.Stand Jvm.LawKit Jvm.RoadKit Bundle Jvm.Pilot.@@N@@.Jvm.D
section Own
variable {p : Program} {l : Launch} {e : Env} {R : Room} {s : State} {m : MethodId} {args : Array Value} {below : List Frame} {meth : Method} {c : Code} {T : State} {locs : List Loc} {cells slots : Nat} {K J : Nat} {Q : Option Value → Heap → List Loc → Prop} {Z : State} {a0 : Array Value} {h : Heap}
/-- from U the run comes to its end, and what it leaves is Q's -/
def Ends (p : Program) (e : Env) (below : List Frame) (s : State) (K J : Nat) (Q : Option Value → Heap → List Loc → Prop) (U : State) : Prop :=
  ∃ s₂ o, Steps p.tables e below U s₂ ∧ s₂.status = .running ∧ Ended s₂ below o ∧ ∃ v L, o = .returned v ∧ Q v s₂.heap L ∧ FrameEnd s o s₂ L K J
theorem Ends.via {A B : State} (h : ∀ t, Steps p.tables e below A t → Steps p.tables e below B t) (k : Ends p e below s K J Q A) : Ends p e below s K J Q B := by
  obtain ⟨s2, o, h1, h2⟩ := k
  exact ⟨s2, o, h _ h1, h2⟩
theorem Ends.tr {A B : State} (h : Steps p.tables e below B A) (k : Ends p e below s K J Q A) : Ends p e below s K J Q B := by
  obtain ⟨s2, o, h1, h2⟩ := k
  exact ⟨s2, o, h.trans h1, h2⟩
theorem Ends.cast {g g' : JFrame} (q : g = g') (k : Ends p e below s K J Q (T.setTop g')) : Ends p e below s K J Q (T.setTop g) := q ▸ k
theorem own_iand (X : Stand p l e R s m args below meth c T locs cells slots) (hx : p.tables.exec = Jvm.exec) {pc n : Nat} {Ls : Array Slot} {st : List Value} {x y : Int32} (hd : decode c.code pc = .ok (.iand, 1))  (hn : pc + 1 = n) (k : Ends p e below s K J Q (T.setTop (mkF m n Ls (.int (x &&& y) :: st)))) : Ends p e below s K J Q (T.setTop (mkF m pc Ls (.int y :: .int x :: st))) := by
  subst hn
  exact Ends.via (fun t h => XS.iand X.here hx rfl hd rfl h) k
theorem own_iconst (X : Stand p l e R s m args below meth c T locs cells slots) (hx : p.tables.exec = Jvm.exec) {pc n : Nat} {Ls : Array Slot} {st : List Value} {i : Int} (v : Int32) (hd : decode c.code pc = .ok (.iconst i, 1)) (hv : Int32.ofInt i = v) (hn : pc + 1 = n) (k : Ends p e below s K J Q (T.setTop (mkF m n Ls (.int v :: st)))) : Ends p e below s K J Q (T.setTop (mkF m pc Ls st)) := by
  subst hn hv
  exact Ends.via (fun t h => XS.iconst X.here hx rfl hd h) k
theorem own_iload (X : Stand p l e R s m args below meth c T locs cells slots) (hx : p.tables.exec = Jvm.exec) {pc n : Nat} {Ls : Array Slot} {st : List Value} {i : Nat} {v : Int32} (hd : decode c.code pc = .ok (.iload i, 2)) (hl : Ls[i]? = some (.val (.int v))) (hn : pc + 2 = n) (k : Ends p e below s K J Q (T.setTop (mkF m n Ls (.int v :: st)))) : Ends p e below s K J Q (T.setTop (mkF m pc Ls (st))) := by
  subst hn
  exact Ends.via (fun t h => XS.iload X.here hx rfl hd hl h) k
theorem own_iloadN (X : Stand p l e R s m args below meth c T locs cells slots) (hx : p.tables.exec = Jvm.exec) {pc n : Nat} {Ls : Array Slot} {st : List Value} {i : Fin 4} {v : Int32} (hd : decode c.code pc = .ok (.iload_n i, 1)) (hl : Ls[i.val]? = some (.val (.int v))) (hn : pc + 1 = n) (k : Ends p e below s K J Q (T.setTop (mkF m n Ls (.int v :: st)))) : Ends p e below s K J Q (T.setTop (mkF m pc Ls (st))) := by
  subst hn
  exact Ends.via (fun t h => XS.iloadN X.here hx rfl hd hl h) k
theorem own_istore (X : Stand p l e R s m args below meth c T locs cells slots) (hx : p.tables.exec = Jvm.exec) {pc n : Nat} {Ls : Array Slot} {st : List Value} {i : Nat} {v : Int32} {l' : Array Slot} (hd : decode c.code pc = .ok (.istore i, 2)) (hl : storeLocals Ls i (.int v) = some l') (hn : pc + 2 = n) (k : Ends p e below s K J Q (T.setTop (mkF m n l' (st)))) : Ends p e below s K J Q (T.setTop (mkF m pc Ls (.int v :: st))) := by
  subst hn
  exact Ends.via (fun t h => XS.istore X.here hx rfl hd rfl hl h) k
theorem own_istoreN (X : Stand p l e R s m args below meth c T locs cells slots) (hx : p.tables.exec = Jvm.exec) {pc n : Nat} {Ls : Array Slot} {st : List Value} {i : Fin 4} {v : Int32} {l' : Array Slot} (hd : decode c.code pc = .ok (.istore_n i, 1)) (hl : storeLocals Ls i.val (.int v) = some l') (hn : pc + 1 = n) (k : Ends p e below s K J Q (T.setTop (mkF m n l' (st)))) : Ends p e below s K J Q (T.setTop (mkF m pc Ls (.int v :: st))) := by
  subst hn
  exact Ends.via (fun t h => XS.istoreN X.here hx rfl hd rfl hl h) k
theorem own_aloadN (X : Stand p l e R s m args below meth c T locs cells slots) (hx : p.tables.exec = Jvm.exec) {pc n : Nat} {Ls : Array Slot} {st : List Value} {i : Fin 4} {v : Value} (hd : decode c.code pc = .ok (.aload_n i, 1)) (hl : Ls[i.val]? = some (.val v)) (hv : v.isRef = true) (hn : pc + 1 = n) (k : Ends p e below s K J Q (T.setTop (mkF m n Ls (v :: st)))) : Ends p e below s K J Q (T.setTop (mkF m pc Ls (st))) := by
  subst hn
  exact Ends.via (fun t h => XS.aloadN X.here hx rfl hd hl hv h) k
theorem own_astoreN (X : Stand p l e R s m args below meth c T locs cells slots) (hx : p.tables.exec = Jvm.exec) {pc n : Nat} {Ls : Array Slot} {st : List Value} {i : Fin 4} {v : Value} {l' : Array Slot} (hd : decode c.code pc = .ok (.astore_n i, 1)) (hv : v.isRef = true) (hl : storeLocals Ls i.val v = some l') (hn : pc + 1 = n) (k : Ends p e below s K J Q (T.setTop (mkF m n l' (st)))) : Ends p e below s K J Q (T.setTop (mkF m pc Ls (v :: st))) := by
  subst hn
  exact Ends.via (fun t h => XS.astoreN X.here hx rfl hd rfl hv hl h) k
theorem own_goto (X : Stand p l e R s m args below meth c T locs cells slots) (hx : p.tables.exec = Jvm.exec) {pc n : Nat} {Ls : Array Slot} {st : List Value} {o : Int} (hd : decode c.code pc = .ok (.goto o, 3)) (ho : 0 ≤ (pc : Int) + o) (hp : ((pc : Int) + o).toNat = n) (k : Ends p e below s K J Q (T.setTop (mkF m n Ls st))) : Ends p e below s K J Q (T.setTop (mkF m pc Ls st)) :=
  Ends.via (fun t h => XS.goto X.here hx rfl (pc0 := pc) rfl hd ho hp h) k
theorem own_ifYes (X : Stand p l e R s m args below meth c T locs cells slots) (hx : p.tables.exec = Jvm.exec) {pc n : Nat} {Ls : Array Slot} {st : List Value} {o : Int} {cd : ClassFile.Cond} {x : Int32} (hd : decode c.code pc = .ok (.ifCond cd o, 3)) (hc : ifCond.holds cd x = true) (ho : 0 ≤ (pc : Int) + o) (hp : ((pc : Int) + o).toNat = n) (k : Ends p e below s K J Q (T.setTop (mkF m n Ls st))) : Ends p e below s K J Q (T.setTop (mkF m pc Ls (.int x :: st))) :=
  Ends.via (fun t h => XS.ifYes X.here hx rfl (pc0 := pc) rfl hd rfl hc ho hp h) k
theorem own_ifNo (X : Stand p l e R s m args below meth c T locs cells slots) (hx : p.tables.exec = Jvm.exec) {pc n : Nat} {Ls : Array Slot} {st : List Value} {o : Int} {cd : ClassFile.Cond} {x : Int32} (hd : decode c.code pc = .ok (.ifCond cd o, 3)) (hc : ifCond.holds cd x = false) (hn : pc + 3 = n) (k : Ends p e below s K J Q (T.setTop (mkF m n Ls st))) : Ends p e below s K J Q (T.setTop (mkF m pc Ls (.int x :: st))) := by
  subst hn
  exact Ends.via (fun t h => XS.ifNo X.here hx rfl hd rfl hc h) k
theorem own_acmpYes (X : Stand p l e R s m args below meth c T locs cells slots) (hx : p.tables.exec = Jvm.exec) {pc n : Nat} {Ls : Array Slot} {st : List Value} {o : Int} {cd : ClassFile.ACond} {x y : Value} (hd : decode c.code pc = .ok (.if_acmp cd o, 3)) (h1 : x.isRef = true) (h2 : y.isRef = true) (hc : Jvm.Free.XT.acmp cd x y = true) (ho : 0 ≤ (pc : Int) + o) (hp : ((pc : Int) + o).toNat = n) (k : Ends p e below s K J Q (T.setTop (mkF m n Ls st))) : Ends p e below s K J Q (T.setTop (mkF m pc Ls (y :: x :: st))) :=
  Ends.via (fun t h => Jvm.Free.XT.acmpYes X.here hx rfl (pc0 := pc) rfl hd rfl h1 h2 hc ho hp h) k
theorem own_acmpNo (X : Stand p l e R s m args below meth c T locs cells slots) (hx : p.tables.exec = Jvm.exec) {pc n : Nat} {Ls : Array Slot} {st : List Value} {o : Int} {cd : ClassFile.ACond} {x y : Value} (hd : decode c.code pc = .ok (.if_acmp cd o, 3)) (h1 : x.isRef = true) (h2 : y.isRef = true) (hc : Jvm.Free.XT.acmp cd x y = false) (hn : pc + 3 = n) (k : Ends p e below s K J Q (T.setTop (mkF m n Ls st))) : Ends p e below s K J Q (T.setTop (mkF m pc Ls (y :: x :: st))) := by
  subst hn
  exact Ends.via (fun t h => Jvm.Free.XT.acmpNo X.here hx rfl hd rfl h1 h2 hc h) k
theorem own_retN (X : Stand p l e R s m args below meth c T locs cells slots) (hx : p.tables.exec = Jvm.exec) (lk : meth.locks = false) {pc : Nat} {Ls : Array Slot} {rest : List Value} {z : Int32} {t : FieldType}  (hret : meth.sig.returnType = some t) (ht : t = .boolean ∨ t = .byte ∨ t = .char ∨ t = .short) (hd : decode c.code pc = .ok (.ireturn, 1)) (hK : cells ≤ K) (hJ : slots ≤ J) (hq : Q (some (.int (nar t z))) T.heap locs) : Ends p e below s K J Q (T.setTop (mkF m pc Ls (.int z :: rest))) := by
  obtain ⟨fs, hr, hrun, hended, hW, hsame⟩ := X.leave (v := (some (.int (nar t z)))) (fun h => by rw [hret] at h; cases h) lk
  exact ⟨_, _, Jvm.RoadKit.retN X hx hret ht hd hr, hrun, hended, _, _, rfl, hq, ⟨_, rfl⟩, hW, hsame.mono hK hJ⟩
theorem own_retA (X : Stand p l e R s m args below meth c T locs cells slots) (hx : p.tables.exec = Jvm.exec) (lk : meth.locks = false) {pc : Nat} {Ls : Array Slot} {rest : List Value} {w : Value} {t : FieldType}  (hret : meth.sig.returnType = some t) (ht : t.isReference = true) (hw : w.isRef = true) (hd : decode c.code pc = .ok (.areturn, 1)) (hK : cells ≤ K) (hJ : slots ≤ J) (hq : Q (some w) T.heap locs) : Ends p e below s K J Q (T.setTop (mkF m pc Ls (w :: rest))) := by
  obtain ⟨fs, hr, hrun, hended, hW, hsame⟩ := X.leave (v := (some w)) (fun h => by rw [hret] at h; cases h) lk
  exact ⟨_, _, retOut X hx (w := w) (t := t) hret (by rcases ref_cases hw with rfl | ⟨_, rfl⟩ <;> cases t <;> rfl) (Or.inr (Or.inr (Or.inr (Or.inr ⟨rfl, ht, hw⟩)))) hd hr, hrun, hended, _, _, rfl, hq, ⟨_, rfl⟩, hW, hsame.mono hK hJ⟩
theorem own_callV (X : Stand p l e R s m args below meth c T locs cells slots) (hx : p.tables.exec = Jvm.exec) (hZ : Z.Warmed39 s.vm) {own C : String} {index : Nat} {y : MethodName} {bytes : ByteArray} {maxL : Nat} {ret : Option FieldType} (hown : s.vm.findClass own = some m.cls) (wl : (Cond.methodLink own index y).before a0 Z = true) (wd : (Cond.declares y).before a0 Z = true) (wsel : (Cond.selects C y y).before a0 Z = true) (wi : (Cond.instanceMethod y).before a0 Z = true) (wz : (Cond.initialized y.cls).before a0 Z = true) (wc : (Cond.code y bytes maxL ret).before a0 Z = true) (hy : y.cls ≠ "java/lang/invoke/MethodHandle" ∧ y.cls ≠ "java/lang/invoke/VarHandle") (eT : T.heap = h) {a : Addr} (EX : Exa Z h a C)
    {rm : Room} {Qc : Option Value → Heap → List Loc → Prop} {as' : Array Value} (hM : MetFree l y (head1 [Cond.code y bytes maxL ret] rm) (fun a U => a = as' ∧ Z.Warmed39 U.vm ∧ U.heap = h) (fun _ _ _ _ _ => True) (fun _ U o U' => ∃ v L, o = .returned v ∧ Qc v U'.heap L ∧ FrameEnd U o U' L rm.cells rm.slots)) {W : Nat} (hf : rm.frames + 1 ≤ R.frames) (hl : W + (maxL + 11) + rm.locals ≤ R.locals) (hc : cells + rm.cells ≤ R.cells) (hsl : slots + rm.slots ≤ R.slots) {pc n : Nat} {Ls : Array Slot} (hsize : Ls.size = c.maxLocals) {argsL rest : List Value} {ps : List FieldType} {r : Option FieldType} (hpd : parseMethodDescriptor y.desc = some ⟨ps, r⟩) (hlen : argsL.length = ps.length) (has : (.ref a :: argsL).toArray = as') (hW : 0 + (rest.map fun v => v.category).sum ≤ W) (hd : decode c.code pc = .ok (.invokevirtual index, 3)) (hn : pc + 3 = n) {st : List Value} (hst : st = argsL.reverse ++ .ref a :: rest)
    (k : ∀ v T' h' L', Stand p l e R s m args below meth c T' (locs ++ L') (cells + rm.cells) (slots + rm.slots) → T'.heap = h' → Qc v h' L' → Ends p e below s K J Q (T'.setTop (mkF m n Ls (v.toList ++ rest)))) : Ends p e below s K J Q (T.setTop (mkF m pc Ls st)) := by
  subst hn
  obtain ⟨cq, kq, qa, qb, qc⟩ := isOf hZ eT EX
  obtain ⟨v, _, ⟨T18, L18, k18, n18⟩, -, X18, ⟨Lc18, hQ18, l18, y18, z18⟩, st18⟩ := X.virtualBack hx hown (mvT hZ wl) (mvT hZ wd) (notFace_of_selects (args := #[]) (mvT hZ wsel)) (mvT hZ wsel) (mvT hZ wi) hy (backOf (W := W) hM hZ wc wz hf hl) qa qc (g := mkF m pc Ls st) rfl hsize (Steps.refl _) (argsL := argsL) (rest := rest) (lenOf hpd hlen) hst hW hd (fun _ _ => ⟨has, eT, hc, hsl⟩)
  dsimp only [Pt.U, Pt.locs, Pt.cells, Pt.slots] at X18 l18 y18 z18 st18 hQ18
  subst l18 y18 z18
  exact Ends.tr st18 (k v T18 _ Lc18 X18 rfl hQ18)
theorem own_getS (X : Stand p l e R s m args below meth c T locs cells slots) (hx : p.tables.exec = Jvm.exec) (hZ : Z.Warmed39 s.vm) {own C f d : String} {index : Nat} (hown : s.vm.findClass own = some m.cls) (w : (Cond.fieldLink own index C f d).before a0 Z = true) (eT : T.heap = h) {v : Value} (F : Sta Z h C f d v) {pc n : Nat} {Ls : Array Slot} {st : List Value} (hd : decode c.code pc = .ok (.getstatic index, 3)) (hn : pc + 3 = n)
    (k : ∀ T', Stand p l e R s m args below meth c T' locs cells slots → T'.heap = h → Ends p e below s K J Q (T'.setTop (mkF m n Ls (v :: st)))) : Ends p e below s K J Q (T.setTop (mkF m pc Ls st)) := by
  subst hn
  obtain ⟨T', X', e', st'⟩ := getS2 X hx hZ hown (host := "") (Or.inl w) Via.refl eT F (g := mkF m pc Ls st) rfl hd
  exact Ends.via (fun t h => st' t h) (k T' X' e')
end Own
theorem own_fld {s : State} {args : Array Value} {t : Term} {a : Addr} {C n d : String} {k : Int32} (ev : t.eval args s none [] s = some (.ref a)) (h : (Cond.eq (Term.field t C n d) (Term.int k)).value args s none s [] = some true) : Fld s s.heap a C n d (.int k) := by
  obtain ⟨x, y, h1, h2, -, h3⟩ := cmp_v (Or.inl h)
  have e2 : y = .int k := (Option.some.inj h2).symm
  subst e2
  obtain ⟨z, rfl⟩ := h3
  have q := gotT (Cond.eq_ints h1 (Term.int_eval k)) h
  subst q
  rw [fld_at ev] at h1
  exact Fld.start h1
theorem own_ords {Z : State} {h : Heap} {a b : Addr} {C n d : String} {i j : Int32} (F : Fld Z h a C n d (.int i)) (G : Fld Z h b C n d (.int j)) (q : i ≠ j) : a ≠ b := Fld.ne F G fun z => q (Value.int.inj z)
theorem d1_0 : decode prog_50_method_5_code 0 = .ok (.aload_n 0, 1) := by decide +kernel
theorem d1_1 : decode prog_50_method_5_code 1 = .ok (.getstatic 3, 3) := by decide +kernel
theorem d1_4 : decode prog_50_method_5_code 4 = .ok (.if_acmp .ne 9, 3) := by decide +kernel
theorem d1_7 : decode prog_50_method_5_code 7 = .ok (.getstatic 7, 3) := by decide +kernel
theorem d1_10 : decode prog_50_method_5_code 10 = .ok (.goto 6, 3) := by decide +kernel
theorem d1_13 : decode prog_50_method_5_code 13 = .ok (.getstatic 3, 3) := by decide +kernel
theorem d1_16 : decode prog_50_method_5_code 16 = .ok (.areturn, 1) := by decide +kernel
theorem pn_1 : plainFor (⟨"com/example/stablemate/stablemate/model/MarketForm", "other", "()Lcom/example/stablemate/stablemate/model/MarketForm;"⟩ : MethodName) = true := by first | exact plainFor_of_name (by first | (simp [plainName, overriddenIn]; done) | decide +kernel) | decide +kernel
theorem ef_1 (m : MethodId) (a1 : Addr) : entryFrame m #[(.ref a1)] 1 = mkF m 0 #[.val (.ref a1)] [] := by first | rfl | (simp [entryFrame, mkF, argsToLocals, Value.category]; done)
theorem pd_1 : parseMethodDescriptor "()Lcom/example/stablemate/stablemate/model/MarketForm;" = some ⟨[], some (.object "com/example/stablemate/stablemate/model/MarketForm")⟩ := by decide +kernel
def Q1 (Z : State) (a1 : Addr) (va : Addr) (ra : Addr) (h0 : Heap) (n0 : Nat) (v : Option Value) (h : Heap) (L : List Loc) : Prop := (a1 = va → v = some (.ref ra)) ∧ (¬ a1 = va → v = some (.ref va)) ∧ Fr n0 L ∧ h0 = h
theorem rm1 (l : Launch) (Z : State) (a0 : Array Value) (hw : ∀ d ∈ tables_1, d.before a0 Z = true) (ws : List Jvm.Cond) (a1 : Addr) (va : Addr) (ra : Addr) (h0 : Heap) (n0 : Nat) (Z0 : n0 ≤ h0.size) (Sv : Sta Z h0 "com/example/stablemate/stablemate/model/MarketForm" "VALUED" "Lcom/example/stablemate/stablemate/model/MarketForm;" (.ref va)) (Sr : Sta Z h0 "com/example/stablemate/stablemate/model/MarketForm" "RANKING" "Lcom/example/stablemate/stablemate/model/MarketForm;" (.ref ra)) :
    MetFree l (⟨"com/example/stablemate/stablemate/model/MarketForm", "other", "()Lcom/example/stablemate/stablemate/model/MarketForm;"⟩ : MethodName) (head1 (Jvm.Cond.code (⟨"com/example/stablemate/stablemate/model/MarketForm", "other", "()Lcom/example/stablemate/stablemate/model/MarketForm;"⟩ : MethodName) prog_50_method_5_code 1 (some (.object "com/example/stablemate/stablemate/model/MarketForm")) :: ws) ({ frames := 0, cells := 0, slots := 0, locals := 0 } : Room)) (fun a U => a = #[(.ref a1)] ∧ Z.Warmed39 U.vm ∧ U.heap = h0) (fun _ _ _ _ _ => True) (fun _ U o U' => ∃ v L, o = .returned v ∧ (Q1 Z a1 va ra h0 n0) v U'.heap L ∧ FrameEnd U o U' L ({ frames := 0, cells := 0, slots := 0, locals := 0 } : Room).cells ({ frames := 0, cells := 0, slots := 0, locals := 0 } : Room).slots) := by
  refine MetFree.of_bodySF pn_1 hisR ?_
  intro p e s m args below meth c s₁ Bd hml0 hP hK
  obtain ⟨rfl, hZ, hh⟩ := hP
  have hx := Bd.exec
  have hby := Bd.bytes
  have hml : c.maxLocals = 1 := hml0
  have hown : s.vm.findClass "com/example/stablemate/stablemate/model/MarketForm" = some m.cls := findClass_of_methodNamed Bd.named
  have hnm := (name_of_methodNamed Bd.named Bd.method).1
  have X0 : Stand p l e ({ frames := 0, cells := 0, slots := 0, locals := 0 } : Room) s m #[(.ref a1)] below meth c s₁ [] 0 0 := Stand.of_body Bd
  have e0 : s₁.heap = h0 := by rw [← hh, Bd.state]; rfl
  have N0 := Fr.nil n0
  have lk : meth.locks = false := BodyLoose.notSynchronized Bd
  have hret := Bd.returns
  show Ends p e below s ({ frames := 0, cells := 0, slots := 0, locals := 0 } : Room).cells ({ frames := 0, cells := 0, slots := 0, locals := 0 } : Room).slots (Q1 Z a1 va ra h0 n0) (s₁.setTop (entryFrame m #[(.ref a1)] 1))
  refine Ends.cast (ef_1 m a1) ?_
  refine own_aloadN (n := 1) X0 hx (hb hby d1_0) rfl rfl rfl ?_
  refine own_getS (n := 4) X0 hx hZ hown (hw _ (List.mem_of_getElem? (i := 8) rfl)) e0 Sv (hb hby d1_1) rfl ?_
  intro T1 X1 e1
  by_cases c4 : ((.ref a1) : Value) = (.ref va)
  · refine own_acmpNo (n := 7) X1 hx (hb hby d1_4) rfl rfl (Jvm.Free.XT.aa_ne_f c4) rfl ?_
    refine own_getS (n := 10) X1 hx hZ hown (hw _ (List.mem_of_getElem? (i := 9) rfl)) e1 Sr (hb hby d1_7) rfl ?_
    intro T2 X2 e2
    refine own_goto (n := 16) X2 hx (hb hby d1_10) (by decide) (by decide) ?_
    refine own_retA X2 hx lk hret rfl rfl (hb hby d1_16) (by decide) (by decide) ?_
    rw [e2]
    exact ⟨fun q => rfl, fun q => absurd (Value.ref.inj c4) q, N0, rfl⟩
  · refine own_acmpYes (n := 13) X1 hx (hb hby d1_4) rfl rfl (Jvm.Free.XT.aa_ne_t c4) (by decide) (by decide) ?_
    refine own_getS (n := 16) X1 hx hZ hown (hw _ (List.mem_of_getElem? (i := 8) rfl)) e1 Sv (hb hby d1_13) rfl ?_
    intro T3 X3 e3
    refine own_retA X3 hx lk hret rfl rfl (hb hby d1_16) (by decide) (by decide) ?_
    rw [e3]
    exact ⟨fun q => absurd (congrArg Value.ref q) c4, fun q => rfl, N0, rfl⟩
theorem pn_0 : plainFor x = true := by first | exact plainFor_of_name (by first | (simp [plainName, overriddenIn]; done) | decide +kernel) | decide +kernel
theorem ef_0 (m : MethodId) (p1 : Int32) : entryFrame m #[(.int p1)] maxLocals = mkF m 0 #[.val (.int p1), .unset, .unset, .unset, .unset, .unset] [] := by first | rfl | (simp [entryFrame, mkF, argsToLocals, Value.category, maxLocals]; done)
def Q0 (Z : State) (p1 : Int32) (va : Addr) (ra : Addr) (h0 : Heap) (n0 : Nat) (v : Option Value) (h : Heap) (L : List Loc) : Prop := v = some (.int 1) ∧ Fr n0 L
theorem rm0 (l : Launch) (Z : State) (a0 : Array Value) (hw : ∀ d ∈ tables_1, d.before a0 Z = true) (ws : List Jvm.Cond) (p1 : Int32) (va : Addr) (ra : Addr) (h0 : Heap) (n0 : Nat) (Z0 : n0 ≤ h0.size) (Sv : Sta Z h0 "com/example/stablemate/stablemate/model/MarketForm" "VALUED" "Lcom/example/stablemate/stablemate/model/MarketForm;" (.ref va)) (Sr : Sta Z h0 "com/example/stablemate/stablemate/model/MarketForm" "RANKING" "Lcom/example/stablemate/stablemate/model/MarketForm;" (.ref ra)) (Ev : Exa Z h0 va "com/example/stablemate/stablemate/model/MarketForm") (Er : Exa Z h0 ra "com/example/stablemate/stablemate/model/MarketForm") (hne : ra ≠ va) :
    MetFree l x (head1 (Jvm.Cond.code x code maxLocals ret :: ws) room_1) (fun a U => a = #[(.int p1)] ∧ Z.Warmed39 U.vm ∧ U.heap = h0) (fun _ _ _ _ _ => True) (fun _ U o U' => ∃ v L, o = .returned v ∧ (Q0 Z p1 va ra h0 n0) v U'.heap L ∧ FrameEnd U o U' L 0 0) := by
  refine MetFree.of_bodySF pn_0 hisR ?_
  intro p e s m args below meth c s₁ Bd hml0 hP hK
  obtain ⟨rfl, hZ, hh⟩ := hP
  have hx := Bd.exec
  have hby := Bd.bytes
  have hml : c.maxLocals = 6 := hml0
  have hown : s.vm.findClass "com/example/stablemate/stablemate/model/MarketFormOtherPinLaw" = some m.cls := findClass_of_methodNamed Bd.named
  have hnm := (name_of_methodNamed Bd.named Bd.method).1
  have X0 : Stand p l e room_1 s m #[(.int p1)] below meth c s₁ [] 0 0 := Stand.of_body Bd
  have e0 : s₁.heap = h0 := by rw [← hh, Bd.state]; rfl
  have N0 := Fr.nil n0
  have lk : meth.locks = false := BodyLoose.notSynchronized Bd
  have hret := Bd.returns
  show Ends p e below s 0 0 (Q0 Z p1 va ra h0 n0) (s₁.setTop (entryFrame m #[(.int p1)] maxLocals))
  refine Ends.cast (ef_0 m p1) ?_
  refine own_iloadN (n := 1) X0 hx (hb hby at_0) rfl rfl ?_
  refine own_iconst (n := 2) X0 hx (1 : Int32) (hb hby at_1) rfl rfl ?_
  refine own_iand (n := 3) X0 hx (hb hby at_2) rfl ?_
  by_cases c3 : (p1 &&& (1 : Int32)) = 0
  · refine own_ifNo (n := 6) X0 hx (hb hby at_3) (Jvm.Free.XT.i0_ne_f c3) rfl ?_
    refine own_getS (n := 9) X0 hx hZ hown (hw _ (List.mem_of_getElem? (i := 0) rfl)) e0 Sv (hb hby at_6) rfl ?_
    intro T1 X1 e1
    refine own_goto (n := 15) X1 hx (hb hby at_9) (by decide) (by decide) ?_
    refine own_astoreN (n := 16) X1 hx (hb hby at_15) rfl (l' := #[.val (.int p1), .val (.ref va), .unset, .unset, .unset, .unset]) rfl rfl ?_
    refine own_aloadN (n := 17) X1 hx (hb hby at_16) rfl rfl rfl ?_
    refine own_callV (n := 20) X1 hx hZ hown (hw _ (List.mem_of_getElem? (i := 3) rfl)) (hw _ (List.mem_of_getElem? (i := 4) rfl)) (hw _ (List.mem_of_getElem? (i := 6) rfl)) (hw _ (List.mem_of_getElem? (i := 5) rfl)) (hw _ (List.mem_of_getElem? (i := 1) rfl)) (hw _ (List.mem_of_getElem? (i := 7) rfl)) (by decide) e1 Ev (rm1 l Z a0 hw [] va va ra h0 n0 Z0 Sv Sr) (W := 0) (by decide) (by decide) (by decide) (by decide) (by rw [hml]; rfl) (argsL := []) (rest := []) pd_1 rfl (by rfl) (Nat.le_of_eq rfl) (hb hby at_17) rfl rfl ?_
    intro v2 T2 h2 L2 X2 e2 q2
    obtain ⟨qa2, qb2, M2, rfl⟩ := q2
    have N2 := Fr.app N0 M2
    obtain rfl := qa2 rfl
    refine own_astoreN (n := 21) X2 hx (hb hby at_20) rfl (l' := #[.val (.int p1), .val (.ref va), .val (.ref ra), .unset, .unset, .unset]) rfl rfl ?_
    refine own_aloadN (n := 22) X2 hx (hb hby at_21) rfl rfl rfl ?_
    refine own_getS (n := 25) X2 hx hZ hown (hw _ (List.mem_of_getElem? (i := 0) rfl)) e2 Sv (hb hby at_22) rfl ?_
    intro T3 X3 e3
    refine own_acmpNo (n := 28) X3 hx (hb hby at_25) rfl rfl (Jvm.Free.XT.aa_eq_f (fun q => hne (Value.ref.inj q))) rfl ?_
    refine own_aloadN (n := 29) X3 hx (hb hby at_28) rfl rfl rfl ?_
    refine own_getS (n := 32) X3 hx hZ hown (hw _ (List.mem_of_getElem? (i := 11) rfl)) e3 Sr (hb hby at_29) rfl ?_
    intro T4 X4 e4
    refine own_acmpNo (n := 35) X4 hx (hb hby at_32) rfl rfl (Jvm.Free.XT.aa_ne_f rfl) rfl ?_
    refine own_iconst (n := 36) X4 hx (1 : Int32) (hb hby at_35) rfl rfl ?_
    refine own_goto (n := 40) X4 hx (hb hby at_36) (by decide) (by decide) ?_
    refine own_istoreN (n := 41) X4 hx (hb hby at_40) (l' := #[.val (.int p1), .val (.ref va), .val (.ref ra), .val (.int (1 : Int32)), .unset, .unset]) rfl rfl ?_
    refine own_aloadN (n := 42) X4 hx (hb hby at_41) rfl rfl rfl ?_
    refine own_aloadN (n := 43) X4 hx (hb hby at_42) rfl rfl rfl ?_
    refine own_acmpNo (n := 46) X4 hx (hb hby at_43) rfl rfl (Jvm.Free.XT.aa_eq_f (fun q => hne (Value.ref.inj q))) rfl ?_
    refine own_iconst (n := 47) X4 hx (1 : Int32) (hb hby at_46) rfl rfl ?_
    refine own_goto (n := 51) X4 hx (hb hby at_47) (by decide) (by decide) ?_
    refine own_istore (n := 53) X4 hx (hb hby at_51) (l' := #[.val (.int p1), .val (.ref va), .val (.ref ra), .val (.int (1 : Int32)), .val (.int (1 : Int32)), .unset]) rfl rfl ?_
    refine own_aloadN (n := 54) X4 hx (hb hby at_53) rfl rfl rfl ?_
    refine own_callV (n := 57) X4 hx hZ hown (hw _ (List.mem_of_getElem? (i := 3) rfl)) (hw _ (List.mem_of_getElem? (i := 4) rfl)) (hw _ (List.mem_of_getElem? (i := 6) rfl)) (hw _ (List.mem_of_getElem? (i := 5) rfl)) (hw _ (List.mem_of_getElem? (i := 1) rfl)) (hw _ (List.mem_of_getElem? (i := 7) rfl)) (by decide) e4 Er (rm1 l Z a0 hw [] ra va ra h0 n0 Z0 Sv Sr) (W := 0) (by decide) (by decide) (by decide) (by decide) (by rw [hml]; rfl) (argsL := []) (rest := []) pd_1 rfl (by rfl) (Nat.le_of_eq rfl) (hb hby at_54) rfl rfl ?_
    intro v5 T5 h5 L5 X5 e5 q5
    obtain ⟨qa5, qb5, M5, rfl⟩ := q5
    have N5 := Fr.app N2 M5
    obtain rfl := qb5 hne
    refine own_aloadN (n := 58) X5 hx (hb hby at_57) rfl rfl rfl ?_
    refine own_acmpNo (n := 61) X5 hx (hb hby at_58) rfl rfl (Jvm.Free.XT.aa_ne_f rfl) rfl ?_
    refine own_iconst (n := 62) X5 hx (1 : Int32) (hb hby at_61) rfl rfl ?_
    refine own_goto (n := 66) X5 hx (hb hby at_62) (by decide) (by decide) ?_
    refine own_istore (n := 68) X5 hx (hb hby at_66) (l' := #[.val (.int p1), .val (.ref va), .val (.ref ra), .val (.int (1 : Int32)), .val (.int (1 : Int32)), .val (.int (1 : Int32))]) rfl rfl ?_
    refine own_iloadN (n := 69) X5 hx (hb hby at_68) rfl rfl ?_
    refine own_ifNo (n := 72) X5 hx (hb hby at_69) (Jvm.Free.XT.i0_eq_f (by decide)) rfl ?_
    refine own_iload (n := 74) X5 hx (hb hby at_72) rfl rfl ?_
    refine own_ifNo (n := 77) X5 hx (hb hby at_74) (Jvm.Free.XT.i0_eq_f (by decide)) rfl ?_
    refine own_iload (n := 79) X5 hx (hb hby at_77) rfl rfl ?_
    refine own_ifNo (n := 82) X5 hx (hb hby at_79) (Jvm.Free.XT.i0_eq_f (by decide)) rfl ?_
    refine own_iconst (n := 83) X5 hx (1 : Int32) (hb hby at_82) rfl rfl ?_
    refine own_goto (n := 87) X5 hx (hb hby at_83) (by decide) (by decide) ?_
    refine own_retN X5 hx lk hret (by simp) (hb hby at_87) (by decide) (by decide) ?_
    rw [e5]
    exact ⟨rfl, N5⟩
  · refine own_ifYes (n := 12) X0 hx (hb hby at_3) (Jvm.Free.XT.i0_ne_t c3) (by decide) (by decide) ?_
    refine own_getS (n := 15) X0 hx hZ hown (hw _ (List.mem_of_getElem? (i := 11) rfl)) e0 Sr (hb hby at_12) rfl ?_
    intro T6 X6 e6
    refine own_astoreN (n := 16) X6 hx (hb hby at_15) rfl (l' := #[.val (.int p1), .val (.ref ra), .unset, .unset, .unset, .unset]) rfl rfl ?_
    refine own_aloadN (n := 17) X6 hx (hb hby at_16) rfl rfl rfl ?_
    refine own_callV (n := 20) X6 hx hZ hown (hw _ (List.mem_of_getElem? (i := 3) rfl)) (hw _ (List.mem_of_getElem? (i := 4) rfl)) (hw _ (List.mem_of_getElem? (i := 6) rfl)) (hw _ (List.mem_of_getElem? (i := 5) rfl)) (hw _ (List.mem_of_getElem? (i := 1) rfl)) (hw _ (List.mem_of_getElem? (i := 7) rfl)) (by decide) e6 Er (rm1 l Z a0 hw [] ra va ra h0 n0 Z0 Sv Sr) (W := 0) (by decide) (by decide) (by decide) (by decide) (by rw [hml]; rfl) (argsL := []) (rest := []) pd_1 rfl (by rfl) (Nat.le_of_eq rfl) (hb hby at_17) rfl rfl ?_
    intro v7 T7 h7 L7 X7 e7 q7
    obtain ⟨qa7, qb7, M7, rfl⟩ := q7
    have N7 := Fr.app N0 M7
    obtain rfl := qb7 hne
    refine own_astoreN (n := 21) X7 hx (hb hby at_20) rfl (l' := #[.val (.int p1), .val (.ref ra), .val (.ref va), .unset, .unset, .unset]) rfl rfl ?_
    refine own_aloadN (n := 22) X7 hx (hb hby at_21) rfl rfl rfl ?_
    refine own_getS (n := 25) X7 hx hZ hown (hw _ (List.mem_of_getElem? (i := 0) rfl)) e7 Sv (hb hby at_22) rfl ?_
    intro T8 X8 e8
    refine own_acmpYes (n := 35) X8 hx (hb hby at_25) rfl rfl (Jvm.Free.XT.aa_eq_t rfl) (by decide) (by decide) ?_
    refine own_iconst (n := 36) X8 hx (1 : Int32) (hb hby at_35) rfl rfl ?_
    refine own_goto (n := 40) X8 hx (hb hby at_36) (by decide) (by decide) ?_
    refine own_istoreN (n := 41) X8 hx (hb hby at_40) (l' := #[.val (.int p1), .val (.ref ra), .val (.ref va), .val (.int (1 : Int32)), .unset, .unset]) rfl rfl ?_
    refine own_aloadN (n := 42) X8 hx (hb hby at_41) rfl rfl rfl ?_
    refine own_aloadN (n := 43) X8 hx (hb hby at_42) rfl rfl rfl ?_
    refine own_acmpNo (n := 46) X8 hx (hb hby at_43) rfl rfl (Jvm.Free.XT.aa_eq_f (fun q => (Ne.symm hne) (Value.ref.inj q))) rfl ?_
    refine own_iconst (n := 47) X8 hx (1 : Int32) (hb hby at_46) rfl rfl ?_
    refine own_goto (n := 51) X8 hx (hb hby at_47) (by decide) (by decide) ?_
    refine own_istore (n := 53) X8 hx (hb hby at_51) (l' := #[.val (.int p1), .val (.ref ra), .val (.ref va), .val (.int (1 : Int32)), .val (.int (1 : Int32)), .unset]) rfl rfl ?_
    refine own_aloadN (n := 54) X8 hx (hb hby at_53) rfl rfl rfl ?_
    refine own_callV (n := 57) X8 hx hZ hown (hw _ (List.mem_of_getElem? (i := 3) rfl)) (hw _ (List.mem_of_getElem? (i := 4) rfl)) (hw _ (List.mem_of_getElem? (i := 6) rfl)) (hw _ (List.mem_of_getElem? (i := 5) rfl)) (hw _ (List.mem_of_getElem? (i := 1) rfl)) (hw _ (List.mem_of_getElem? (i := 7) rfl)) (by decide) e8 Ev (rm1 l Z a0 hw [] va va ra h0 n0 Z0 Sv Sr) (W := 0) (by decide) (by decide) (by decide) (by decide) (by rw [hml]; rfl) (argsL := []) (rest := []) pd_1 rfl (by rfl) (Nat.le_of_eq rfl) (hb hby at_54) rfl rfl ?_
    intro v9 T9 h9 L9 X9 e9 q9
    obtain ⟨qa9, qb9, M9, rfl⟩ := q9
    have N9 := Fr.app N7 M9
    obtain rfl := qa9 rfl
    refine own_aloadN (n := 58) X9 hx (hb hby at_57) rfl rfl rfl ?_
    refine own_acmpNo (n := 61) X9 hx (hb hby at_58) rfl rfl (Jvm.Free.XT.aa_ne_f rfl) rfl ?_
    refine own_iconst (n := 62) X9 hx (1 : Int32) (hb hby at_61) rfl rfl ?_
    refine own_goto (n := 66) X9 hx (hb hby at_62) (by decide) (by decide) ?_
    refine own_istore (n := 68) X9 hx (hb hby at_66) (l' := #[.val (.int p1), .val (.ref ra), .val (.ref va), .val (.int (1 : Int32)), .val (.int (1 : Int32)), .val (.int (1 : Int32))]) rfl rfl ?_
    refine own_iloadN (n := 69) X9 hx (hb hby at_68) rfl rfl ?_
    refine own_ifNo (n := 72) X9 hx (hb hby at_69) (Jvm.Free.XT.i0_eq_f (by decide)) rfl ?_
    refine own_iload (n := 74) X9 hx (hb hby at_72) rfl rfl ?_
    refine own_ifNo (n := 77) X9 hx (hb hby at_74) (Jvm.Free.XT.i0_eq_f (by decide)) rfl ?_
    refine own_iload (n := 79) X9 hx (hb hby at_77) rfl rfl ?_
    refine own_ifNo (n := 82) X9 hx (hb hby at_79) (Jvm.Free.XT.i0_eq_f (by decide)) rfl ?_
    refine own_iconst (n := 83) X9 hx (1 : Int32) (hb hby at_82) rfl rfl ?_
    refine own_goto (n := 87) X9 hx (hb hby at_83) (by decide) (by decide) ?_
    refine own_retN X9 hx lk hret (by simp) (hb hby at_87) (by decide) (by decide) ?_
    rw [e9]
    exact ⟨rfl, N9⟩
theorem comes_1 {Post : Tables → Env → Array Value → State → Outcome → State → Prop} (hpost : ∀ tb e args s v u, (limb_1_1.after args s (.returned v) u = true ∧ limb_1_2.after args s (.returned v) u = true ∧ True) → FrameEnd s (.returned v) u (Jvm.fieldLocs frame_1_writes args s ++ Jvm.arrayLocs frame_1_arrays args s ++ Jvm.staticLocs frame_1_statics s) 0 0 → Post tb e args s (.returned v) u) :
    ArmFor flags0 classFile x code maxLocals ret World_1 tables_1 room_1 Calls_1 rest_1 Pre_1 Post := by
  intro l hfl _ _ p e ha hc hk s m args below hf hA hF happ hP
  obtain ⟨hcalls, hrest, hpre⟩ := hP
  obtain ⟨-, -, -, hnamed, -, -, -, hat⟩ := (Spec.applies_iff hf).mp happ
  obtain ⟨hg, hn⟩ := and_e (Cond.before_iff.mp (show (Jvm.Cond.and given_1 narrow_1).before args s = true from hpre))
  obtain ⟨hcount, hg0⟩ := and_e hg
  obtain ⟨w0, rfl⟩ : ∃ w0 : Value, args = #[w0] := by
    have hs : args.size = 1 := by simpa [Cond.value, given_1] using hcount
    obtain ⟨L⟩ := args
    match L, hs with
    | [w0], _ => exact ⟨w0, rfl⟩
  have hw := fun d (hd : d ∈ tables_1) => atoms_spec (ws := Jvm.Cond.code x code maxLocals ret :: tables_1) hat d (List.mem_cons_of_mem _ hd)
  have hfit : Fit s := fun {y c} hc i hi => by
    obtain ⟨ha, rfl⟩ := Array.getElem?_eq_some_iff.mp hc
    have q := List.all_eq_true.mp ((Array.all_eq_true_iff_forall_mem.mp hF) _ (Array.getElem_mem ha)) i (List.mem_range.mpr hi)
    simpa [Array.getElem?_eq_getElem hi] using q
  obtain ⟨i0, j0⟩ := is_v hg0
  obtain rfl : w0 = (.int i0) := Option.some.inj j0
  obtain ⟨m0, t0⟩ := and_e hn
  obtain ⟨m1, t1⟩ := and_e t0
  obtain ⟨m2, t2⟩ := and_e t1
  have m3 := t2
  obtain ⟨A_VALUED, ev_VALUED⟩ := exa_v m0
  have S_VALUED : Sta s s.heap "com/example/stablemate/stablemate/model/MarketForm" "VALUED" "Lcom/example/stablemate/stablemate/model/MarketForm;" (.ref A_VALUED) := Sta.start ev_VALUED (Or.inr ⟨(hw _ (List.mem_of_getElem? (i := 1) rfl)), (hw _ (List.mem_of_getElem? (i := 2) rfl))⟩)
  have E_VALUED : Exa s s.heap A_VALUED "com/example/stablemate/stablemate/model/MarketForm" := Exa.start ev_VALUED m0
  obtain ⟨A_RANKING, ev_RANKING⟩ := exa_v m1
  have S_RANKING : Sta s s.heap "com/example/stablemate/stablemate/model/MarketForm" "RANKING" "Lcom/example/stablemate/stablemate/model/MarketForm;" (.ref A_RANKING) := Sta.start ev_RANKING (Or.inr ⟨(hw _ (List.mem_of_getElem? (i := 1) rfl)), (hw _ (List.mem_of_getElem? (i := 10) rfl))⟩)
  have E_RANKING : Exa s s.heap A_RANKING "com/example/stablemate/stablemate/model/MarketForm" := Exa.start ev_RANKING m1
  have O_RANKING_ordinal : Fld s s.heap A_RANKING "java/lang/Enum" "ordinal" "I" (.int (1 : Int32)) := own_fld ev_RANKING m2
  have O_VALUED_ordinal : Fld s s.heap A_VALUED "java/lang/Enum" "ordinal" "I" (.int (0 : Int32)) := own_fld ev_VALUED m3
  obtain ⟨n, o, h1, h2, h3, _, L, rfl, ⟨rfl, N⟩, hq⟩ := rm0 l s _ hw tables_1 i0 A_VALUED A_RANKING s.heap s.heap.size (Nat.le_refl _) S_VALUED S_RANKING E_VALUED E_RANKING (own_ords O_RANKING_ordinal O_VALUED_ordinal (by decide)) p e ha hc hk s m _ below hf ((Spec.applies_iff_loose hf).mp happ).1 ⟨rfl, State.Warmed39.refl s, rfl⟩ trivial
  refine ⟨n, _, h1, h2, h3, hpost _ _ _ _ _ _ ⟨Cond.after_iff.mpr rfl, Cond.after_iff.mpr (eq_i res_at (Term.int_eval (1)) rfl), trivial⟩ ⟨hq.1, hq.2.1, (hq.2.2.sift fun y hy => Or.inr (N y hy)).mono (by decide) (by decide)⟩⟩
theorem main_1_1 : Claimed_1_1 := comes_1 fun _ _ _ _ _ _ h hF => ⟨h.1, hF⟩
theorem main_1_2 : Claimed_1_2 := comes_1 fun _ _ _ _ _ _ h hF => ⟨h.2.1, hF⟩
end Jvm.Pilot.@@N@@
namespace Jvm.Pilot.@@N@@
open Jvm Jvm.ClassFile Sem Op Lib Jvm.Free Jvm.Stand Jvm.Pilot.@@N@@.Jvm.D
/-! MADE BY PROGRAM (witnessworld.py) out of the Statement's table words and the real class files: 12 classes; the members and pool entries that the words name. The judged class is class 1, her method 1. -/
namespace start1
open Jvm.ClassFile
def u (s : String) : CpInfo := .utf8 (stringToUtf16 s)
/-- a pool by its gaps: so many unusable entries, then the entry; so many at the end -/
def gap : Nat → List CpInfo → List CpInfo
  | 0, r => r
  | n + 1, r => .unusable :: gap n r
def poolList (es : List (Nat × CpInfo)) (last : Nat) : List CpInfo := es.foldr (fun e r => gap e.1 (e.2 :: r)) (gap last [])
def pool (es : List (Nat × CpInfo)) (last : Nat) : Array CpInfo := ⟨poolList es last⟩
def fileOf (pool : Array CpInfo) (this : Nat) (attrs : Array Attribute := #[]) (ms : Array MethodInfo := #[]) (fl : Nat := 33) (sup : Nat := 0) (ifs : Array Nat := #[]) (fds : Array FieldInfo := #[]) : ClassFile where
  minorVersion := 0
  majorVersion := 65
  constantPool := pool
  accessFlags := fl
  thisClass := this
  superClass := sup
  interfaces := ifs
  fields := fds
  methods := ms
  attributes := attrs
def plain (name : String) (sup : Option ClassId) : Class where
  name := name
  kind := .ordinary
  loader := none
  accessFlags := 33
  super := sup
  interfaces := #[]
  cf := none
  fields := #[]
  methods := #[]
  instanceTypes := #[]
  staticTypes := #[]
  resolved := #[]
  callSites := []
  init := .initialized
  statics := none
  mirror := none

def pool0 : Array CpInfo := pool [(5, u "<init>"), (0, u "()V"), (1, .class_ 10), (1, u "java/lang/Object")] 113

def k0m0 : Method := { name := "<init>", desc := "()V", sig := { parameters := [], returnType := none }, accessFlags := 1, code := none }
/-- java/lang/Object -/
def k0 : Class := { plain "java/lang/Object" none with
  accessFlags := 33
  interfaces := #[]
  cf := some (fileOf pool0 8 #[] #[{ accessFlags := 1, nameIndex := 5, descriptorIndex := 6, attributes := #[] }] 33 0 #[] #[])
  fields := #[]
  methods := #[k0m0]
  instanceTypes := #[]
  staticTypes := #[]
  resolved := Array.replicate 124 none
  statics := none }

def pool1 : Array CpInfo := pool [(2, .class_ 4), (1, u "java/lang/Object"), (0, u "<init>"), (0, u "()V"), (0, .fieldref 8 9), (0, .class_ 10), (0, .nameAndType 11 12), (0, u "com/example/stablemate/stablemate/model/MarketForm"), (0, u "VALUED"), (0, u "Lcom/example/stablemate/stablemate/model/MarketForm;"), (0, .fieldref 8 14), (0, .nameAndType 15 12), (0, u "RANKING"), (0, .methodref 8 17), (0, .nameAndType 18 19), (0, u "other"), (0, u "()Lcom/example/stablemate/stablemate/model/MarketForm;"), (0, .class_ 21), (0, u "com/example/stablemate/stablemate/model/MarketFormOtherPinLaw"), (2, u "law"), (0, u "(I)Z")] 3

def k1m0 : Method := { name := "<init>", desc := "()V", sig := { parameters := [], returnType := none }, accessFlags := 2, code := none }
def k1c1 : Code := { maxStack := 2, maxLocals := 6, code := code, exceptionTable := #[], attributes := #[] }
def k1m1 : Method := { name := "law", desc := "(I)Z", sig := { parameters := [.int], returnType := some .boolean }, accessFlags := 9, code := some k1c1 }
/-- com/example/stablemate/stablemate/model/MarketFormOtherPinLaw -/
def k1 : Class := { plain "com/example/stablemate/stablemate/model/MarketFormOtherPinLaw" (some 0) with
  accessFlags := 49
  interfaces := #[]
  cf := some (fileOf pool1 20 #[] #[{ accessFlags := 2, nameIndex := 5, descriptorIndex := 6, attributes := #[] }, { accessFlags := 9, nameIndex := 24, descriptorIndex := 25, attributes := #[] }] 49 2 #[] #[])
  fields := #[]
  methods := #[k1m0, k1m1]
  instanceTypes := #[]
  staticTypes := #[]
  resolved := Array.replicate 29 none
  statics := none }

def pool2 : Array CpInfo := pool [(1, .class_ 2), (0, u "java/lang/constant/Constable"), (0, .class_ 4), (0, u "java/lang/Object")] 6

/-- java/lang/constant/Constable -/
def k2 : Class := { plain "java/lang/constant/Constable" (some 0) with
  accessFlags := 1537
  interfaces := #[]
  cf := some (fileOf pool2 1 #[] #[] 1537 3 #[] #[])
  fields := #[]
  methods := #[]
  instanceTypes := #[]
  staticTypes := #[]
  resolved := Array.replicate 11 none
  statics := none }

def pool3 : Array CpInfo := pool [(1, .class_ 2), (0, u "java/lang/Comparable"), (0, .class_ 4), (0, u "java/lang/Object")] 7

/-- java/lang/Comparable -/
def k3 : Class := { plain "java/lang/Comparable" (some 0) with
  accessFlags := 1537
  interfaces := #[]
  cf := some (fileOf pool3 1 #[] #[] 1537 3 #[] #[])
  fields := #[]
  methods := #[]
  instanceTypes := #[]
  staticTypes := #[]
  resolved := Array.replicate 12 none
  statics := none }

def pool4 : Array CpInfo := pool [(1, .class_ 2), (0, u "java/io/Serializable"), (0, .class_ 4), (0, u "java/lang/Object")] 2

/-- java/io/Serializable -/
def k4 : Class := { plain "java/io/Serializable" (some 0) with
  accessFlags := 1537
  interfaces := #[]
  cf := some (fileOf pool4 1 #[] #[] 1537 3 #[] #[])
  fields := #[]
  methods := #[]
  instanceTypes := #[]
  staticTypes := #[]
  resolved := Array.replicate 7 none
  statics := none }

def pool5 : Array CpInfo := pool [(2, .class_ 4), (1, u "java/lang/Enum"), (0, u "name"), (0, u "Ljava/lang/String;"), (2, u "ordinal"), (0, u "I"), (1, .class_ 14), (1, u "java/lang/Object"), (4, u "hash"), (86, .class_ 108), (1, u "java/lang/Enum$EnumDesc"), (2, .class_ 112), (0, u "java/lang/constant/Constable"), (0, .class_ 114), (0, u "java/lang/Comparable"), (0, .class_ 116), (0, u "java/io/Serializable")] 87

/-- java/lang/Enum -/
def k5 : Class := { plain "java/lang/Enum" (some 0) with
  accessFlags := 1057
  interfaces := #[2, 3, 4]
  cf := some (fileOf pool5 2 #[.nestMembers #[106]] #[] 1057 12 #[111, 113, 115] #[{ accessFlags := 18, nameIndex := 5, descriptorIndex := 6, attributes := #[] }, { accessFlags := 18, nameIndex := 9, descriptorIndex := 10, attributes := #[] }, { accessFlags := 2, nameIndex := 19, descriptorIndex := 10, attributes := #[] }])
  fields := #[{ name := "name", type := (.object "java/lang/String"), accessFlags := 18, slot := 0, constantValue := 0 }, { name := "ordinal", type := .int, accessFlags := 18, slot := 1, constantValue := 0 }, { name := "hash", type := .int, accessFlags := 2, slot := 2, constantValue := 0 }]
  methods := #[]
  instanceTypes := #[(.object "java/lang/String"), .int, .int]
  staticTypes := #[]
  resolved := Array.replicate 204 none
  statics := none }

def pool6 : Array CpInfo := pool [(1, .class_ 2), (0, u "com/example/stablemate/stablemate/model/MarketForm"), (0, .fieldref 1 4), (0, .nameAndType 5 6), (0, u "VALUED"), (0, u "Lcom/example/stablemate/stablemate/model/MarketForm;"), (0, .fieldref 1 8), (0, .nameAndType 9 6), (0, u "RANKING"), (2, u "$VALUES"), (0, u "[Lcom/example/stablemate/stablemate/model/MarketForm;"), (6, .class_ 22), (1, u "java/lang/Enum"), (8, u "word"), (0, u "Ljava/lang/String;"), (2, u "sign"), (2, u "taskKeys"), (0, u "Ljava/util/Set;"), (52, u "other"), (0, u "()Lcom/example/stablemate/stablemate/model/MarketForm;")] 25

def k6c0 : Code := { maxStack := 2, maxLocals := 1, code := prog_50_method_5_code, exceptionTable := #[], attributes := #[] }
def k6m0 : Method := { name := "other", desc := "()Lcom/example/stablemate/stablemate/model/MarketForm;", sig := { parameters := [], returnType := some (.object "com/example/stablemate/stablemate/model/MarketForm") }, accessFlags := 0, code := some k6c0 }
/-- com/example/stablemate/stablemate/model/MarketForm -/
def k6 : Class := { plain "com/example/stablemate/stablemate/model/MarketForm" (some 5) with
  accessFlags := 16433
  interfaces := #[]
  cf := some (fileOf pool6 1 #[] #[{ accessFlags := 0, nameIndex := 92, descriptorIndex := 93, attributes := #[] }] 16433 20 #[] #[{ accessFlags := 16409, nameIndex := 5, descriptorIndex := 6, attributes := #[] }, { accessFlags := 16409, nameIndex := 9, descriptorIndex := 6, attributes := #[] }, { accessFlags := 18, nameIndex := 31, descriptorIndex := 32, attributes := #[] }, { accessFlags := 18, nameIndex := 35, descriptorIndex := 32, attributes := #[] }, { accessFlags := 18, nameIndex := 38, descriptorIndex := 39, attributes := #[] }, { accessFlags := 4122, nameIndex := 12, descriptorIndex := 13, attributes := #[] }])
  fields := #[{ name := "VALUED", type := (.object "com/example/stablemate/stablemate/model/MarketForm"), accessFlags := 16409, slot := 0, constantValue := 0 }, { name := "RANKING", type := (.object "com/example/stablemate/stablemate/model/MarketForm"), accessFlags := 16409, slot := 1, constantValue := 0 }, { name := "word", type := (.object "java/lang/String"), accessFlags := 18, slot := 3, constantValue := 0 }, { name := "sign", type := (.object "java/lang/String"), accessFlags := 18, slot := 4, constantValue := 0 }, { name := "taskKeys", type := (.object "java/util/Set"), accessFlags := 18, slot := 5, constantValue := 0 }, { name := "$VALUES", type := (.array (.object "com/example/stablemate/stablemate/model/MarketForm")), accessFlags := 4122, slot := 2, constantValue := 0 }]
  methods := #[k6m0]
  instanceTypes := #[(.object "java/lang/String"), .int, .int, (.object "java/lang/String"), (.object "java/lang/String"), (.object "java/util/Set")]
  staticTypes := #[(.object "com/example/stablemate/stablemate/model/MarketForm"), (.object "com/example/stablemate/stablemate/model/MarketForm"), (.array (.object "com/example/stablemate/stablemate/model/MarketForm"))]
  resolved := Array.replicate 119 none
  statics := some 0 }

def pool7 : Array CpInfo := pool [(1, u "java/lang/Cloneable"), (0, .class_ 1), (0, u "java/lang/Object"), (0, .class_ 3)] 3

/-- java/lang/Cloneable -/
def k7 : Class := { plain "java/lang/Cloneable" (some 0) with
  accessFlags := 1537
  interfaces := #[]
  cf := some (fileOf pool7 2 #[] #[] 1537 4 #[] #[])
  fields := #[]
  methods := #[]
  instanceTypes := #[]
  staticTypes := #[]
  resolved := Array.replicate 8 none
  statics := none }

/-- the primitive byte -/
def k8 : Class := { plain "byte" none with kind := .primitive 'B', accessFlags := 0x411 }
/-- [B -/
def k9 : Class := { plain "[B" (some 0) with kind := .array 8 .byte, interfaces := #[7, 4], accessFlags := 1041 }

/-- the primitive int -/
def k10 : Class := { plain "int" none with kind := .primitive 'I', accessFlags := 0x411 }
/-- [I -/
def k11 : Class := { plain "[I" (some 0) with kind := .array 10 .int, interfaces := #[7, 4], accessFlags := 1041 }

def heap : Heap := #[{ cls := 6, slots := #[.ref 1, .ref 2, .null], vm := .statics 6 },
  { cls := 6, slots := #[.null, .int 0, .int 0, .null, .null, .null], vm := .none },
  { cls := 6, slots := #[.null, .int 1, .int 0, .null, .null, .null], vm := .none }]
def classes : Array Class := #[k0, k1, k2, k3, k4, k5, k6, k7, k8, k9, k10, k11]
def interned : List (Array UInt16 × Addr) := []
def slotsUsed : Nat := 15
def theMethod : MethodId := ⟨1, 1⟩
def args0 : Array Value := #[.int 5]
def aboutOver (below : List Frame) : State where
  vm := { classes := classes, interned := interned.toArray }
  heap := heap
  slotsUsed := slotsUsed
  threads := #[{ frames := .invoking theMethod args0 :: below }]
def below0 : List Frame := [.native { method := ⟨0, 0⟩, args := #[] }]
def about1 : State := aboutOver below0
def p0 : Program := .bare "" "" ""
def e0 : Env := launch0.env 0 0 0
theorem w_frames : about1.frames = Frame.invoking theMethod args0 :: below0 := rfl
set_option maxRecDepth 65536 in
theorem w_args : argsFit about1.vm theMethod args0 = true := by decide +kernel
set_option maxRecDepth 65536 in
theorem w_heap : heapFits about1 = true := by decide +kernel
set_option maxRecDepth 65536 in
theorem w_runnable : about1.curStatus? = some .runnable := by decide +kernel
set_option maxRecDepth 65536 in
theorem w_alone : about1.alone = true := by decide +kernel
set_option maxRecDepth 65536 in
theorem w_named : about1.methodNamed? x = some theMethod := by decide +kernel
set_option maxRecDepth 65536 in
theorem w_hears : about1.hears theMethod below0 = true := by decide +kernel
set_option maxRecDepth 65536 in
theorem w_ripe : about1.ripe theMethod args0 below0 = true := by decide +kernel
theorem w_running : about1.status = .running := rfl
set_option maxRecDepth 65536 in
theorem w_room : about1.hasRoom e0.platform room_1 = true :=
  launch0.hasRoom_least _ room_1 (by decide +kernel) (by decide +kernel) (by decide +kernel) (by decide +kernel) (by decide +kernel) (by decide +kernel)
theorem allAtoms_all (ts : List Jvm.Cond) (a : Array Jvm.Value) (st : Jvm.State) : (allAtoms ts).before a st = ts.all (fun c => c.before a st) := by
  induction ts with
  | nil => rfl
  | cons c t ih =>
    show (Jvm.Cond.and c (allAtoms t)).before a st = _
    rw [Jvm.Cond.before_and, ih, List.all_cons]
def words1 : List Jvm.Cond := Jvm.Cond.code x code maxLocals ret :: tables_1
/-- a 'code' word, met by the world's own term for the bytes: nothing is compared byte by byte -/
theorem code_word {y : MethodName} {bytes : ByteArray} {mx : Nat} {rt : Option FieldType} {a : Array Value} {s : State} {m : MethodId} {meth : Method} {c : Code} (h1 : s.methodNamed? y = some m) (h2 : s.vm.method? m = some meth) (h3 : meth.code = some c) (h4 : c.code = bytes)
    (h5 : (c.maxLocals == mx && c.exceptionTable.isEmpty && decide (c.maxStack ≤ mostOperands) && decide (meth.sig.returnType = rt) && !meth.locks && decide (parseMethodDescriptor y.desc = some meth.sig)) = true) : (Jvm.Cond.code y bytes mx rt).before a s = true := by
  simp only [Bool.and_eq_true, beq_iff_eq, Bool.not_eq_true', decide_eq_true_eq] at h5
  obtain ⟨⟨⟨⟨⟨g1, g2⟩, g3⟩, g4⟩, g5⟩, g6⟩ := h5
  simp [Cond.before, Cond.holds, Cond.value, h1, h2, h3, h4, g1, g2, g3, g4, g5, g6]
def isCode : Jvm.Cond → Bool
  | .code _ _ _ _ => true
  | _ => false
theorem all_split {L : List Jvm.Cond} {P : Jvm.Cond → Bool} (h1 : L.all (fun c => isCode c || P c) = true) (h2 : ∀ c ∈ L.filter isCode, P c = true) : L.all P = true := by
  refine List.all_eq_true.mpr fun c hc => ?_
  have h := List.all_eq_true.mp h1 c hc
  rcases Bool.eq_false_or_eq_true (isCode c) with hi | hi
  · exact h2 c (List.mem_filter.mpr ⟨hc, hi⟩)
  · simpa [hi] using h
set_option maxRecDepth 65536 in
theorem w_c0 : (Jvm.Cond.code x code maxLocals ret).before args0 about1 = true := code_word (m := ⟨1, 1⟩) (meth := k1m1) (c := k1c1) (by decide +kernel) rfl rfl rfl (by decide +kernel)
set_option maxRecDepth 65536 in
theorem w_c1 : (Jvm.Cond.code ({ cls := "com/example/stablemate/stablemate/model/MarketForm", name := "other", desc := "()Lcom/example/stablemate/stablemate/model/MarketForm;" } : Jvm.MethodName) prog_50_method_5_code (1 : Nat) (Option.some (Jvm.ClassFile.FieldType.object "com/example/stablemate/stablemate/model/MarketForm"))).before args0 about1 = true := code_word (m := ⟨6, 0⟩) (meth := k6m0) (c := k6c0) (by decide +kernel) rfl rfl rfl (by decide +kernel)
def codes1 : List Jvm.Cond := [Jvm.Cond.code x code maxLocals ret, Jvm.Cond.code ({ cls := "com/example/stablemate/stablemate/model/MarketForm", name := "other", desc := "()Lcom/example/stablemate/stablemate/model/MarketForm;" } : Jvm.MethodName) prog_50_method_5_code (1 : Nat) (Option.some (Jvm.ClassFile.FieldType.object "com/example/stablemate/stablemate/model/MarketForm"))]
set_option maxRecDepth 65536 in
theorem codes_eq : words1.filter isCode = codes1 := rfl
theorem w_codes : ∀ c ∈ words1.filter isCode, c.before args0 about1 = true := by
  rw [codes_eq]
  intro c hc
  simp only [codes1, List.mem_cons, List.not_mem_nil, or_false] at hc
  rcases hc with rfl | rfl
  · exact w_c0
  · exact w_c1
set_option maxRecDepth 65536 in
theorem w_t1 : words1.all (fun c => isCode c || c.before args0 about1) = true := by decide +kernel
theorem w_tables : (allAtoms (Jvm.Cond.code x code maxLocals ret :: tables_1)).before args0 about1 = true := by
  rw [allAtoms_all]
  show words1.all (fun c => c.before args0 about1) = true
  refine all_split ?_ w_codes
  rw [w_t1]
set_option maxRecDepth 65536 in
theorem w_case : (Jvm.Cond.and given_1 narrow_1).before args0 about1 = true := by decide +kernel
theorem w_applies : (headSpec (Jvm.Cond.code x code maxLocals ret :: tables_1) room_1).applies x e0.platform about1 = true :=
  (Spec.applies_iff w_frames).mpr ⟨w_running, w_runnable, w_alone, w_named, w_hears, w_ripe, w_room, w_tables⟩
theorem atStart : AtStart classFile x code maxLocals ret World_1 tables_1 room_1 Calls_1 rest_1 Pre_1 launch0 p0 e0 about1 theMethod args0 below0 :=
  ⟨lists_1, trivial, launch0.admits_env _ _ _, launch0.least_env, fairChoices_fair.cas, fairChoices_fair.clock, w_frames, w_args, w_heap, w_applies, trivial, trivial, w_case⟩
end start1
theorem witness_1 : WitnessClaimed_1 := ⟨start1.p0, start1.e0, start1.about1, start1.theMethod, start1.args0, start1.below0, start1.atStart⟩
end Jvm.Pilot.@@N@@
