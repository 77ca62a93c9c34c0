import JvmDerived
import JvmDerived.Pilot.@@N@@Statement
import JvmDerived.Pilot.@@N@@Code
set_option linter.unusedVariables false
set_option linter.unusedSimpArgs false
set_option maxRecDepth 65536
set_option maxHeartbeats 4000000
namespace Jvm.Pilot.@@N@@
open Jvm Jvm.ClassFile Sem Op Lib Jvm.Free Jvm.Stand Jvm.LawKit Jvm.RoadKit Bundle Jvm.Pilot.@@N@@.Jvm.D
section Own
variable {p : Program} {l : Launch} {e : Env} {R : Room} {s : State} {m : MethodId} {args : Array Value} {below : List Frame} {meth : Method} {c : Code} {T : State} {locs : List Loc} {cells slots : Nat} {K J : Nat} {Q : Option Value → Heap → List Loc → Prop} {Z : State} {a0 : Array Value} {h : Heap}
/-- from U the run comes to its end, and what it leaves is Q's -/
def Ends (p : Program) (e : Env) (below : List Frame) (s : State) (K J : Nat) (Q : Option Value → Heap → List Loc → Prop) (U : State) : Prop :=
  ∃ s₂ o, Steps p.tables e below U s₂ ∧ s₂.status = .running ∧ Ended s₂ below o ∧ ∃ v L, o = .returned v ∧ Q v s₂.heap L ∧ FrameEnd s o s₂ L K J
theorem Ends.via {A B : State} (h : ∀ t, Steps p.tables e below A t → Steps p.tables e below B t) (k : Ends p e below s K J Q A) : Ends p e below s K J Q B := by
  obtain ⟨s2, o, h1, h2⟩ := k
  exact ⟨s2, o, h _ h1, h2⟩
theorem Ends.tr {A B : State} (h : Steps p.tables e below B A) (k : Ends p e below s K J Q A) : Ends p e below s K J Q B := by
  obtain ⟨s2, o, h1, h2⟩ := k
  exact ⟨s2, o, h.trans h1, h2⟩
theorem Ends.cast {g g' : JFrame} (q : g = g') (k : Ends p e below s K J Q (T.setTop g')) : Ends p e below s K J Q (T.setTop g) := q ▸ k
theorem own_iand (X : Stand p l e R s m args below meth c T locs cells slots) (hx : p.tables.exec = Jvm.exec) {pc n : Nat} {Ls : Array Slot} {st : List Value} {x y : Int32} (hd : decode c.code pc = .ok (.iand, 1))  (hn : pc + 1 = n) (k : Ends p e below s K J Q (T.setTop (mkF m n Ls (.int (x &&& y) :: st)))) : Ends p e below s K J Q (T.setTop (mkF m pc Ls (.int y :: .int x :: st))) := by
  subst hn
  exact Ends.via (fun t h => XS.iand X.here hx rfl hd rfl h) k
theorem own_irem (X : Stand p l e R s m args below meth c T locs cells slots) (hx : p.tables.exec = Jvm.exec) {pc n : Nat} {Ls : Array Slot} {st : List Value} {x y : Int32} (hd : decode c.code pc = .ok (.irem, 1)) (hy : y ≠ 0) (hn : pc + 1 = n) (k : Ends p e below s K J Q (T.setTop (mkF m n Ls (.int (x % y) :: st)))) : Ends p e below s K J Q (T.setTop (mkF m pc Ls (.int y :: .int x :: st))) := by
  subst hn
  exact Ends.via (fun t h => iremM X hx rfl hd rfl hy h) k
theorem own_iconst (X : Stand p l e R s m args below meth c T locs cells slots) (hx : p.tables.exec = Jvm.exec) {pc n : Nat} {Ls : Array Slot} {st : List Value} {i : Int} (v : Int32) (hd : decode c.code pc = .ok (.iconst i, 1)) (hv : Int32.ofInt i = v) (hn : pc + 1 = n) (k : Ends p e below s K J Q (T.setTop (mkF m n Ls (.int v :: st)))) : Ends p e below s K J Q (T.setTop (mkF m pc Ls st)) := by
  subst hn hv
  exact Ends.via (fun t h => XS.iconst X.here hx rfl hd h) k
theorem own_bipush (X : Stand p l e R s m args below meth c T locs cells slots) (hx : p.tables.exec = Jvm.exec) {pc n : Nat} {Ls : Array Slot} {st : List Value} {i : Int} (v : Int32) (hd : decode c.code pc = .ok (.bipush i, 2)) (hv : (Int8.ofInt i).toInt32 = v) (hn : pc + 2 = n) (k : Ends p e below s K J Q (T.setTop (mkF m n Ls (.int v :: st)))) : Ends p e below s K J Q (T.setTop (mkF m pc Ls st)) := by
  subst hn hv
  exact Ends.via (fun t h => XS.bipush X.here hx rfl hd h) k
theorem own_iloadN (X : Stand p l e R s m args below meth c T locs cells slots) (hx : p.tables.exec = Jvm.exec) {pc n : Nat} {Ls : Array Slot} {st : List Value} {i : Fin 4} {v : Int32} (hd : decode c.code pc = .ok (.iload_n i, 1)) (hl : Ls[i.val]? = some (.val (.int v))) (hn : pc + 1 = n) (k : Ends p e below s K J Q (T.setTop (mkF m n Ls (.int v :: st)))) : Ends p e below s K J Q (T.setTop (mkF m pc Ls (st))) := by
  subst hn
  exact Ends.via (fun t h => XS.iloadN X.here hx rfl hd hl h) k
theorem own_istoreN (X : Stand p l e R s m args below meth c T locs cells slots) (hx : p.tables.exec = Jvm.exec) {pc n : Nat} {Ls : Array Slot} {st : List Value} {i : Fin 4} {v : Int32} {l' : Array Slot} (hd : decode c.code pc = .ok (.istore_n i, 1)) (hl : storeLocals Ls i.val (.int v) = some l') (hn : pc + 1 = n) (k : Ends p e below s K J Q (T.setTop (mkF m n l' (st)))) : Ends p e below s K J Q (T.setTop (mkF m pc Ls (.int v :: st))) := by
  subst hn
  exact Ends.via (fun t h => XS.istoreN X.here hx rfl hd rfl hl h) k
theorem own_aloadN (X : Stand p l e R s m args below meth c T locs cells slots) (hx : p.tables.exec = Jvm.exec) {pc n : Nat} {Ls : Array Slot} {st : List Value} {i : Fin 4} {v : Value} (hd : decode c.code pc = .ok (.aload_n i, 1)) (hl : Ls[i.val]? = some (.val v)) (hv : v.isRef = true) (hn : pc + 1 = n) (k : Ends p e below s K J Q (T.setTop (mkF m n Ls (v :: st)))) : Ends p e below s K J Q (T.setTop (mkF m pc Ls (st))) := by
  subst hn
  exact Ends.via (fun t h => XS.aloadN X.here hx rfl hd hl hv h) k
theorem own_astoreN (X : Stand p l e R s m args below meth c T locs cells slots) (hx : p.tables.exec = Jvm.exec) {pc n : Nat} {Ls : Array Slot} {st : List Value} {i : Fin 4} {v : Value} {l' : Array Slot} (hd : decode c.code pc = .ok (.astore_n i, 1)) (hv : v.isRef = true) (hl : storeLocals Ls i.val v = some l') (hn : pc + 1 = n) (k : Ends p e below s K J Q (T.setTop (mkF m n l' (st)))) : Ends p e below s K J Q (T.setTop (mkF m pc Ls (v :: st))) := by
  subst hn
  exact Ends.via (fun t h => XS.astoreN X.here hx rfl hd rfl hv hl h) k
theorem own_goto (X : Stand p l e R s m args below meth c T locs cells slots) (hx : p.tables.exec = Jvm.exec) {pc n : Nat} {Ls : Array Slot} {st : List Value} {o : Int} (hd : decode c.code pc = .ok (.goto o, 3)) (ho : 0 ≤ (pc : Int) + o) (hp : ((pc : Int) + o).toNat = n) (k : Ends p e below s K J Q (T.setTop (mkF m n Ls st))) : Ends p e below s K J Q (T.setTop (mkF m pc Ls st)) :=
  Ends.via (fun t h => XS.goto X.here hx rfl (pc0 := pc) rfl hd ho hp h) k
theorem own_ifYes (X : Stand p l e R s m args below meth c T locs cells slots) (hx : p.tables.exec = Jvm.exec) {pc n : Nat} {Ls : Array Slot} {st : List Value} {o : Int} {cd : ClassFile.Cond} {x : Int32} (hd : decode c.code pc = .ok (.ifCond cd o, 3)) (hc : ifCond.holds cd x = true) (ho : 0 ≤ (pc : Int) + o) (hp : ((pc : Int) + o).toNat = n) (k : Ends p e below s K J Q (T.setTop (mkF m n Ls st))) : Ends p e below s K J Q (T.setTop (mkF m pc Ls (.int x :: st))) :=
  Ends.via (fun t h => XS.ifYes X.here hx rfl (pc0 := pc) rfl hd rfl hc ho hp h) k
theorem own_ifNo (X : Stand p l e R s m args below meth c T locs cells slots) (hx : p.tables.exec = Jvm.exec) {pc n : Nat} {Ls : Array Slot} {st : List Value} {o : Int} {cd : ClassFile.Cond} {x : Int32} (hd : decode c.code pc = .ok (.ifCond cd o, 3)) (hc : ifCond.holds cd x = false) (hn : pc + 3 = n) (k : Ends p e below s K J Q (T.setTop (mkF m n Ls st))) : Ends p e below s K J Q (T.setTop (mkF m pc Ls (.int x :: st))) := by
  subst hn
  exact Ends.via (fun t h => XS.ifNo X.here hx rfl hd rfl hc h) k
theorem own_icmpYes (X : Stand p l e R s m args below meth c T locs cells slots) (hx : p.tables.exec = Jvm.exec) {pc n : Nat} {Ls : Array Slot} {st : List Value} {o : Int} {cd : ClassFile.Cond} {x y : Int32} (hd : decode c.code pc = .ok (.if_icmp cd o, 3)) (hc : if_icmp.holds cd x y = true) (ho : 0 ≤ (pc : Int) + o) (hp : ((pc : Int) + o).toNat = n) (k : Ends p e below s K J Q (T.setTop (mkF m n Ls st))) : Ends p e below s K J Q (T.setTop (mkF m pc Ls (.int y :: .int x :: st))) :=
  Ends.via (fun t h => XS.icmpYes X.here hx rfl (pc0 := pc) rfl hd rfl hc ho hp h) k
theorem own_icmpNo (X : Stand p l e R s m args below meth c T locs cells slots) (hx : p.tables.exec = Jvm.exec) {pc n : Nat} {Ls : Array Slot} {st : List Value} {o : Int} {cd : ClassFile.Cond} {x y : Int32} (hd : decode c.code pc = .ok (.if_icmp cd o, 3)) (hc : if_icmp.holds cd x y = false) (hn : pc + 3 = n) (k : Ends p e below s K J Q (T.setTop (mkF m n Ls st))) : Ends p e below s K J Q (T.setTop (mkF m pc Ls (.int y :: .int x :: st))) := by
  subst hn
  exact Ends.via (fun t h => XS.icmpNo X.here hx rfl hd rfl hc h) k
theorem own_acmpYes (X : Stand p l e R s m args below meth c T locs cells slots) (hx : p.tables.exec = Jvm.exec) {pc n : Nat} {Ls : Array Slot} {st : List Value} {o : Int} {cd : ClassFile.ACond} {x y : Value} (hd : decode c.code pc = .ok (.if_acmp cd o, 3)) (h1 : x.isRef = true) (h2 : y.isRef = true) (hc : Jvm.Free.XT.acmp cd x y = true) (ho : 0 ≤ (pc : Int) + o) (hp : ((pc : Int) + o).toNat = n) (k : Ends p e below s K J Q (T.setTop (mkF m n Ls st))) : Ends p e below s K J Q (T.setTop (mkF m pc Ls (y :: x :: st))) :=
  Ends.via (fun t h => Jvm.Free.XT.acmpYes X.here hx rfl (pc0 := pc) rfl hd rfl h1 h2 hc ho hp h) k
theorem own_acmpNo (X : Stand p l e R s m args below meth c T locs cells slots) (hx : p.tables.exec = Jvm.exec) {pc n : Nat} {Ls : Array Slot} {st : List Value} {o : Int} {cd : ClassFile.ACond} {x y : Value} (hd : decode c.code pc = .ok (.if_acmp cd o, 3)) (h1 : x.isRef = true) (h2 : y.isRef = true) (hc : Jvm.Free.XT.acmp cd x y = false) (hn : pc + 3 = n) (k : Ends p e below s K J Q (T.setTop (mkF m n Ls st))) : Ends p e below s K J Q (T.setTop (mkF m pc Ls (y :: x :: st))) := by
  subst hn
  exact Ends.via (fun t h => Jvm.Free.XT.acmpNo X.here hx rfl hd rfl h1 h2 hc h) k
theorem own_ldc (X : Stand p l e R s m args below meth c T locs cells slots) (hx : p.tables.exec = Jvm.exec) (hZ : Z.Warmed39 s.vm) {own : String} (hown : s.vm.findClass own = some m.cls) {pc n : Nat} {Ls : Array Slot} {st : List Value} {i : Nat} {v : Int32} (w : (Cond.constant own i v).before a0 Z = true) (hd : decode c.code pc = .ok (.ldc i, 2)) (hn : pc + 2 = n) (k : Ends p e below s K J Q (T.setTop (mkF m n Ls (.int v :: st)))) : Ends p e below s K J Q (T.setTop (mkF m pc Ls st)) := by
  subst hn
  exact Ends.via (fun t h => X.ldcI hx hown (mvT hZ w) rfl hd h) k
theorem own_retN (X : Stand p l e R s m args below meth c T locs cells slots) (hx : p.tables.exec = Jvm.exec) (lk : meth.locks = false) {pc : Nat} {Ls : Array Slot} {rest : List Value} {z : Int32} {t : FieldType}  (hret : meth.sig.returnType = some t) (ht : t = .boolean ∨ t = .byte ∨ t = .char ∨ t = .short) (hd : decode c.code pc = .ok (.ireturn, 1)) (hK : cells ≤ K) (hJ : slots ≤ J) (hq : Q (some (.int (nar t z))) T.heap locs) : Ends p e below s K J Q (T.setTop (mkF m pc Ls (.int z :: rest))) := by
  obtain ⟨fs, hr, hrun, hended, hW, hsame⟩ := X.leave (v := (some (.int (nar t z)))) (fun h => by rw [hret] at h; cases h) lk
  exact ⟨_, _, Jvm.RoadKit.retN X hx hret ht hd hr, hrun, hended, _, _, rfl, hq, ⟨_, rfl⟩, hW, hsame.mono hK hJ⟩
theorem own_callV (X : Stand p l e R s m args below meth c T locs cells slots) (hx : p.tables.exec = Jvm.exec) (hZ : Z.Warmed39 s.vm) {own C : String} {index : Nat} {y : MethodName} {bytes : ByteArray} {maxL : Nat} {ret : Option FieldType} (hown : s.vm.findClass own = some m.cls) (wl : (Cond.methodLink own index y).before a0 Z = true) (wd : (Cond.declares y).before a0 Z = true) (wsel : (Cond.selects C y y).before a0 Z = true) (wi : (Cond.instanceMethod y).before a0 Z = true) (wz : (Cond.initialized y.cls).before a0 Z = true) (wc : (Cond.code y bytes maxL ret).before a0 Z = true) (hy : y.cls ≠ "java/lang/invoke/MethodHandle" ∧ y.cls ≠ "java/lang/invoke/VarHandle") (eT : T.heap = h) {a : Addr} (EX : Exa Z h a C)
    {rm : Room} {Qc : Option Value → Heap → List Loc → Prop} {as' : Array Value} (hM : MetFree l y (head1 [Cond.code y bytes maxL ret] rm) (fun a U => a = as' ∧ Z.Warmed39 U.vm ∧ U.heap = h) (fun _ _ _ _ _ => True) (fun _ U o U' => ∃ v L, o = .returned v ∧ Qc v U'.heap L ∧ FrameEnd U o U' L rm.cells rm.slots)) {W : Nat} (hf : rm.frames + 1 ≤ R.frames) (hl : W + (maxL + 11) + rm.locals ≤ R.locals) (hc : cells + rm.cells ≤ R.cells) (hsl : slots + rm.slots ≤ R.slots) {pc n : Nat} {Ls : Array Slot} (hsize : Ls.size = c.maxLocals) {argsL rest : List Value} {ps : List FieldType} {r : Option FieldType} (hpd : parseMethodDescriptor y.desc = some ⟨ps, r⟩) (hlen : argsL.length = ps.length) (has : (.ref a :: argsL).toArray = as') (hW : 0 + (rest.map fun v => v.category).sum ≤ W) (hd : decode c.code pc = .ok (.invokevirtual index, 3)) (hn : pc + 3 = n) {st : List Value} (hst : st = argsL.reverse ++ .ref a :: rest)
    (k : ∀ v T' h' L', Stand p l e R s m args below meth c T' (locs ++ L') (cells + rm.cells) (slots + rm.slots) → T'.heap = h' → Qc v h' L' → Ends p e below s K J Q (T'.setTop (mkF m n Ls (v.toList ++ rest)))) : Ends p e below s K J Q (T.setTop (mkF m pc Ls st)) := by
  subst hn
  obtain ⟨cq, kq, qa, qb, qc⟩ := isOf hZ eT EX
  obtain ⟨v, _, ⟨T18, L18, k18, n18⟩, -, X18, ⟨Lc18, hQ18, l18, y18, z18⟩, st18⟩ := X.virtualBack hx hown (mvT hZ wl) (mvT hZ wd) (notFace_of_selects (args := #[]) (mvT hZ wsel)) (mvT hZ wsel) (mvT hZ wi) hy (backOf (W := W) hM hZ wc wz hf hl) qa qc (g := mkF m pc Ls st) rfl hsize (Steps.refl _) (argsL := argsL) (rest := rest) (lenOf hpd hlen) hst hW hd (fun _ _ => ⟨has, eT, hc, hsl⟩)
  dsimp only [Pt.U, Pt.locs, Pt.cells, Pt.slots] at X18 l18 y18 z18 st18 hQ18
  subst l18 y18 z18
  exact Ends.tr st18 (k v T18 _ Lc18 X18 rfl hQ18)
theorem own_getS (X : Stand p l e R s m args below meth c T locs cells slots) (hx : p.tables.exec = Jvm.exec) (hZ : Z.Warmed39 s.vm) {own C f d : String} {index : Nat} (hown : s.vm.findClass own = some m.cls) (w : (Cond.fieldLink own index C f d).before a0 Z = true) (eT : T.heap = h) {v : Value} (F : Sta Z h C f d v) {pc n : Nat} {Ls : Array Slot} {st : List Value} (hd : decode c.code pc = .ok (.getstatic index, 3)) (hn : pc + 3 = n)
    (k : ∀ T', Stand p l e R s m args below meth c T' locs cells slots → T'.heap = h → Ends p e below s K J Q (T'.setTop (mkF m n Ls (v :: st)))) : Ends p e below s K J Q (T.setTop (mkF m pc Ls st)) := by
  subst hn
  obtain ⟨T', X', e', st'⟩ := getS2 X hx hZ hown (host := "") (Or.inl w) Via.refl eT F (g := mkF m pc Ls st) rfl hd
  exact Ends.via (fun t h => st' t h) (k T' X' e')
end Own
theorem own_fld {s : State} {args : Array Value} {t : Term} {a : Addr} {C n d : String} {k : Int32} (ev : t.eval args s none [] s = some (.ref a)) (h : (Cond.eq (Term.field t C n d) (Term.int k)).value args s none s [] = some true) : Fld s s.heap a C n d (.int k) := by
  obtain ⟨x, y, h1, h2, -, h3⟩ := cmp_v (Or.inl h)
  have e2 : y = .int k := (Option.some.inj h2).symm
  subst e2
  obtain ⟨z, rfl⟩ := h3
  have q := gotT (Cond.eq_ints h1 (Term.int_eval k)) h
  subst q
  rw [fld_at ev] at h1
  exact Fld.start h1
theorem own_ords {Z : State} {h : Heap} {a b : Addr} {C n d : String} {i j : Int32} (F : Fld Z h a C n d (.int i)) (G : Fld Z h b C n d (.int j)) (q : i ≠ j) : a ≠ b := Fld.ne F G fun z => q (Value.int.inj z)
theorem d1_0 : decode prog_27_method_5_code 0 = .ok (.aload_n 0, 1) := by decide +kernel
theorem d1_1 : decode prog_27_method_5_code 1 = .ok (.getstatic 19, 3) := by decide +kernel
theorem d1_4 : decode prog_27_method_5_code 4 = .ok (.if_acmp .ne 7, 3) := by decide +kernel
theorem d1_7 : decode prog_27_method_5_code 7 = .ok (.iconst 1, 1) := by decide +kernel
theorem d1_8 : decode prog_27_method_5_code 8 = .ok (.goto 4, 3) := by decide +kernel
theorem d1_11 : decode prog_27_method_5_code 11 = .ok (.iconst 0, 1) := by decide +kernel
theorem d1_12 : decode prog_27_method_5_code 12 = .ok (.ireturn, 1) := by decide +kernel
theorem pn_1 : plainName "com/example/stablemate/stablemate/core/MarketType" = true := by first | (simp [plainName, overriddenIn]; done) | decide +kernel
theorem ef_1 (m : MethodId) (a1 : Addr) : entryFrame m #[(.ref a1)] 1 = mkF m 0 #[.val (.ref a1)] [] := by first | rfl | (simp [entryFrame, mkF, argsToLocals, Value.category]; done)
theorem pd_1 : parseMethodDescriptor "()Z" = some ⟨[], some .boolean⟩ := by decide +kernel
def Q1 (Z : State) (a1 : Addr) (k5 : Addr) (h0 : Heap) (n0 : Nat) (v : Option Value) (h : Heap) (L : List Loc) : Prop := (a1 = k5 → v = some (.int 1)) ∧ (¬ a1 = k5 → v = some (.int 0)) ∧ Fr n0 L ∧ h0 = h
theorem rm1 (l : Launch) (Z : State) (a0 : Array Value) (hw : ∀ d ∈ tables_1, d.before a0 Z = true) (ws : List Jvm.Cond) (a1 : Addr) (k5 : Addr) (h0 : Heap) (n0 : Nat) (Z0 : n0 ≤ h0.size) (S5 : Sta Z h0 "com/example/stablemate/stablemate/core/MarketType" "REQUIREMENTS" "Lcom/example/stablemate/stablemate/core/MarketType;" (.ref k5)) :
    MetFree l (⟨"com/example/stablemate/stablemate/core/MarketType", "hasRequirements", "()Z"⟩ : MethodName) (head1 (Jvm.Cond.code (⟨"com/example/stablemate/stablemate/core/MarketType", "hasRequirements", "()Z"⟩ : MethodName) prog_27_method_5_code 1 (some .boolean) :: ws) ({ frames := 0, cells := 0, slots := 0, locals := 0 } : Room)) (fun a U => a = #[(.ref a1)] ∧ Z.Warmed39 U.vm ∧ U.heap = h0) (fun _ _ _ _ _ => True) (fun _ U o U' => ∃ v L, o = .returned v ∧ (Q1 Z a1 k5 h0 n0) v U'.heap L ∧ FrameEnd U o U' L ({ frames := 0, cells := 0, slots := 0, locals := 0 } : Room).cells ({ frames := 0, cells := 0, slots := 0, locals := 0 } : Room).slots) := by
  refine MetFree.of_bodySF (plainFor_of_name pn_1) hisR ?_
  intro p e s m args below meth c s₁ Bd hml0 hP hK
  obtain ⟨rfl, hZ, hh⟩ := hP
  have hx := Bd.exec
  have hby := Bd.bytes
  have hml : c.maxLocals = 1 := hml0
  have hown : s.vm.findClass "com/example/stablemate/stablemate/core/MarketType" = some m.cls := findClass_of_methodNamed Bd.named
  have hnm := (name_of_methodNamed Bd.named Bd.method).1
  have X0 : Stand p l e ({ frames := 0, cells := 0, slots := 0, locals := 0 } : Room) s m #[(.ref a1)] below meth c s₁ [] 0 0 := Stand.of_body Bd
  have e0 : s₁.heap = h0 := by rw [← hh, Bd.state]; rfl
  have N0 := Fr.nil n0
  have lk : meth.locks = false := BodyLoose.notSynchronized Bd
  have hret := Bd.returns
  show Ends p e below s ({ frames := 0, cells := 0, slots := 0, locals := 0 } : Room).cells ({ frames := 0, cells := 0, slots := 0, locals := 0 } : Room).slots (Q1 Z a1 k5 h0 n0) (s₁.setTop (entryFrame m #[(.ref a1)] 1))
  refine Ends.cast (ef_1 m a1) ?_
  refine own_aloadN (n := 1) X0 hx (hb hby d1_0) rfl rfl rfl ?_
  refine own_getS (n := 4) X0 hx hZ hown (hw _ (List.mem_of_getElem? (i := 9) rfl)) e0 S5 (hb hby d1_1) rfl ?_
  intro T1 X1 e1
  by_cases c4 : ((.ref a1) : Value) = (.ref k5)
  · refine own_acmpNo (n := 7) X1 hx (hb hby d1_4) rfl rfl (Jvm.Free.XT.aa_ne_f c4) rfl ?_
    refine own_iconst (n := 8) X1 hx (1 : Int32) (hb hby d1_7) rfl rfl ?_
    refine own_goto (n := 12) X1 hx (hb hby d1_8) (by decide) (by decide) ?_
    refine own_retN X1 hx lk hret (by simp) (hb hby d1_12) (by decide) (by decide) ?_
    rw [e1]
    exact ⟨fun q => rfl, fun q => absurd (Value.ref.inj c4) q, N0, rfl⟩
  · refine own_acmpYes (n := 11) X1 hx (hb hby d1_4) rfl rfl (Jvm.Free.XT.aa_ne_t c4) (by decide) (by decide) ?_
    refine own_iconst (n := 12) X1 hx (0 : Int32) (hb hby d1_11) rfl rfl ?_
    refine own_retN X1 hx lk hret (by simp) (hb hby d1_12) (by decide) (by decide) ?_
    rw [e1]
    exact ⟨fun q => absurd (congrArg Value.ref q) c4, fun q => rfl, N0, rfl⟩
theorem pn_0 : plainName "com/example/stablemate/stablemate/core/MarketTypeHasRequirementsPinLaw" = true := by first | (simp [plainName, overriddenIn]; done) | decide +kernel
theorem ef_0 (m : MethodId) (p1 : Int32) : entryFrame m #[(.int p1)] maxLocals = mkF m 0 #[.val (.int p1), .unset, .unset, .unset] [] := by first | rfl | (simp [entryFrame, mkF, argsToLocals, Value.category, maxLocals]; done)
def Q0 (Z : State) (p1 : Int32) (k0 : Addr) (k1 : Addr) (k2 : Addr) (k3 : Addr) (k4 : Addr) (k5 : Addr) (h0 : Heap) (n0 : Nat) (v : Option Value) (h : Heap) (L : List Loc) : Prop := v = some (.int 1) ∧ Fr n0 L
theorem rm0 (l : Launch) (Z : State) (a0 : Array Value) (hw : ∀ d ∈ tables_1, d.before a0 Z = true) (ws : List Jvm.Cond) (p1 : Int32) (k0 : Addr) (k1 : Addr) (k2 : Addr) (k3 : Addr) (k4 : Addr) (k5 : Addr) (h0 : Heap) (n0 : Nat) (Z0 : n0 ≤ h0.size) (S0 : Sta Z h0 "com/example/stablemate/stablemate/core/MarketType" "PROPORTIONAL_UNIFORM" "Lcom/example/stablemate/stablemate/core/MarketType;" (.ref k0)) (S1 : Sta Z h0 "com/example/stablemate/stablemate/core/MarketType" "PROPORTIONAL_NONUNIFORM" "Lcom/example/stablemate/stablemate/core/MarketType;" (.ref k1)) (S2 : Sta Z h0 "com/example/stablemate/stablemate/core/MarketType" "NONPROPORTIONAL_UNIFORM" "Lcom/example/stablemate/stablemate/core/MarketType;" (.ref k2)) (S3 : Sta Z h0 "com/example/stablemate/stablemate/core/MarketType" "NONPROPORTIONAL_NONUNIFORM" "Lcom/example/stablemate/stablemate/core/MarketType;" (.ref k3)) (S4 : Sta Z h0 "com/example/stablemate/stablemate/core/MarketType" "RANKING" "Lcom/example/stablemate/stablemate/core/MarketType;" (.ref k4)) (S5 : Sta Z h0 "com/example/stablemate/stablemate/core/MarketType" "REQUIREMENTS" "Lcom/example/stablemate/stablemate/core/MarketType;" (.ref k5)) (E0 : Exa Z h0 k0 "com/example/stablemate/stablemate/core/MarketType") (E1 : Exa Z h0 k1 "com/example/stablemate/stablemate/core/MarketType") (E2 : Exa Z h0 k2 "com/example/stablemate/stablemate/core/MarketType") (E3 : Exa Z h0 k3 "com/example/stablemate/stablemate/core/MarketType") (E4 : Exa Z h0 k4 "com/example/stablemate/stablemate/core/MarketType") (E5 : Exa Z h0 k5 "com/example/stablemate/stablemate/core/MarketType") (hne0 : k0 ≠ k5) (hne1 : k1 ≠ k5) (hne2 : k2 ≠ k5) (hne3 : k3 ≠ k5) (hne4 : k4 ≠ k5) :
    MetFree l x (head1 (Jvm.Cond.code x code maxLocals ret :: ws) room_1) (fun a U => a = #[(.int p1)] ∧ Z.Warmed39 U.vm ∧ U.heap = h0) (fun _ _ _ _ _ => True) (fun _ U o U' => ∃ v L, o = .returned v ∧ (Q0 Z p1 k0 k1 k2 k3 k4 k5 h0 n0) v U'.heap L ∧ FrameEnd U o U' L 0 0) := by
  refine MetFree.of_bodySF (plainFor_of_name pn_0) hisR ?_
  intro p e s m args below meth c s₁ Bd hml0 hP hK
  obtain ⟨rfl, hZ, hh⟩ := hP
  have hx := Bd.exec
  have hby := Bd.bytes
  have hml : c.maxLocals = 4 := hml0
  have hown : s.vm.findClass "com/example/stablemate/stablemate/core/MarketTypeHasRequirementsPinLaw" = some m.cls := findClass_of_methodNamed Bd.named
  have hnm := (name_of_methodNamed Bd.named Bd.method).1
  have X0 : Stand p l e room_1 s m #[(.int p1)] below meth c s₁ [] 0 0 := Stand.of_body Bd
  have e0 : s₁.heap = h0 := by rw [← hh, Bd.state]; rfl
  have N0 := Fr.nil n0
  have lk : meth.locks = false := BodyLoose.notSynchronized Bd
  have hret := Bd.returns
  show Ends p e below s 0 0 (Q0 Z p1 k0 k1 k2 k3 k4 k5 h0 n0) (s₁.setTop (entryFrame m #[(.int p1)] maxLocals))
  refine Ends.cast (ef_0 m p1) ?_
  refine own_iloadN (n := 1) X0 hx (hb hby at_0) rfl rfl ?_
  refine own_ldc (n := 3) X0 hx hZ hown (hw _ (List.mem_of_getElem? (i := 0) rfl)) (hb hby at_1) rfl ?_
  refine own_iand (n := 4) X0 hx (hb hby at_3) rfl ?_
  refine own_bipush (n := 6) X0 hx (6 : Int32) (hb hby at_4) rfl rfl ?_
  refine own_irem (n := 7) X0 hx (hb hby at_6) (by decide) rfl ?_
  refine own_istoreN (n := 8) X0 hx (hb hby at_7) (l' := #[.val (.int p1), .val (.int ((p1 &&& (2147483647 : Int32)) % (6 : Int32))), .unset, .unset]) rfl rfl ?_
  show Ends p e below s 0 0 (Q0 Z p1 k0 k1 k2 k3 k4 k5 h0 n0) (s₁.setTop (mkF m 8 #[.val (.int p1), .val (.int ((p1 &&& (2147483647 : Int32)) % (6 : Int32))), .unset, .unset] []))
  generalize g_i1 : ((p1 &&& (2147483647 : Int32)) % (6 : Int32)) = i1
  refine own_iloadN (n := 9) X0 hx (hb hby at_8) rfl rfl ?_
  by_cases c9 : i1 = 0
  · refine own_ifNo (n := 12) X0 hx (hb hby at_9) (Jvm.Free.XT.i0_ne_f c9) rfl ?_
    refine own_getS (n := 15) X0 hx hZ hown (hw _ (List.mem_of_getElem? (i := 1) rfl)) e0 S0 (hb hby at_12) rfl ?_
    intro T1 X1 e1
    refine own_astoreN (n := 16) X1 hx (hb hby at_15) rfl (l' := #[.val (.int p1), .val (.int i1), .val (.ref k0), .unset]) rfl rfl ?_
    refine own_iconst (n := 17) X1 hx (0 : Int32) (hb hby at_16) rfl rfl ?_
    refine own_istoreN (n := 18) X1 hx (hb hby at_17) (l' := #[.val (.int p1), .val (.int i1), .val (.ref k0), .val (.int (0 : Int32))]) rfl rfl ?_
    refine own_goto (n := 83) X1 hx (hb hby at_18) (by decide) (by decide) ?_
    refine own_aloadN (n := 84) X1 hx (hb hby at_83) rfl rfl rfl ?_
    refine own_callV (n := 87) X1 hx hZ hown (hw _ (List.mem_of_getElem? (i := 4) rfl)) (hw _ (List.mem_of_getElem? (i := 5) rfl)) (hw _ (List.mem_of_getElem? (i := 7) rfl)) (hw _ (List.mem_of_getElem? (i := 6) rfl)) (hw _ (List.mem_of_getElem? (i := 2) rfl)) (hw _ (List.mem_of_getElem? (i := 8) rfl)) (by decide) e1 E0 (rm1 l Z a0 hw [] k0 k5 h0 n0 Z0 S5) (W := 0) (by decide) (by decide) (by decide) (by decide) (by rw [hml]; rfl) (argsL := []) (rest := []) pd_1 rfl (by rfl) (Nat.le_of_eq rfl) (hb hby at_84) rfl rfl ?_
    intro v2 T2 h2 L2 X2 e2 q2
    obtain ⟨qa2, qb2, M2, rfl⟩ := q2
    have N2 := Fr.app N0 M2
    obtain rfl := qb2 hne0
    refine own_iloadN (n := 88) X2 hx (hb hby at_87) rfl rfl ?_
    refine own_icmpNo (n := 91) X2 hx (hb hby at_88) (Jvm.Free.XT.ii_ne_f rfl) rfl ?_
    refine own_iconst (n := 92) X2 hx (1 : Int32) (hb hby at_91) rfl rfl ?_
    refine own_goto (n := 96) X2 hx (hb hby at_92) (by decide) (by decide) ?_
    refine own_retN X2 hx lk hret (by simp) (hb hby at_96) (by decide) (by decide) ?_
    rw [e2]
    exact ⟨rfl, N2⟩
  · refine own_ifYes (n := 21) X0 hx (hb hby at_9) (Jvm.Free.XT.i0_ne_t c9) (by decide) (by decide) ?_
    refine own_iloadN (n := 22) X0 hx (hb hby at_21) rfl rfl ?_
    refine own_iconst (n := 23) X0 hx (1 : Int32) (hb hby at_22) rfl rfl ?_
    by_cases c23 : i1 = (1 : Int32)
    · refine own_icmpNo (n := 26) X0 hx (hb hby at_23) (Jvm.Free.XT.ii_ne_f c23) rfl ?_
      refine own_getS (n := 29) X0 hx hZ hown (hw _ (List.mem_of_getElem? (i := 15) rfl)) e0 S1 (hb hby at_26) rfl ?_
      intro T3 X3 e3
      refine own_astoreN (n := 30) X3 hx (hb hby at_29) rfl (l' := #[.val (.int p1), .val (.int i1), .val (.ref k1), .unset]) rfl rfl ?_
      refine own_iconst (n := 31) X3 hx (0 : Int32) (hb hby at_30) rfl rfl ?_
      refine own_istoreN (n := 32) X3 hx (hb hby at_31) (l' := #[.val (.int p1), .val (.int i1), .val (.ref k1), .val (.int (0 : Int32))]) rfl rfl ?_
      refine own_goto (n := 83) X3 hx (hb hby at_32) (by decide) (by decide) ?_
      refine own_aloadN (n := 84) X3 hx (hb hby at_83) rfl rfl rfl ?_
      refine own_callV (n := 87) X3 hx hZ hown (hw _ (List.mem_of_getElem? (i := 4) rfl)) (hw _ (List.mem_of_getElem? (i := 5) rfl)) (hw _ (List.mem_of_getElem? (i := 7) rfl)) (hw _ (List.mem_of_getElem? (i := 6) rfl)) (hw _ (List.mem_of_getElem? (i := 2) rfl)) (hw _ (List.mem_of_getElem? (i := 8) rfl)) (by decide) e3 E1 (rm1 l Z a0 hw [] k1 k5 h0 n0 Z0 S5) (W := 0) (by decide) (by decide) (by decide) (by decide) (by rw [hml]; rfl) (argsL := []) (rest := []) pd_1 rfl (by rfl) (Nat.le_of_eq rfl) (hb hby at_84) rfl rfl ?_
      intro v4 T4 h4 L4 X4 e4 q4
      obtain ⟨qa4, qb4, M4, rfl⟩ := q4
      have N4 := Fr.app N0 M4
      obtain rfl := qb4 hne1
      refine own_iloadN (n := 88) X4 hx (hb hby at_87) rfl rfl ?_
      refine own_icmpNo (n := 91) X4 hx (hb hby at_88) (Jvm.Free.XT.ii_ne_f rfl) rfl ?_
      refine own_iconst (n := 92) X4 hx (1 : Int32) (hb hby at_91) rfl rfl ?_
      refine own_goto (n := 96) X4 hx (hb hby at_92) (by decide) (by decide) ?_
      refine own_retN X4 hx lk hret (by simp) (hb hby at_96) (by decide) (by decide) ?_
      rw [e4]
      exact ⟨rfl, N4⟩
    · refine own_icmpYes (n := 35) X0 hx (hb hby at_23) (Jvm.Free.XT.ii_ne_t c23) (by decide) (by decide) ?_
      refine own_iloadN (n := 36) X0 hx (hb hby at_35) rfl rfl ?_
      refine own_iconst (n := 37) X0 hx (2 : Int32) (hb hby at_36) rfl rfl ?_
      by_cases c37 : i1 = (2 : Int32)
      · refine own_icmpNo (n := 40) X0 hx (hb hby at_37) (Jvm.Free.XT.ii_ne_f c37) rfl ?_
        refine own_getS (n := 43) X0 hx hZ hown (hw _ (List.mem_of_getElem? (i := 13) rfl)) e0 S2 (hb hby at_40) rfl ?_
        intro T5 X5 e5
        refine own_astoreN (n := 44) X5 hx (hb hby at_43) rfl (l' := #[.val (.int p1), .val (.int i1), .val (.ref k2), .unset]) rfl rfl ?_
        refine own_iconst (n := 45) X5 hx (0 : Int32) (hb hby at_44) rfl rfl ?_
        refine own_istoreN (n := 46) X5 hx (hb hby at_45) (l' := #[.val (.int p1), .val (.int i1), .val (.ref k2), .val (.int (0 : Int32))]) rfl rfl ?_
        refine own_goto (n := 83) X5 hx (hb hby at_46) (by decide) (by decide) ?_
        refine own_aloadN (n := 84) X5 hx (hb hby at_83) rfl rfl rfl ?_
        refine own_callV (n := 87) X5 hx hZ hown (hw _ (List.mem_of_getElem? (i := 4) rfl)) (hw _ (List.mem_of_getElem? (i := 5) rfl)) (hw _ (List.mem_of_getElem? (i := 7) rfl)) (hw _ (List.mem_of_getElem? (i := 6) rfl)) (hw _ (List.mem_of_getElem? (i := 2) rfl)) (hw _ (List.mem_of_getElem? (i := 8) rfl)) (by decide) e5 E2 (rm1 l Z a0 hw [] k2 k5 h0 n0 Z0 S5) (W := 0) (by decide) (by decide) (by decide) (by decide) (by rw [hml]; rfl) (argsL := []) (rest := []) pd_1 rfl (by rfl) (Nat.le_of_eq rfl) (hb hby at_84) rfl rfl ?_
        intro v6 T6 h6 L6 X6 e6 q6
        obtain ⟨qa6, qb6, M6, rfl⟩ := q6
        have N6 := Fr.app N0 M6
        obtain rfl := qb6 hne2
        refine own_iloadN (n := 88) X6 hx (hb hby at_87) rfl rfl ?_
        refine own_icmpNo (n := 91) X6 hx (hb hby at_88) (Jvm.Free.XT.ii_ne_f rfl) rfl ?_
        refine own_iconst (n := 92) X6 hx (1 : Int32) (hb hby at_91) rfl rfl ?_
        refine own_goto (n := 96) X6 hx (hb hby at_92) (by decide) (by decide) ?_
        refine own_retN X6 hx lk hret (by simp) (hb hby at_96) (by decide) (by decide) ?_
        rw [e6]
        exact ⟨rfl, N6⟩
      · refine own_icmpYes (n := 49) X0 hx (hb hby at_37) (Jvm.Free.XT.ii_ne_t c37) (by decide) (by decide) ?_
        refine own_iloadN (n := 50) X0 hx (hb hby at_49) rfl rfl ?_
        refine own_iconst (n := 51) X0 hx (3 : Int32) (hb hby at_50) rfl rfl ?_
        by_cases c51 : i1 = (3 : Int32)
        · refine own_icmpNo (n := 54) X0 hx (hb hby at_51) (Jvm.Free.XT.ii_ne_f c51) rfl ?_
          refine own_getS (n := 57) X0 hx hZ hown (hw _ (List.mem_of_getElem? (i := 11) rfl)) e0 S3 (hb hby at_54) rfl ?_
          intro T7 X7 e7
          refine own_astoreN (n := 58) X7 hx (hb hby at_57) rfl (l' := #[.val (.int p1), .val (.int i1), .val (.ref k3), .unset]) rfl rfl ?_
          refine own_iconst (n := 59) X7 hx (0 : Int32) (hb hby at_58) rfl rfl ?_
          refine own_istoreN (n := 60) X7 hx (hb hby at_59) (l' := #[.val (.int p1), .val (.int i1), .val (.ref k3), .val (.int (0 : Int32))]) rfl rfl ?_
          refine own_goto (n := 83) X7 hx (hb hby at_60) (by decide) (by decide) ?_
          refine own_aloadN (n := 84) X7 hx (hb hby at_83) rfl rfl rfl ?_
          refine own_callV (n := 87) X7 hx hZ hown (hw _ (List.mem_of_getElem? (i := 4) rfl)) (hw _ (List.mem_of_getElem? (i := 5) rfl)) (hw _ (List.mem_of_getElem? (i := 7) rfl)) (hw _ (List.mem_of_getElem? (i := 6) rfl)) (hw _ (List.mem_of_getElem? (i := 2) rfl)) (hw _ (List.mem_of_getElem? (i := 8) rfl)) (by decide) e7 E3 (rm1 l Z a0 hw [] k3 k5 h0 n0 Z0 S5) (W := 0) (by decide) (by decide) (by decide) (by decide) (by rw [hml]; rfl) (argsL := []) (rest := []) pd_1 rfl (by rfl) (Nat.le_of_eq rfl) (hb hby at_84) rfl rfl ?_
          intro v8 T8 h8 L8 X8 e8 q8
          obtain ⟨qa8, qb8, M8, rfl⟩ := q8
          have N8 := Fr.app N0 M8
          obtain rfl := qb8 hne3
          refine own_iloadN (n := 88) X8 hx (hb hby at_87) rfl rfl ?_
          refine own_icmpNo (n := 91) X8 hx (hb hby at_88) (Jvm.Free.XT.ii_ne_f rfl) rfl ?_
          refine own_iconst (n := 92) X8 hx (1 : Int32) (hb hby at_91) rfl rfl ?_
          refine own_goto (n := 96) X8 hx (hb hby at_92) (by decide) (by decide) ?_
          refine own_retN X8 hx lk hret (by simp) (hb hby at_96) (by decide) (by decide) ?_
          rw [e8]
          exact ⟨rfl, N8⟩
        · refine own_icmpYes (n := 63) X0 hx (hb hby at_51) (Jvm.Free.XT.ii_ne_t c51) (by decide) (by decide) ?_
          refine own_iloadN (n := 64) X0 hx (hb hby at_63) rfl rfl ?_
          refine own_iconst (n := 65) X0 hx (4 : Int32) (hb hby at_64) rfl rfl ?_
          by_cases c65 : i1 = (4 : Int32)
          · refine own_icmpNo (n := 68) X0 hx (hb hby at_65) (Jvm.Free.XT.ii_ne_f c65) rfl ?_
            refine own_getS (n := 71) X0 hx hZ hown (hw _ (List.mem_of_getElem? (i := 18) rfl)) e0 S4 (hb hby at_68) rfl ?_
            intro T9 X9 e9
            refine own_astoreN (n := 72) X9 hx (hb hby at_71) rfl (l' := #[.val (.int p1), .val (.int i1), .val (.ref k4), .unset]) rfl rfl ?_
            refine own_iconst (n := 73) X9 hx (0 : Int32) (hb hby at_72) rfl rfl ?_
            refine own_istoreN (n := 74) X9 hx (hb hby at_73) (l' := #[.val (.int p1), .val (.int i1), .val (.ref k4), .val (.int (0 : Int32))]) rfl rfl ?_
            refine own_goto (n := 83) X9 hx (hb hby at_74) (by decide) (by decide) ?_
            refine own_aloadN (n := 84) X9 hx (hb hby at_83) rfl rfl rfl ?_
            refine own_callV (n := 87) X9 hx hZ hown (hw _ (List.mem_of_getElem? (i := 4) rfl)) (hw _ (List.mem_of_getElem? (i := 5) rfl)) (hw _ (List.mem_of_getElem? (i := 7) rfl)) (hw _ (List.mem_of_getElem? (i := 6) rfl)) (hw _ (List.mem_of_getElem? (i := 2) rfl)) (hw _ (List.mem_of_getElem? (i := 8) rfl)) (by decide) e9 E4 (rm1 l Z a0 hw [] k4 k5 h0 n0 Z0 S5) (W := 0) (by decide) (by decide) (by decide) (by decide) (by rw [hml]; rfl) (argsL := []) (rest := []) pd_1 rfl (by rfl) (Nat.le_of_eq rfl) (hb hby at_84) rfl rfl ?_
            intro v10 T10 h10 L10 X10 e10 q10
            obtain ⟨qa10, qb10, M10, rfl⟩ := q10
            have N10 := Fr.app N0 M10
            obtain rfl := qb10 hne4
            refine own_iloadN (n := 88) X10 hx (hb hby at_87) rfl rfl ?_
            refine own_icmpNo (n := 91) X10 hx (hb hby at_88) (Jvm.Free.XT.ii_ne_f rfl) rfl ?_
            refine own_iconst (n := 92) X10 hx (1 : Int32) (hb hby at_91) rfl rfl ?_
            refine own_goto (n := 96) X10 hx (hb hby at_92) (by decide) (by decide) ?_
            refine own_retN X10 hx lk hret (by simp) (hb hby at_96) (by decide) (by decide) ?_
            rw [e10]
            exact ⟨rfl, N10⟩
          · refine own_icmpYes (n := 77) X0 hx (hb hby at_65) (Jvm.Free.XT.ii_ne_t c65) (by decide) (by decide) ?_
            refine own_getS (n := 80) X0 hx hZ hown (hw _ (List.mem_of_getElem? (i := 17) rfl)) e0 S5 (hb hby at_77) rfl ?_
            intro T11 X11 e11
            refine own_astoreN (n := 81) X11 hx (hb hby at_80) rfl (l' := #[.val (.int p1), .val (.int i1), .val (.ref k5), .unset]) rfl rfl ?_
            refine own_iconst (n := 82) X11 hx (1 : Int32) (hb hby at_81) rfl rfl ?_
            refine own_istoreN (n := 83) X11 hx (hb hby at_82) (l' := #[.val (.int p1), .val (.int i1), .val (.ref k5), .val (.int (1 : Int32))]) rfl rfl ?_
            refine own_aloadN (n := 84) X11 hx (hb hby at_83) rfl rfl rfl ?_
            refine own_callV (n := 87) X11 hx hZ hown (hw _ (List.mem_of_getElem? (i := 4) rfl)) (hw _ (List.mem_of_getElem? (i := 5) rfl)) (hw _ (List.mem_of_getElem? (i := 7) rfl)) (hw _ (List.mem_of_getElem? (i := 6) rfl)) (hw _ (List.mem_of_getElem? (i := 2) rfl)) (hw _ (List.mem_of_getElem? (i := 8) rfl)) (by decide) e11 E5 (rm1 l Z a0 hw [] k5 k5 h0 n0 Z0 S5) (W := 0) (by decide) (by decide) (by decide) (by decide) (by rw [hml]; rfl) (argsL := []) (rest := []) pd_1 rfl (by rfl) (Nat.le_of_eq rfl) (hb hby at_84) rfl rfl ?_
            intro v12 T12 h12 L12 X12 e12 q12
            obtain ⟨qa12, qb12, M12, rfl⟩ := q12
            have N12 := Fr.app N0 M12
            obtain rfl := qa12 rfl
            refine own_iloadN (n := 88) X12 hx (hb hby at_87) rfl rfl ?_
            refine own_icmpNo (n := 91) X12 hx (hb hby at_88) (Jvm.Free.XT.ii_ne_f rfl) rfl ?_
            refine own_iconst (n := 92) X12 hx (1 : Int32) (hb hby at_91) rfl rfl ?_
            refine own_goto (n := 96) X12 hx (hb hby at_92) (by decide) (by decide) ?_
            refine own_retN X12 hx lk hret (by simp) (hb hby at_96) (by decide) (by decide) ?_
            rw [e12]
            exact ⟨rfl, N12⟩
theorem comes_1 {Post : Tables → Env → Array Value → State → Outcome → State → Prop} (hpost : ∀ tb e args s v u, (limb_1_1.after args s (.returned v) u = true ∧ limb_1_2.after args s (.returned v) u = true ∧ True) → FrameEnd s (.returned v) u (Jvm.fieldLocs frame_1_writes args s ++ Jvm.arrayLocs frame_1_arrays args s ++ Jvm.staticLocs frame_1_statics s) 0 0 → Post tb e args s (.returned v) u) :
    ArmFor flags0 classFile x code maxLocals ret World_1 tables_1 room_1 Calls_1 rest_1 Pre_1 Post := by
  intro l hfl _ _ p e ha hc hk s m args below hf hA hF happ hP
  obtain ⟨hcalls, hrest, hpre⟩ := hP
  obtain ⟨-, -, -, hnamed, -, -, -, hat⟩ := (Spec.applies_iff hf).mp happ
  obtain ⟨hg, hn⟩ := and_e (Cond.before_iff.mp (show (Jvm.Cond.and given_1 narrow_1).before args s = true from hpre))
  obtain ⟨hcount, hg0⟩ := and_e hg
  obtain ⟨w0, rfl⟩ : ∃ w0 : Value, args = #[w0] := by
    have hs : args.size = 1 := by simpa [Cond.value, given_1] using hcount
    obtain ⟨L⟩ := args
    match L, hs with
    | [w0], _ => exact ⟨w0, rfl⟩
  have hw := fun d (hd : d ∈ tables_1) => atoms_spec (ws := Jvm.Cond.code x code maxLocals ret :: tables_1) hat d (List.mem_cons_of_mem _ hd)
  have hfit : Fit s := fun {y c} hc i hi => by
    obtain ⟨ha, rfl⟩ := Array.getElem?_eq_some_iff.mp hc
    have q := List.all_eq_true.mp ((Array.all_eq_true_iff_forall_mem.mp hF) _ (Array.getElem_mem ha)) i (List.mem_range.mpr hi)
    simpa [Array.getElem?_eq_getElem hi] using q
  obtain ⟨i0, j0⟩ := is_v hg0
  obtain rfl : w0 = (.int i0) := Option.some.inj j0
  obtain ⟨m0, t0⟩ := and_e hn
  obtain ⟨m1, t1⟩ := and_e t0
  obtain ⟨m2, t2⟩ := and_e t1
  obtain ⟨m3, t3⟩ := and_e t2
  obtain ⟨m4, t4⟩ := and_e t3
  obtain ⟨m5, t5⟩ := and_e t4
  obtain ⟨m6, t6⟩ := and_e t5
  obtain ⟨m7, t7⟩ := and_e t6
  obtain ⟨m8, t8⟩ := and_e t7
  obtain ⟨m9, t9⟩ := and_e t8
  obtain ⟨m10, t10⟩ := and_e t9
  have m11 := t10
  obtain ⟨A_PROPORTIONAL_UNIFORM, ev_PROPORTIONAL_UNIFORM⟩ := exa_v m0
  have S_PROPORTIONAL_UNIFORM : Sta s s.heap "com/example/stablemate/stablemate/core/MarketType" "PROPORTIONAL_UNIFORM" "Lcom/example/stablemate/stablemate/core/MarketType;" (.ref A_PROPORTIONAL_UNIFORM) := Sta.start ev_PROPORTIONAL_UNIFORM (Or.inr ⟨(hw _ (List.mem_of_getElem? (i := 2) rfl)), (hw _ (List.mem_of_getElem? (i := 3) rfl))⟩)
  have E_PROPORTIONAL_UNIFORM : Exa s s.heap A_PROPORTIONAL_UNIFORM "com/example/stablemate/stablemate/core/MarketType" := Exa.start ev_PROPORTIONAL_UNIFORM m0
  obtain ⟨A_REQUIREMENTS, ev_REQUIREMENTS⟩ := exa_v m1
  have S_REQUIREMENTS : Sta s s.heap "com/example/stablemate/stablemate/core/MarketType" "REQUIREMENTS" "Lcom/example/stablemate/stablemate/core/MarketType;" (.ref A_REQUIREMENTS) := Sta.start ev_REQUIREMENTS (Or.inr ⟨(hw _ (List.mem_of_getElem? (i := 2) rfl)), (hw _ (List.mem_of_getElem? (i := 10) rfl))⟩)
  have E_REQUIREMENTS : Exa s s.heap A_REQUIREMENTS "com/example/stablemate/stablemate/core/MarketType" := Exa.start ev_REQUIREMENTS m1
  obtain ⟨A_NONPROPORTIONAL_NONUNIFORM, ev_NONPROPORTIONAL_NONUNIFORM⟩ := exa_v m4
  have S_NONPROPORTIONAL_NONUNIFORM : Sta s s.heap "com/example/stablemate/stablemate/core/MarketType" "NONPROPORTIONAL_NONUNIFORM" "Lcom/example/stablemate/stablemate/core/MarketType;" (.ref A_NONPROPORTIONAL_NONUNIFORM) := Sta.start ev_NONPROPORTIONAL_NONUNIFORM (Or.inr ⟨(hw _ (List.mem_of_getElem? (i := 2) rfl)), (hw _ (List.mem_of_getElem? (i := 12) rfl))⟩)
  have E_NONPROPORTIONAL_NONUNIFORM : Exa s s.heap A_NONPROPORTIONAL_NONUNIFORM "com/example/stablemate/stablemate/core/MarketType" := Exa.start ev_NONPROPORTIONAL_NONUNIFORM m4
  obtain ⟨A_NONPROPORTIONAL_UNIFORM, ev_NONPROPORTIONAL_UNIFORM⟩ := exa_v m6
  have S_NONPROPORTIONAL_UNIFORM : Sta s s.heap "com/example/stablemate/stablemate/core/MarketType" "NONPROPORTIONAL_UNIFORM" "Lcom/example/stablemate/stablemate/core/MarketType;" (.ref A_NONPROPORTIONAL_UNIFORM) := Sta.start ev_NONPROPORTIONAL_UNIFORM (Or.inr ⟨(hw _ (List.mem_of_getElem? (i := 2) rfl)), (hw _ (List.mem_of_getElem? (i := 14) rfl))⟩)
  have E_NONPROPORTIONAL_UNIFORM : Exa s s.heap A_NONPROPORTIONAL_UNIFORM "com/example/stablemate/stablemate/core/MarketType" := Exa.start ev_NONPROPORTIONAL_UNIFORM m6
  obtain ⟨A_PROPORTIONAL_NONUNIFORM, ev_PROPORTIONAL_NONUNIFORM⟩ := exa_v m8
  have S_PROPORTIONAL_NONUNIFORM : Sta s s.heap "com/example/stablemate/stablemate/core/MarketType" "PROPORTIONAL_NONUNIFORM" "Lcom/example/stablemate/stablemate/core/MarketType;" (.ref A_PROPORTIONAL_NONUNIFORM) := Sta.start ev_PROPORTIONAL_NONUNIFORM (Or.inr ⟨(hw _ (List.mem_of_getElem? (i := 2) rfl)), (hw _ (List.mem_of_getElem? (i := 16) rfl))⟩)
  have E_PROPORTIONAL_NONUNIFORM : Exa s s.heap A_PROPORTIONAL_NONUNIFORM "com/example/stablemate/stablemate/core/MarketType" := Exa.start ev_PROPORTIONAL_NONUNIFORM m8
  obtain ⟨A_RANKING, ev_RANKING⟩ := exa_v m10
  have S_RANKING : Sta s s.heap "com/example/stablemate/stablemate/core/MarketType" "RANKING" "Lcom/example/stablemate/stablemate/core/MarketType;" (.ref A_RANKING) := Sta.start ev_RANKING (Or.inr ⟨(hw _ (List.mem_of_getElem? (i := 2) rfl)), (hw _ (List.mem_of_getElem? (i := 19) rfl))⟩)
  have E_RANKING : Exa s s.heap A_RANKING "com/example/stablemate/stablemate/core/MarketType" := Exa.start ev_RANKING m10
  have O_PROPORTIONAL_UNIFORM_ordinal : Fld s s.heap A_PROPORTIONAL_UNIFORM "java/lang/Enum" "ordinal" "I" (.int (0 : Int32)) := own_fld ev_PROPORTIONAL_UNIFORM m2
  have O_REQUIREMENTS_ordinal : Fld s s.heap A_REQUIREMENTS "java/lang/Enum" "ordinal" "I" (.int (5 : Int32)) := own_fld ev_REQUIREMENTS m3
  have O_NONPROPORTIONAL_NONUNIFORM_ordinal : Fld s s.heap A_NONPROPORTIONAL_NONUNIFORM "java/lang/Enum" "ordinal" "I" (.int (3 : Int32)) := own_fld ev_NONPROPORTIONAL_NONUNIFORM m5
  have O_NONPROPORTIONAL_UNIFORM_ordinal : Fld s s.heap A_NONPROPORTIONAL_UNIFORM "java/lang/Enum" "ordinal" "I" (.int (2 : Int32)) := own_fld ev_NONPROPORTIONAL_UNIFORM m7
  have O_PROPORTIONAL_NONUNIFORM_ordinal : Fld s s.heap A_PROPORTIONAL_NONUNIFORM "java/lang/Enum" "ordinal" "I" (.int (1 : Int32)) := own_fld ev_PROPORTIONAL_NONUNIFORM m9
  have O_RANKING_ordinal : Fld s s.heap A_RANKING "java/lang/Enum" "ordinal" "I" (.int (4 : Int32)) := own_fld ev_RANKING m11
  obtain ⟨n, o, h1, h2, h3, _, L, rfl, ⟨rfl, N⟩, hq⟩ := rm0 l s _ hw tables_1 i0 A_PROPORTIONAL_UNIFORM A_PROPORTIONAL_NONUNIFORM A_NONPROPORTIONAL_UNIFORM A_NONPROPORTIONAL_NONUNIFORM A_RANKING A_REQUIREMENTS s.heap s.heap.size (Nat.le_refl _) S_PROPORTIONAL_UNIFORM S_PROPORTIONAL_NONUNIFORM S_NONPROPORTIONAL_UNIFORM S_NONPROPORTIONAL_NONUNIFORM S_RANKING S_REQUIREMENTS E_PROPORTIONAL_UNIFORM E_PROPORTIONAL_NONUNIFORM E_NONPROPORTIONAL_UNIFORM E_NONPROPORTIONAL_NONUNIFORM E_RANKING E_REQUIREMENTS (own_ords O_PROPORTIONAL_UNIFORM_ordinal O_REQUIREMENTS_ordinal (by decide)) (own_ords O_PROPORTIONAL_NONUNIFORM_ordinal O_REQUIREMENTS_ordinal (by decide)) (own_ords O_NONPROPORTIONAL_UNIFORM_ordinal O_REQUIREMENTS_ordinal (by decide)) (own_ords O_NONPROPORTIONAL_NONUNIFORM_ordinal O_REQUIREMENTS_ordinal (by decide)) (own_ords O_RANKING_ordinal O_REQUIREMENTS_ordinal (by decide)) p e ha hc hk s m _ below hf ((Spec.applies_iff_loose hf).mp happ).1 ⟨rfl, State.Warmed39.refl s, rfl⟩ trivial
  refine ⟨n, _, h1, h2, h3, hpost _ _ _ _ _ _ ⟨Cond.after_iff.mpr rfl, Cond.after_iff.mpr (eq_i res_at (Term.int_eval (1)) rfl), trivial⟩ ⟨hq.1, hq.2.1, (hq.2.2.sift fun y hy => Or.inr (N y hy)).mono (by decide) (by decide)⟩⟩
theorem main_1_1 : Claimed_1_1 := comes_1 fun _ _ _ _ _ _ h hF => ⟨h.1, hF⟩
theorem main_1_2 : Claimed_1_2 := comes_1 fun _ _ _ _ _ _ h hF => ⟨h.2.1, hF⟩
end Jvm.Pilot.@@N@@
namespace Jvm.Pilot.@@N@@
open Jvm Jvm.ClassFile Sem Op Lib Jvm.Free Jvm.Stand Jvm.Pilot.@@N@@.Jvm.D
/-! MADE BY PROGRAM (witnessworld.py) out of the Statement's table words and the real class files: 12 classes; the members and pool entries that the words name. The judged class is class 1, her method 1. -/
namespace start1
open Jvm.ClassFile
def u (s : String) : CpInfo := .utf8 (stringToUtf16 s)
/-- a pool by its gaps: so many unusable entries, then the entry; so many at the end -/
def gap : Nat → List CpInfo → List CpInfo
  | 0, r => r
  | n + 1, r => .unusable :: gap n r
def poolList (es : List (Nat × CpInfo)) (last : Nat) : List CpInfo := es.foldr (fun e r => gap e.1 (e.2 :: r)) (gap last [])
def pool (es : List (Nat × CpInfo)) (last : Nat) : Array CpInfo := ⟨poolList es last⟩
def fileOf (pool : Array CpInfo) (this : Nat) (attrs : Array Attribute := #[]) (ms : Array MethodInfo := #[]) (fl : Nat := 33) (sup : Nat := 0) (ifs : Array Nat := #[]) (fds : Array FieldInfo := #[]) : ClassFile where
  minorVersion := 0
  majorVersion := 65
  constantPool := pool
  accessFlags := fl
  thisClass := this
  superClass := sup
  interfaces := ifs
  fields := fds
  methods := ms
  attributes := attrs
def plain (name : String) (sup : Option ClassId) : Class where
  name := name
  kind := .ordinary
  loader := none
  accessFlags := 33
  super := sup
  interfaces := #[]
  cf := none
  fields := #[]
  methods := #[]
  instanceTypes := #[]
  staticTypes := #[]
  resolved := #[]
  callSites := []
  init := .initialized
  statics := none
  mirror := none

def pool0 : Array CpInfo := pool [(5, u "<init>"), (0, u "()V"), (1, .class_ 10), (1, u "java/lang/Object")] 113

def k0m0 : Method := { name := "<init>", desc := "()V", sig := { parameters := [], returnType := none }, accessFlags := 1, code := none }
/-- java/lang/Object -/
def k0 : Class := { plain "java/lang/Object" none with
  accessFlags := 33
  interfaces := #[]
  cf := some (fileOf pool0 8 #[] #[{ accessFlags := 1, nameIndex := 5, descriptorIndex := 6, attributes := #[] }] 33 0 #[] #[])
  fields := #[]
  methods := #[k0m0]
  instanceTypes := #[]
  staticTypes := #[]
  resolved := Array.replicate 124 none
  statics := none }

def pool1 : Array CpInfo := pool [(2, .class_ 4), (1, u "java/lang/Object"), (0, u "<init>"), (0, u "()V"), (0, .integer 2147483647), (0, .fieldref 9 10), (0, .class_ 11), (0, .nameAndType 12 13), (0, u "com/example/stablemate/stablemate/core/MarketType"), (0, u "PROPORTIONAL_UNIFORM"), (0, u "Lcom/example/stablemate/stablemate/core/MarketType;"), (0, .fieldref 9 15), (0, .nameAndType 16 13), (0, u "PROPORTIONAL_NONUNIFORM"), (0, .fieldref 9 18), (0, .nameAndType 19 13), (0, u "NONPROPORTIONAL_UNIFORM"), (0, .fieldref 9 21), (0, .nameAndType 22 13), (0, u "NONPROPORTIONAL_NONUNIFORM"), (0, .fieldref 9 24), (0, .nameAndType 25 13), (0, u "RANKING"), (0, .fieldref 9 27), (0, .nameAndType 28 13), (0, u "REQUIREMENTS"), (0, .methodref 9 30), (0, .nameAndType 31 32), (0, u "hasRequirements"), (0, u "()Z"), (0, .class_ 34), (0, u "com/example/stablemate/stablemate/core/MarketTypeHasRequirementsPinLaw"), (2, u "law"), (0, u "(I)Z")] 3

def k1m0 : Method := { name := "<init>", desc := "()V", sig := { parameters := [], returnType := none }, accessFlags := 1, code := none }
def k1c1 : Code := { maxStack := 2, maxLocals := 4, code := code, exceptionTable := #[], attributes := #[] }
def k1m1 : Method := { name := "law", desc := "(I)Z", sig := { parameters := [.int], returnType := some .boolean }, accessFlags := 9, code := some k1c1 }
/-- com/example/stablemate/stablemate/core/MarketTypeHasRequirementsPinLaw -/
def k1 : Class := { plain "com/example/stablemate/stablemate/core/MarketTypeHasRequirementsPinLaw" (some 0) with
  accessFlags := 49
  interfaces := #[]
  cf := some (fileOf pool1 33 #[] #[{ accessFlags := 1, nameIndex := 5, descriptorIndex := 6, attributes := #[] }, { accessFlags := 9, nameIndex := 37, descriptorIndex := 38, attributes := #[] }] 49 2 #[] #[])
  fields := #[]
  methods := #[k1m0, k1m1]
  instanceTypes := #[]
  staticTypes := #[]
  resolved := Array.replicate 42 none
  statics := none }

def pool2 : Array CpInfo := pool [(1, .class_ 2), (0, u "java/lang/constant/Constable"), (0, .class_ 4), (0, u "java/lang/Object")] 6

/-- java/lang/constant/Constable -/
def k2 : Class := { plain "java/lang/constant/Constable" (some 0) with
  accessFlags := 1537
  interfaces := #[]
  cf := some (fileOf pool2 1 #[] #[] 1537 3 #[] #[])
  fields := #[]
  methods := #[]
  instanceTypes := #[]
  staticTypes := #[]
  resolved := Array.replicate 11 none
  statics := none }

def pool3 : Array CpInfo := pool [(1, .class_ 2), (0, u "java/lang/Comparable"), (0, .class_ 4), (0, u "java/lang/Object")] 7

/-- java/lang/Comparable -/
def k3 : Class := { plain "java/lang/Comparable" (some 0) with
  accessFlags := 1537
  interfaces := #[]
  cf := some (fileOf pool3 1 #[] #[] 1537 3 #[] #[])
  fields := #[]
  methods := #[]
  instanceTypes := #[]
  staticTypes := #[]
  resolved := Array.replicate 12 none
  statics := none }

def pool4 : Array CpInfo := pool [(1, .class_ 2), (0, u "java/io/Serializable"), (0, .class_ 4), (0, u "java/lang/Object")] 2

/-- java/io/Serializable -/
def k4 : Class := { plain "java/io/Serializable" (some 0) with
  accessFlags := 1537
  interfaces := #[]
  cf := some (fileOf pool4 1 #[] #[] 1537 3 #[] #[])
  fields := #[]
  methods := #[]
  instanceTypes := #[]
  staticTypes := #[]
  resolved := Array.replicate 7 none
  statics := none }

def pool5 : Array CpInfo := pool [(2, .class_ 4), (1, u "java/lang/Enum"), (0, u "name"), (0, u "Ljava/lang/String;"), (2, u "ordinal"), (0, u "I"), (1, .class_ 14), (1, u "java/lang/Object"), (4, u "hash"), (86, .class_ 108), (1, u "java/lang/Enum$EnumDesc"), (2, .class_ 112), (0, u "java/lang/constant/Constable"), (0, .class_ 114), (0, u "java/lang/Comparable"), (0, .class_ 116), (0, u "java/io/Serializable")] 87

/-- java/lang/Enum -/
def k5 : Class := { plain "java/lang/Enum" (some 0) with
  accessFlags := 1057
  interfaces := #[2, 3, 4]
  cf := some (fileOf pool5 2 #[.nestMembers #[106]] #[] 1057 12 #[111, 113, 115] #[{ accessFlags := 18, nameIndex := 5, descriptorIndex := 6, attributes := #[] }, { accessFlags := 18, nameIndex := 9, descriptorIndex := 10, attributes := #[] }, { accessFlags := 2, nameIndex := 19, descriptorIndex := 10, attributes := #[] }])
  fields := #[{ name := "name", type := (.object "java/lang/String"), accessFlags := 18, slot := 0, constantValue := 0 }, { name := "ordinal", type := .int, accessFlags := 18, slot := 1, constantValue := 0 }, { name := "hash", type := .int, accessFlags := 2, slot := 2, constantValue := 0 }]
  methods := #[]
  instanceTypes := #[(.object "java/lang/String"), .int, .int]
  staticTypes := #[]
  resolved := Array.replicate 204 none
  statics := none }

def pool6 : Array CpInfo := pool [(1, .class_ 2), (0, u "com/example/stablemate/stablemate/core/MarketType"), (2, u "PROPORTIONAL_UNIFORM"), (0, u "Lcom/example/stablemate/stablemate/core/MarketType;"), (2, u "PROPORTIONAL_NONUNIFORM"), (2, u "NONPROPORTIONAL_UNIFORM"), (2, u "NONPROPORTIONAL_NONUNIFORM"), (2, u "RANKING"), (0, .fieldref 1 20), (0, .nameAndType 21 6), (0, u "REQUIREMENTS"), (2, u "$VALUES"), (0, u "[Lcom/example/stablemate/stablemate/core/MarketType;"), (6, .class_ 34), (1, u "java/lang/Enum"), (67, u "hasRequirements"), (0, u "()Z")] 4

def k6c0 : Code := { maxStack := 2, maxLocals := 1, code := prog_27_method_5_code, exceptionTable := #[], attributes := #[] }
def k6m0 : Method := { name := "hasRequirements", desc := "()Z", sig := { parameters := [], returnType := some .boolean }, accessFlags := 1, code := some k6c0 }
/-- com/example/stablemate/stablemate/core/MarketType -/
def k6 : Class := { plain "com/example/stablemate/stablemate/core/MarketType" (some 5) with
  accessFlags := 16433
  interfaces := #[]
  cf := some (fileOf pool6 1 #[] #[{ accessFlags := 1, nameIndex := 102, descriptorIndex := 103, attributes := #[] }] 16433 32 #[] #[{ accessFlags := 16409, nameIndex := 5, descriptorIndex := 6, attributes := #[] }, { accessFlags := 16409, nameIndex := 9, descriptorIndex := 6, attributes := #[] }, { accessFlags := 16409, nameIndex := 12, descriptorIndex := 6, attributes := #[] }, { accessFlags := 16409, nameIndex := 15, descriptorIndex := 6, attributes := #[] }, { accessFlags := 16409, nameIndex := 18, descriptorIndex := 6, attributes := #[] }, { accessFlags := 16409, nameIndex := 21, descriptorIndex := 6, attributes := #[] }, { accessFlags := 4122, nameIndex := 24, descriptorIndex := 25, attributes := #[] }])
  fields := #[{ name := "PROPORTIONAL_UNIFORM", type := (.object "com/example/stablemate/stablemate/core/MarketType"), accessFlags := 16409, slot := 0, constantValue := 0 }, { name := "PROPORTIONAL_NONUNIFORM", type := (.object "com/example/stablemate/stablemate/core/MarketType"), accessFlags := 16409, slot := 1, constantValue := 0 }, { name := "NONPROPORTIONAL_UNIFORM", type := (.object "com/example/stablemate/stablemate/core/MarketType"), accessFlags := 16409, slot := 2, constantValue := 0 }, { name := "NONPROPORTIONAL_NONUNIFORM", type := (.object "com/example/stablemate/stablemate/core/MarketType"), accessFlags := 16409, slot := 3, constantValue := 0 }, { name := "RANKING", type := (.object "com/example/stablemate/stablemate/core/MarketType"), accessFlags := 16409, slot := 4, constantValue := 0 }, { name := "REQUIREMENTS", type := (.object "com/example/stablemate/stablemate/core/MarketType"), accessFlags := 16409, slot := 5, constantValue := 0 }, { name := "$VALUES", type := (.array (.object "com/example/stablemate/stablemate/core/MarketType")), accessFlags := 4122, slot := 6, constantValue := 0 }]
  methods := #[k6m0]
  instanceTypes := #[(.object "java/lang/String"), .int, .int]
  staticTypes := #[(.object "com/example/stablemate/stablemate/core/MarketType"), (.object "com/example/stablemate/stablemate/core/MarketType"), (.object "com/example/stablemate/stablemate/core/MarketType"), (.object "com/example/stablemate/stablemate/core/MarketType"), (.object "com/example/stablemate/stablemate/core/MarketType"), (.object "com/example/stablemate/stablemate/core/MarketType"), (.array (.object "com/example/stablemate/stablemate/core/MarketType"))]
  resolved := Array.replicate 108 none
  statics := some 0 }

def pool7 : Array CpInfo := pool [(1, u "java/lang/Cloneable"), (0, .class_ 1), (0, u "java/lang/Object"), (0, .class_ 3)] 3

/-- java/lang/Cloneable -/
def k7 : Class := { plain "java/lang/Cloneable" (some 0) with
  accessFlags := 1537
  interfaces := #[]
  cf := some (fileOf pool7 2 #[] #[] 1537 4 #[] #[])
  fields := #[]
  methods := #[]
  instanceTypes := #[]
  staticTypes := #[]
  resolved := Array.replicate 8 none
  statics := none }

/-- the primitive byte -/
def k8 : Class := { plain "byte" none with kind := .primitive 'B', accessFlags := 0x411 }
/-- [B -/
def k9 : Class := { plain "[B" (some 0) with kind := .array 8 .byte, interfaces := #[7, 4], accessFlags := 1041 }

/-- the primitive int -/
def k10 : Class := { plain "int" none with kind := .primitive 'I', accessFlags := 0x411 }
/-- [I -/
def k11 : Class := { plain "[I" (some 0) with kind := .array 10 .int, interfaces := #[7, 4], accessFlags := 1041 }

def heap : Heap := #[{ cls := 6, slots := #[.ref 1, .ref 2, .ref 3, .ref 4, .ref 5, .ref 6, .null], vm := .statics 6 },
  { cls := 6, slots := #[.null, .int 0, .int 0], vm := .none },
  { cls := 6, slots := #[.null, .int 1, .int 0], vm := .none },
  { cls := 6, slots := #[.null, .int 2, .int 0], vm := .none },
  { cls := 6, slots := #[.null, .int 3, .int 0], vm := .none },
  { cls := 6, slots := #[.null, .int 4, .int 0], vm := .none },
  { cls := 6, slots := #[.null, .int 5, .int 0], vm := .none }]
def classes : Array Class := #[k0, k1, k2, k3, k4, k5, k6, k7, k8, k9, k10, k11]
def interned : List (Array UInt16 × Addr) := []
def slotsUsed : Nat := 25
def theMethod : MethodId := ⟨1, 1⟩
def args0 : Array Value := #[.int 5]
def aboutOver (below : List Frame) : State where
  vm := { classes := classes, interned := interned.toArray }
  heap := heap
  slotsUsed := slotsUsed
  threads := #[{ frames := .invoking theMethod args0 :: below }]
def below0 : List Frame := [.native { method := ⟨0, 0⟩, args := #[] }]
def about1 : State := aboutOver below0
def p0 : Program := .bare "" "" ""
def e0 : Env := launch0.env 0 0 0
theorem w_frames : about1.frames = Frame.invoking theMethod args0 :: below0 := rfl
set_option maxRecDepth 65536 in
theorem w_args : argsFit about1.vm theMethod args0 = true := by decide +kernel
set_option maxRecDepth 65536 in
theorem w_heap : heapFits about1 = true := by decide +kernel
set_option maxRecDepth 65536 in
theorem w_runnable : about1.curStatus? = some .runnable := by decide +kernel
set_option maxRecDepth 65536 in
theorem w_alone : about1.alone = true := by decide +kernel
set_option maxRecDepth 65536 in
theorem w_named : about1.methodNamed? x = some theMethod := by decide +kernel
set_option maxRecDepth 65536 in
theorem w_hears : about1.hears theMethod below0 = true := by decide +kernel
set_option maxRecDepth 65536 in
theorem w_ripe : about1.ripe theMethod args0 below0 = true := by decide +kernel
theorem w_running : about1.status = .running := rfl
set_option maxRecDepth 65536 in
theorem w_room : about1.hasRoom e0.platform room_1 = true :=
  launch0.hasRoom_least _ room_1 (by decide +kernel) (by decide +kernel) (by decide +kernel) (by decide +kernel) (by decide +kernel) (by decide +kernel)
theorem allAtoms_all (ts : List Jvm.Cond) (a : Array Jvm.Value) (st : Jvm.State) : (allAtoms ts).before a st = ts.all (fun c => c.before a st) := by
  induction ts with
  | nil => rfl
  | cons c t ih =>
    show (Jvm.Cond.and c (allAtoms t)).before a st = _
    rw [Jvm.Cond.before_and, ih, List.all_cons]
def words1 : List Jvm.Cond := Jvm.Cond.code x code maxLocals ret :: tables_1
/-- a 'code' word, met by the world's own term for the bytes: nothing is compared byte by byte -/
theorem code_word {y : MethodName} {bytes : ByteArray} {mx : Nat} {rt : Option FieldType} {a : Array Value} {s : State} {m : MethodId} {meth : Method} {c : Code} (h1 : s.methodNamed? y = some m) (h2 : s.vm.method? m = some meth) (h3 : meth.code = some c) (h4 : c.code = bytes)
    (h5 : (c.maxLocals == mx && c.exceptionTable.isEmpty && decide (c.maxStack ≤ mostOperands) && decide (meth.sig.returnType = rt) && !meth.locks && decide (parseMethodDescriptor y.desc = some meth.sig)) = true) : (Jvm.Cond.code y bytes mx rt).before a s = true := by
  simp only [Bool.and_eq_true, beq_iff_eq, Bool.not_eq_true', decide_eq_true_eq] at h5
  obtain ⟨⟨⟨⟨⟨g1, g2⟩, g3⟩, g4⟩, g5⟩, g6⟩ := h5
  simp [Cond.before, Cond.holds, Cond.value, h1, h2, h3, h4, g1, g2, g3, g4, g5, g6]
def isCode : Jvm.Cond → Bool
  | .code _ _ _ _ => true
  | _ => false
theorem all_split {L : List Jvm.Cond} {P : Jvm.Cond → Bool} (h1 : L.all (fun c => isCode c || P c) = true) (h2 : ∀ c ∈ L.filter isCode, P c = true) : L.all P = true := by
  refine List.all_eq_true.mpr fun c hc => ?_
  have h := List.all_eq_true.mp h1 c hc
  rcases Bool.eq_false_or_eq_true (isCode c) with hi | hi
  · exact h2 c (List.mem_filter.mpr ⟨hc, hi⟩)
  · simpa [hi] using h
set_option maxRecDepth 65536 in
theorem w_c0 : (Jvm.Cond.code x code maxLocals ret).before args0 about1 = true := code_word (m := ⟨1, 1⟩) (meth := k1m1) (c := k1c1) (by decide +kernel) rfl rfl rfl (by decide +kernel)
set_option maxRecDepth 65536 in
theorem w_c1 : (Jvm.Cond.code ({ cls := "com/example/stablemate/stablemate/core/MarketType", name := "hasRequirements", desc := "()Z" } : Jvm.MethodName) prog_27_method_5_code (1 : Nat) (Option.some Jvm.ClassFile.FieldType.boolean)).before args0 about1 = true := code_word (m := ⟨6, 0⟩) (meth := k6m0) (c := k6c0) (by decide +kernel) rfl rfl rfl (by decide +kernel)
def codes1 : List Jvm.Cond := [Jvm.Cond.code x code maxLocals ret, Jvm.Cond.code ({ cls := "com/example/stablemate/stablemate/core/MarketType", name := "hasRequirements", desc := "()Z" } : Jvm.MethodName) prog_27_method_5_code (1 : Nat) (Option.some Jvm.ClassFile.FieldType.boolean)]
set_option maxRecDepth 65536 in
theorem codes_eq : words1.filter isCode = codes1 := rfl
theorem w_codes : ∀ c ∈ words1.filter isCode, c.before args0 about1 = true := by
  rw [codes_eq]
  intro c hc
  simp only [codes1, List.mem_cons, List.not_mem_nil, or_false] at hc
  rcases hc with rfl | rfl
  · exact w_c0
  · exact w_c1
set_option maxRecDepth 65536 in
theorem w_t1 : words1.all (fun c => isCode c || c.before args0 about1) = true := by decide +kernel
theorem w_tables : (allAtoms (Jvm.Cond.code x code maxLocals ret :: tables_1)).before args0 about1 = true := by
  rw [allAtoms_all]
  show words1.all (fun c => c.before args0 about1) = true
  refine all_split ?_ w_codes
  rw [w_t1]
set_option maxRecDepth 65536 in
theorem w_case : (Jvm.Cond.and given_1 narrow_1).before args0 about1 = true := by decide +kernel
theorem w_applies : (headSpec (Jvm.Cond.code x code maxLocals ret :: tables_1) room_1).applies x e0.platform about1 = true :=
  (Spec.applies_iff w_frames).mpr ⟨w_running, w_runnable, w_alone, w_named, w_hears, w_ripe, w_room, w_tables⟩
theorem atStart : AtStart classFile x code maxLocals ret World_1 tables_1 room_1 Calls_1 rest_1 Pre_1 launch0 p0 e0 about1 theMethod args0 below0 :=
  ⟨lists_1, trivial, launch0.admits_env _ _ _, launch0.least_env, fairChoices_fair.cas, fairChoices_fair.clock, w_frames, w_args, w_heap, w_applies, trivial, trivial, w_case⟩
end start1
theorem witness_1 : WitnessClaimed_1 := ⟨start1.p0, start1.e0, start1.about1, start1.theMethod, start1.args0, start1.below0, start1.atStart⟩
end Jvm.Pilot.@@N@@
