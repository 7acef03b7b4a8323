import JvmDerived
import JvmDerived.Pilot.@@N@@Statement
import JvmDerived.Pilot.@@N@@Code
set_option linter.unusedVariables false
set_option linter.unusedSimpArgs false
set_option maxRecDepth 65536
set_option maxHeartbeats 8000000
namespace Jvm.Pilot.@@N@@
open Jvm Jvm.ClassFile Sem Op Lib Jvm.Free Jvm.Stand Jvm.LawKit Jvm.RoadKit Bundle Jvm.Pilot.@@N@@.Jvm.D
abbrev vI (x : Int32) : Slot := .val (.int x)
abbrev vJ (x : Int64) : Slot := .val (.long x)
abbrev vR (x : Addr) : Slot := .val (.ref x)
abbrev vN : Slot := .val .null
/-- the run from S comes to an end at which K holds -/
def Go (p : Program) (e : Env) (below : List Frame) (K : State → Outcome → Prop) (S : State) : Prop := ∃ t o, Steps p.tables e below S t ∧ K t o
theorem Go.via {p : Program} {e : Env} {below : List Frame} {K : State → Outcome → Prop} {A B : State} (h : ∀ t, Steps p.tables e below B t → Steps p.tables e below A t) (g : Go p e below K B) : Go p e below K A := by
  obtain ⟨t, o, h1, h2⟩ := g; exact ⟨t, o, h t h1, h2⟩
/-- a method's end: what it returned, the heap and the places written answer Q -/
def EndK (s : State) (below : List Frame) (Q : Option Value → Heap → List Loc → Prop) (C S : Nat) (t : State) (o : Outcome) : Prop := t.status = .running ∧ Ended t below o ∧ ∃ v L, o = .returned v ∧ Q v t.heap L ∧ FrameEnd s o t L C S
/-- a method's contract -/
def Con (l : Launch) (Z : State) (y : MethodName) (bytes : ByteArray) (maxL : Nat) (ret : Option FieldType) (rm : Room) (as : Array Value) (h : Heap) (Q : Option Value → Heap → List Loc → Prop) : Prop :=
  ∀ ws, MetFree l y (head1 (Jvm.Cond.code y bytes maxL ret :: ws) rm) (fun a U => a = as ∧ Z.Warmed39 U.vm ∧ U.heap = h) (fun _ _ _ _ _ => True) (fun _ U o U' => ∃ v L, o = .returned v ∧ Q v U'.heap L ∧ FrameEnd U o U' L rm.cells rm.slots)
theorem Con.of {l : Launch} {Z : State} {y : MethodName} {bytes : ByteArray} {maxL : Nat} {ret : Option FieldType} {rm : Room} {as : Array Value} {h : Heap} {Q : Option Value → Heap → List Loc → Prop} {Ls : Array Slot} (hp : plainFor y = true) (hfr : ∀ m, entryFrame m as maxL = mkF m 0 Ls [])
    (body : ∀ (p : Program) (e : Env) (s : State) (m : MethodId) (below : List Frame) (meth : Method) (c : Code) (T : State), Stand p l e rm s m as below meth c T [] 0 0 → p.tables.exec = Jvm.exec ∧ c.code = bytes → c.maxLocals = maxL → Z.Warmed39 s.vm → s.vm.findClass y.cls = some m.cls → meth.name = y.name → meth.sig.returnType = ret → meth.locks = false → T.heap = h → Go p e below (EndK s below Q rm.cells rm.slots) (T.setTop (mkF m 0 Ls []))) :
    Con l Z y bytes maxL ret rm as h Q := by
  intro ws
  refine MetFree.of_bodySF hp hisR ?_
  intro p e s m args below meth c s₁ Bd hml hP hK
  obtain ⟨rfl, hZ, hh⟩ := hP
  have e0 : s₁.heap = h := by rw [← hh, Bd.state]; rfl
  obtain ⟨t, o, h1, h2⟩ := body p e s m below meth c s₁ (Stand.of_body Bd) ⟨Bd.exec, Bd.bytes⟩ hml hZ (findClass_of_methodNamed Bd.named) (name_of_methodNamed Bd.named Bd.method).1 Bd.returns Bd.notSynchronized e0
  exact ⟨t, o, castTop (hfr m) h1, h2⟩
section Steps
variable {p : Program} {l : Launch} {e : Env} {R : Room} {s : State} {m : MethodId} {args : Array Value} {below : List Frame} {meth : Method} {c : Code} {T : State} {locs : List Loc} {cells slots : Nat} {K : State → Outcome → Prop} {Z : State} {a0 : Array Value} {h : Heap} {bs : ByteArray} {Ls Ls' : Array Slot} {st : List Value} {pc pc' : Nat}

theorem gIloadN (X : Stand p l e R s m args below meth c T locs cells slots) (H : p.tables.exec = Jvm.exec ∧ c.code = bs) {k : Fin 4} {v : Int32} (hd : decode bs pc = .ok (.iload_n k, 1)) (hl : Ls[k.val]? = some (.val (.int v))) (pc' : Nat) (hp : pc + 1 = pc') (g : Go p e below K (T.setTop (mkF m pc' Ls (.int v :: st)))) : Go p e below K (T.setTop (mkF m pc Ls (st))) := by
  subst hp
  exact Go.via (fun t k => XS.iloadN (g := mkF m pc Ls (st)) X.here H.1 rfl (hb H.2 hd) hl k) g

theorem gAloadN (X : Stand p l e R s m args below meth c T locs cells slots) (H : p.tables.exec = Jvm.exec ∧ c.code = bs) {k : Fin 4} {v : Value} (hd : decode bs pc = .ok (.aload_n k, 1)) (hl : Ls[k.val]? = some (.val v)) (hv : v.isRef = true) (pc' : Nat) (hp : pc + 1 = pc') (g : Go p e below K (T.setTop (mkF m pc' Ls (v :: st)))) : Go p e below K (T.setTop (mkF m pc Ls (st))) := by
  subst hp
  exact Go.via (fun t k => XS.aloadN (g := mkF m pc Ls (st)) X.here H.1 rfl (hb H.2 hd) hl hv k) g

theorem gIstoreN (X : Stand p l e R s m args below meth c T locs cells slots) (H : p.tables.exec = Jvm.exec ∧ c.code = bs) {k : Fin 4} {v : Int32} (hd : decode bs pc = .ok (.istore_n k, 1)) (hl : storeLocals Ls k.val (.int v) = some Ls') (pc' : Nat) (hp : pc + 1 = pc') (g : Go p e below K (T.setTop (mkF m pc' Ls' (st)))) : Go p e below K (T.setTop (mkF m pc Ls (.int v :: st))) := by
  subst hp
  exact Go.via (fun t k => XS.istoreN (g := mkF m pc Ls (.int v :: st)) X.here H.1 rfl (hb H.2 hd) rfl hl k) g

theorem gAstoreN (X : Stand p l e R s m args below meth c T locs cells slots) (H : p.tables.exec = Jvm.exec ∧ c.code = bs) {k : Fin 4} {v : Value} (hd : decode bs pc = .ok (.astore_n k, 1)) (hv : v.isRef = true) (hl : storeLocals Ls k.val v = some Ls') (pc' : Nat) (hp : pc + 1 = pc') (g : Go p e below K (T.setTop (mkF m pc' Ls' (st)))) : Go p e below K (T.setTop (mkF m pc Ls (v :: st))) := by
  subst hp
  exact Go.via (fun t k => XS.astoreN (g := mkF m pc Ls (v :: st)) X.here H.1 rfl (hb H.2 hd) rfl hv hl k) g

theorem gIconst (X : Stand p l e R s m args below meth c T locs cells slots) (H : p.tables.exec = Jvm.exec ∧ c.code = bs) {i : Int} {z : Int32} (hd : decode bs pc = .ok (.iconst i, 1)) (hz : Int32.ofInt i = z) (pc' : Nat) (hp : pc + 1 = pc') (g : Go p e below K (T.setTop (mkF m pc' Ls (.int z :: st)))) : Go p e below K (T.setTop (mkF m pc Ls (st))) := by
  subst hp hz
  exact Go.via (fun t k => XS.iconst (g := mkF m pc Ls (st)) X.here H.1 rfl (hb H.2 hd) k) g

theorem g_iand (X : Stand p l e R s m args below meth c T locs cells slots) (H : p.tables.exec = Jvm.exec ∧ c.code = bs) {x y z : Int32} (hd : decode bs pc = .ok (.iand, 1)) (hz : x &&& y = z) (pc' : Nat) (hp : pc + 1 = pc') (g : Go p e below K (T.setTop (mkF m pc' Ls (.int z :: st)))) : Go p e below K (T.setTop (mkF m pc Ls (.int y :: .int x :: st))) := by
  subst hp hz
  exact Go.via (fun t k => XS.iand (g := mkF m pc Ls (.int y :: .int x :: st)) X.here H.1 rfl (hb H.2 hd) rfl k) g

theorem gGoto (X : Stand p l e R s m args below meth c T locs cells slots) (H : p.tables.exec = Jvm.exec ∧ c.code = bs)  {o : Int} (hd : decode bs pc = .ok (.goto o, 3)) (ho : 0 ≤ (pc : Int) + o) (pc' : Nat) (hp : ((pc : Int) + o).toNat = pc') (g : Go p e below K (T.setTop (mkF m pc' Ls (st)))) : Go p e below K (T.setTop (mkF m pc Ls (st))) :=
  Go.via (fun t k => XS.goto (g := mkF m pc Ls (st)) X.here H.1 rfl rfl (hb H.2 hd) ho hp k) g

theorem gIfY (X : Stand p l e R s m args below meth c T locs cells slots) (H : p.tables.exec = Jvm.exec ∧ c.code = bs) {cd : ClassFile.Cond} {x : Int32} {o : Int} (hd : decode bs pc = .ok (.ifCond cd o, 3)) (hc : ifCond.holds cd x = true) (ho : 0 ≤ (pc : Int) + o) (pc' : Nat) (hp : ((pc : Int) + o).toNat = pc') (g : Go p e below K (T.setTop (mkF m pc' Ls (st)))) : Go p e below K (T.setTop (mkF m pc Ls (.int x :: st))) :=
  Go.via (fun t k => XS.ifYes (g := mkF m pc Ls (.int x :: st)) X.here H.1 rfl rfl (hb H.2 hd) rfl hc ho hp k) g

theorem gNonnullY (X : Stand p l e R s m args below meth c T locs cells slots) (H : p.tables.exec = Jvm.exec ∧ c.code = bs) {b : Addr} {o : Int} (hd : decode bs pc = .ok (.ifnonnull o, 3)) (ho : 0 ≤ (pc : Int) + o) (pc' : Nat) (hp : ((pc : Int) + o).toNat = pc') (g : Go p e below K (T.setTop (mkF m pc' Ls (st)))) : Go p e below K (T.setTop (mkF m pc Ls (.ref b :: st))) :=
  Go.via (fun t k => XS.ifnonnullYes (g := mkF m pc Ls (.ref b :: st)) X.here H.1 rfl rfl (hb H.2 hd) rfl ho hp k) g

theorem gIfN (X : Stand p l e R s m args below meth c T locs cells slots) (H : p.tables.exec = Jvm.exec ∧ c.code = bs) {o : Int} {cd : ClassFile.Cond} {x : Int32} (hd : decode bs pc = .ok (.ifCond cd o, 3)) (hc : ifCond.holds cd x = false) (pc' : Nat) (hp : pc + 3 = pc') (g : Go p e below K (T.setTop (mkF m pc' Ls (st)))) : Go p e below K (T.setTop (mkF m pc Ls (.int x :: st))) := by
  subst hp
  exact Go.via (fun t k => XS.ifNo (g := mkF m pc Ls (.int x :: st)) X.here H.1 rfl (hb H.2 hd) rfl hc k) g

theorem gCmpN (X : Stand p l e R s m args below meth c T locs cells slots) (H : p.tables.exec = Jvm.exec ∧ c.code = bs) {o : Int} {cd : ClassFile.Cond} {x y : Int32} (hd : decode bs pc = .ok (.if_icmp cd o, 3)) (hc : if_icmp.holds cd x y = false) (pc' : Nat) (hp : pc + 3 = pc') (g : Go p e below K (T.setTop (mkF m pc' Ls (st)))) : Go p e below K (T.setTop (mkF m pc Ls (.int y :: .int x :: st))) := by
  subst hp
  exact Go.via (fun t k => XS.icmpNo (g := mkF m pc Ls (.int y :: .int x :: st)) X.here H.1 rfl (hb H.2 hd) rfl hc k) g

theorem gGetS (X : Stand p l e R s m args below meth c T locs cells slots) (H : p.tables.exec = Jvm.exec ∧ c.code = bs) (hZ : Z.Warmed39 s.vm) {own : String} {index : Nat} (hown : s.vm.findClass own = some m.cls) {O n d : String} {v : Value} (w : (Cond.fieldLink own index O n d).before a0 Z = true) (eT : T.heap = h) (F : Sta Z h O n d v) (hd : decode bs pc = .ok (.getstatic index, 3)) (pc' : Nat) (hp : pc + 3 = pc') (g : ∀ T', Stand p l e R s m args below meth c T' locs cells slots → T'.heap = h → Go p e below K (T'.setTop (mkF m pc' Ls (v :: st)))) : Go p e below K (T.setTop (mkF m pc Ls (st))) := by
  subst hp
  obtain ⟨T', X', e', k⟩ := getS2 X H.1 hZ hown (host := "") (Or.inl w) Via.refl eT F (g := mkF m pc Ls st) rfl (hb H.2 hd)
  exact Go.via k (g T' X' e')

theorem gGetF (X : Stand p l e R s m args below meth c T locs cells slots) (H : p.tables.exec = Jvm.exec ∧ c.code = bs) (hZ : Z.Warmed39 s.vm) {own : String} {index : Nat} (hown : s.vm.findClass own = some m.cls) {R0 O n d : String} {a : Addr} {v : Value} (w : (Cond.fieldLink own index R0 n d).before a0 Z = true) (via : Via Z R0 O n d) (eT : T.heap = h) (F : Fld Z h a O n d v) (hd : decode bs pc = .ok (.getfield index, 3)) (pc' : Nat) (hp : pc + 3 = pc') (g : ∀ T', Stand p l e R s m args below meth c T' locs cells slots → T'.heap = h → Go p e below K (T'.setTop (mkF m pc' Ls (v :: st)))) : Go p e below K (T.setTop (mkF m pc Ls (.ref a :: st))) := by
  subst hp
  obtain ⟨T', X', e', k⟩ := getF X H.1 hZ hown (host := "") (Or.inl w) via eT F (g := mkF m pc Ls (.ref a :: st)) rfl rfl (hb H.2 hd)
  exact Go.via k (g T' X' e')

theorem gStatic (X : Stand p l e R s m args below meth c T locs cells slots) (H : p.tables.exec = Jvm.exec ∧ c.code = bs) (hZ : Z.Warmed39 s.vm) {own : String} {index : Nat} (hown : s.vm.findClass own = some m.cls) {y : MethodName} {bytes : ByteArray} {maxL : Nat} {ret : Option FieldType} {rm : Room} {as : Array Value} {Q : Option Value → Heap → List Loc → Prop} {W maxO : Nat} {argsL rest : List Value} {ps : List FieldType} {r : Option FieldType} (wl : (Cond.methodLink own index y).before a0 Z = true) (wst : (Cond.static y).before a0 Z = true) (hy : y.cls ≠ "java/lang/invoke/MethodHandle" ∧ y.cls ≠ "java/lang/invoke/VarHandle") (wc : (Cond.code y bytes maxL ret).before a0 Z = true) (wz : (Cond.initialized (y).cls).before a0 Z = true) (M : Con l Z y bytes maxL ret rm as h Q) (eT : T.heap = h) (hml : c.maxLocals = maxO) (hs : Ls.size = maxO) (hpd : parseMethodDescriptor y.desc = some ⟨ps, r⟩) (hlen : argsL.length = ps.length) (hstack : st = argsL.reverse ++ rest) (has : argsL.toArray = as) (hd : decode bs pc = .ok (.invokestatic index, 3)) (pc' : Nat) (hp : pc + 3 = pc')
    (g : ∀ v T' L, Q v T'.heap L → Stand p l e R s m args below meth c T' (locs ++ L) (cells + rm.cells) (slots + rm.slots) → Go p e below K (T'.setTop (mkF m pc' Ls (v.toList ++ rest)))) (hW : (rest.map fun v => v.category).sum ≤ W := by exact Nat.le_of_eq rfl) (hf : rm.frames + 1 ≤ R.frames := by decide) (hl : W + (maxL + 11) + rm.locals ≤ R.locals := by decide) (hc : cells + rm.cells ≤ R.cells := by decide) (hsl : slots + rm.slots ≤ R.slots := by decide) : Go p e below K (T.setTop (mkF m pc Ls (st))) := by
  subst hp has
  obtain ⟨v, _, ⟨T', L', k', n'⟩, -, X', ⟨L, hQ, l', y', z'⟩, k⟩ := Jvm.LawKit.callS X H.1 (y := y) hown (mvT hZ wl) (mvT hZ wst) (mvT hZ wz) (mvT hZ wc) hy (backOf (W := W) (M []) hZ wc wz hf hl) (g := mkF m pc Ls st) rfl (hs.trans hml.symm) (argsL := argsL) (rest := rest) (lenOf hpd hlen) hstack (by show 2 * 0 + _ ≤ _; omega) (hb H.2 hd) (fun _ _ => ⟨rfl, eT, hc, hsl⟩)
  dsimp only [Pt.U, Pt.locs, Pt.cells, Pt.slots] at X' l' y' z' k hQ
  subst l' y' z'
  exact Go.via k (g v T' L hQ X')

theorem gRetN (X : Stand p l e R s m args below meth c T locs cells slots) (H : p.tables.exec = Jvm.exec ∧ c.code = bs) (hlk : meth.locks = false) {Q : Option Value → Heap → List Loc → Prop} {C S : Nat} {t : FieldType} {z : Int32} (hret : meth.sig.returnType = some t) (ht : t = .boolean ∨ t = .byte ∨ t = .char ∨ t = .short) (hd : decode bs pc = .ok (.ireturn, 1)) (eT : T.heap = h) (q : Q (some (.int (nar t z))) h locs) (hC : cells ≤ C := by decide) (hS : slots ≤ S := by decide) : Go p e below (EndK s below Q C S) (T.setTop (mkF m pc Ls (.int z :: st))) := by
  subst eT
  obtain ⟨fs, hr, hrun, hended, hW, hsame⟩ := X.leave (v := (some (.int (nar t z)))) (fun h => by rw [hret] at h; cases h) hlk
  exact ⟨_, _, retN X H.1 hret ht (hb H.2 hd) hr, hrun, hended, _, _, rfl, q, ⟨_, rfl⟩, hW, hsame.mono hC hS⟩

theorem gRetA (X : Stand p l e R s m args below meth c T locs cells slots) (H : p.tables.exec = Jvm.exec ∧ c.code = bs) (hlk : meth.locks = false) {Q : Option Value → Heap → List Loc → Prop} {C S : Nat} {w : Value} {t : FieldType} (hret : meth.sig.returnType = some t) (hn : narrow t w = w) (ht : t.isReference = true) (hv : w.isRef = true) (hd : decode bs pc = .ok (.areturn, 1)) (eT : T.heap = h) (q : Q (some w) h locs) (hC : cells ≤ C := by decide) (hS : slots ≤ S := by decide) : Go p e below (EndK s below Q C S) (T.setTop (mkF m pc Ls (w :: st))) := by
  subst eT
  obtain ⟨fs, hr, hrun, hended, hW, hsame⟩ := X.leave (v := (some w)) (fun h => by rw [hret] at h; cases h) hlk
  exact ⟨_, _, retOut X H.1 hret hn (Or.inr (Or.inr (Or.inr (Or.inr ⟨rfl, ht, hv⟩)))) (hb H.2 hd) hr, hrun, hended, _, _, rfl, q, ⟨_, rfl⟩, hW, hsame.mono hC hS⟩

theorem gVirt (X : Stand p l e R s m args below meth c T locs cells slots) (H : p.tables.exec = Jvm.exec ∧ c.code = bs) (hZ : Z.Warmed39 s.vm) {own : String} {index : Nat} (hown : s.vm.findClass own = some m.cls) {C : String} {y : MethodName} {bytes : ByteArray} {maxL : Nat} {ret : Option FieldType} {rm : Room} {as : Array Value} {Q : Option Value → Heap → List Loc → Prop} {W maxO : Nat} {argsL rest : List Value} {ps : List FieldType} {r : Option FieldType} (wl : (Cond.methodLink own index y).before a0 Z = true) (wd : (Cond.declares y).before a0 Z = true) (wse : (Cond.selects C y y).before a0 Z = true) (wi : (Cond.instanceMethod y).before a0 Z = true) (hy : y.cls ≠ "java/lang/invoke/MethodHandle" ∧ y.cls ≠ "java/lang/invoke/VarHandle") {b : Addr} (E : Exa Z h b C) (wc : (Cond.code y bytes maxL ret).before a0 Z = true) (wz : (Cond.initialized (y).cls).before a0 Z = true) (M : Con l Z y bytes maxL ret rm as h Q) (eT : T.heap = h) (hml : c.maxLocals = maxO) (hs : Ls.size = maxO) (hpd : parseMethodDescriptor y.desc = some ⟨ps, r⟩) (hlen : argsL.length = ps.length) (hstack : st = argsL.reverse ++ .ref b :: rest) (has : (.ref b :: argsL).toArray = as) (hd : decode bs pc = .ok (.invokevirtual index, 3)) (pc' : Nat) (hp : pc + 3 = pc')
    (g : ∀ v T' L, Q v T'.heap L → Stand p l e R s m args below meth c T' (locs ++ L) (cells + rm.cells) (slots + rm.slots) → Go p e below K (T'.setTop (mkF m pc' Ls (v.toList ++ rest)))) (hW : (rest.map fun v => v.category).sum ≤ W := by exact Nat.le_of_eq rfl) (hf : rm.frames + 1 ≤ R.frames := by decide) (hl : W + (maxL + 11) + rm.locals ≤ R.locals := by decide) (hc : cells + rm.cells ≤ R.cells := by decide) (hsl : slots + rm.slots ≤ R.slots := by decide) : Go p e below K (T.setTop (mkF m pc Ls (st))) := by
  subst hp has
  obtain ⟨cB, kB, q1, q2, q3⟩ := isOf hZ eT E
  obtain ⟨v, _, ⟨T', L', k', n'⟩, -, X', ⟨L, hQ, l', y', z'⟩, k⟩ := X.virtualBack H.1 (y := y) (z := y) hown (mvT hZ wl) (mvT hZ wd) (notFace_of_selects (args := #[]) (mvT hZ wse)) (mvT hZ wse) (mvT hZ wi) hy (backOf (W := W) (M []) hZ wc wz hf hl) q1 q3 (g := mkF m pc Ls st) rfl (hs.trans hml.symm) (Steps.refl _) (argsL := argsL) (rest := rest) (lenOf hpd hlen) hstack (by show 2 * 0 + _ ≤ _; omega) (hb H.2 hd) (fun _ _ => ⟨rfl, eT, hc, hsl⟩)
  dsimp only [Pt.U, Pt.locs, Pt.cells, Pt.slots] at X' l' y' z' k hQ
  subst l' y' z'
  exact Go.via (fun t q => k.trans q) (g v T' L hQ X')

end Steps
theorem eqI {args : Array Value} {s : State} {t : Term} {w : Addr} {C n d : String} {k : Int32} (ev : t.eval args s none [] s = some (.ref w)) (q : (Jvm.Cond.eq (.field t C n d) (.int k)).value args s none s [] = some true) : Fld s s.heap w C n d (.int k) := by
  refine Fld.start ?_
  rw [← fld_at (args := args) (first := s) (o := none) (idx := []) ev]
  obtain ⟨x, y, h1, h2, k1, k2⟩ := cmp_v (Or.inl q)
  obtain rfl : y = .int k := (Option.some.inj ((Term.int_eval k).symm.trans h2)).symm
  obtain ⟨z, rfl⟩ := k2
  simp [Cond.value, h1, h2] at q
  rw [h1, q]
theorem eqR {args : Array Value} {s : State} {t t' : Term} {w w' : Addr} {C n d : String} (ev : t.eval args s none [] s = some (.ref w)) (ev' : t'.eval args s none [] s = some (.ref w')) (q : (Jvm.Cond.eq (.field t C n d) t').value args s none s [] = some true) : Fld s s.heap w C n d (.ref w') := by
  refine Fld.start ?_
  rw [← fld_at (args := args) (first := s) (o := none) (idx := []) ev]
  obtain ⟨x, y, h1, h2, k1, k2⟩ := cmp_v (Or.inl q)
  obtain rfl : y = .ref w' := (Option.some.inj (ev'.symm.trans h2)).symm
  have hx : x.isRef = true := k2.2
  have := gotT (eq_R h1 h2 hx rfl) q
  rw [h1, this]
theorem eqN {args : Array Value} {s : State} {t : Term} {w : Addr} {C n d : String} (ev : t.eval args s none [] s = some (.ref w)) (q : (Jvm.Cond.eq (.field t C n d) .null).value args s none s [] = some true) : Fld s s.heap w C n d .null := by
  refine Fld.start ?_
  rw [← fld_at (args := args) (first := s) (o := none) (idx := []) ev]
  exact null_v q
theorem fldE {args : Array Value} {s : State} {t : Term} {w w' : Addr} {C n d : String} (ev : t.eval args s none [] s = some (.ref w)) (ev' : (Term.field t C n d).eval args s none [] s = some (.ref w')) : Fld s s.heap w C n d (.ref w') :=
  Fld.start ((fld_at (args := args) (first := s) (o := none) (idx := []) ev).symm.trans ev')
theorem t32_ne {a b : Int32} (h : a < b) : ¬ (a = b) := by rw [Int32.lt_iff_toInt_lt] at h; rw [← Int32.toInt_inj]; omega
theorem t32_as {a b : Int32} (h : a < b) : ¬ (b < a) := by rw [Int32.lt_iff_toInt_lt] at *; omega
theorem t32_ir {a b : Int32} (h : a = b) : ¬ (a < b) := by subst h; rw [Int32.lt_iff_toInt_lt]; omega
theorem t32_tot {a b : Int32} (h : ¬ (a < b)) (h2 : ¬ (a = b)) : b < a := by rw [Int32.lt_iff_toInt_lt] at *; rw [← Int32.toInt_inj] at h2; omega
theorem t32_eq {a b : Int32} (h : ¬ (a < b)) (h2 : ¬ (b < a)) : a = b := by rw [Int32.lt_iff_toInt_lt] at *; rw [← Int32.toInt_inj]; omega
theorem t64_ne {a b : Int64} (h : a < b) : ¬ (a = b) := by rw [Int64.lt_iff_toInt_lt] at h; rw [← Int64.toInt_inj]; omega
theorem t64_as {a b : Int64} (h : a < b) : ¬ (b < a) := by rw [Int64.lt_iff_toInt_lt] at *; omega
theorem t64_ir {a b : Int64} (h : a = b) : ¬ (a < b) := by subst h; rw [Int64.lt_iff_toInt_lt]; omega
theorem t64_tot {a b : Int64} (h : ¬ (a < b)) (h2 : ¬ (a = b)) : b < a := by rw [Int64.lt_iff_toInt_lt] at *; rw [← Int64.toInt_inj] at h2; omega
theorem t64_eq {a b : Int64} (h : ¬ (a < b)) (h2 : ¬ (b < a)) : a = b := by rw [Int64.lt_iff_toInt_lt] at *; rw [← Int64.toInt_inj]; omega

theorem wd0 : (Jvm.Cond.methodLink "com/example/rowcast/rowcast/JoinKindPreservingPinLaw" (7 : Nat) ({ cls := "com/example/rowcast/rowcast/JoinKind", name := "preserving", desc := "(ZZ)Lcom/example/rowcast/rowcast/JoinKind;" } : Jvm.MethodName)) ∈ tables_1 := List.mem_of_getElem? (i := 0) rfl
theorem wd1 : (Jvm.Cond.static ({ cls := "com/example/rowcast/rowcast/JoinKind", name := "preserving", desc := "(ZZ)Lcom/example/rowcast/rowcast/JoinKind;" } : Jvm.MethodName)) ∈ tables_1 := List.mem_of_getElem? (i := 1) rfl
theorem wd2 : (Jvm.Cond.initialized "com/example/rowcast/rowcast/JoinKind") ∈ tables_1 := List.mem_of_getElem? (i := 2) rfl
theorem wd3 : (Jvm.Cond.code ({ cls := "com/example/rowcast/rowcast/JoinKind", name := "preserving", desc := "(ZZ)Lcom/example/rowcast/rowcast/JoinKind;" } : Jvm.MethodName) prog_56_method_4_code (3 : Nat) (Option.some (Jvm.ClassFile.FieldType.object "com/example/rowcast/rowcast/JoinKind"))) ∈ tables_1 := List.mem_of_getElem? (i := 3) rfl
theorem wd4 : (Jvm.Cond.fieldLink "com/example/rowcast/rowcast/JoinKind" (3 : Nat) "com/example/rowcast/rowcast/JoinKind" "INNER" "Lcom/example/rowcast/rowcast/JoinKind;") ∈ tables_1 := List.mem_of_getElem? (i := 4) rfl
theorem wd5 : (Jvm.Cond.laysStatic "com/example/rowcast/rowcast/JoinKind" "INNER" "Lcom/example/rowcast/rowcast/JoinKind;") ∈ tables_1 := List.mem_of_getElem? (i := 5) rfl
theorem wd6 : (Jvm.Cond.methodLink "com/example/rowcast/rowcast/JoinKindPreservingPinLaw" (13 : Nat) ({ cls := "com/example/rowcast/rowcast/JoinKind", name := "preservesLeft", desc := "()Z" } : Jvm.MethodName)) ∈ tables_1 := List.mem_of_getElem? (i := 6) rfl
theorem wd7 : (Jvm.Cond.declares ({ cls := "com/example/rowcast/rowcast/JoinKind", name := "preservesLeft", desc := "()Z" } : Jvm.MethodName)) ∈ tables_1 := List.mem_of_getElem? (i := 7) rfl
theorem wd8 : (Jvm.Cond.instanceMethod ({ cls := "com/example/rowcast/rowcast/JoinKind", name := "preservesLeft", desc := "()Z" } : Jvm.MethodName)) ∈ tables_1 := List.mem_of_getElem? (i := 8) rfl
theorem wd9 : (Jvm.Cond.selects "com/example/rowcast/rowcast/JoinKind" ({ cls := "com/example/rowcast/rowcast/JoinKind", name := "preservesLeft", desc := "()Z" } : Jvm.MethodName) ({ cls := "com/example/rowcast/rowcast/JoinKind", name := "preservesLeft", desc := "()Z" } : Jvm.MethodName)) ∈ tables_1 := List.mem_of_getElem? (i := 9) rfl
theorem wd10 : (Jvm.Cond.code ({ cls := "com/example/rowcast/rowcast/JoinKind", name := "preservesLeft", desc := "()Z" } : Jvm.MethodName) prog_56_method_6_code (1 : Nat) (Option.some Jvm.ClassFile.FieldType.boolean)) ∈ tables_1 := List.mem_of_getElem? (i := 10) rfl
theorem wd11 : (Jvm.Cond.fieldLink "com/example/rowcast/rowcast/JoinKind" (35 : Nat) "com/example/rowcast/rowcast/JoinKind" "preservesLeft" "Z") ∈ tables_1 := List.mem_of_getElem? (i := 11) rfl
theorem wd13 : (Jvm.Cond.methodLink "com/example/rowcast/rowcast/JoinKindPreservingPinLaw" (17 : Nat) ({ cls := "com/example/rowcast/rowcast/JoinKind", name := "preservesRight", desc := "()Z" } : Jvm.MethodName)) ∈ tables_1 := List.mem_of_getElem? (i := 13) rfl
theorem wd14 : (Jvm.Cond.declares ({ cls := "com/example/rowcast/rowcast/JoinKind", name := "preservesRight", desc := "()Z" } : Jvm.MethodName)) ∈ tables_1 := List.mem_of_getElem? (i := 14) rfl
theorem wd15 : (Jvm.Cond.instanceMethod ({ cls := "com/example/rowcast/rowcast/JoinKind", name := "preservesRight", desc := "()Z" } : Jvm.MethodName)) ∈ tables_1 := List.mem_of_getElem? (i := 15) rfl
theorem wd16 : (Jvm.Cond.selects "com/example/rowcast/rowcast/JoinKind" ({ cls := "com/example/rowcast/rowcast/JoinKind", name := "preservesRight", desc := "()Z" } : Jvm.MethodName) ({ cls := "com/example/rowcast/rowcast/JoinKind", name := "preservesRight", desc := "()Z" } : Jvm.MethodName)) ∈ tables_1 := List.mem_of_getElem? (i := 16) rfl
theorem wd17 : (Jvm.Cond.code ({ cls := "com/example/rowcast/rowcast/JoinKind", name := "preservesRight", desc := "()Z" } : Jvm.MethodName) prog_56_method_7_code (1 : Nat) (Option.some Jvm.ClassFile.FieldType.boolean)) ∈ tables_1 := List.mem_of_getElem? (i := 17) rfl
theorem wd18 : (Jvm.Cond.fieldLink "com/example/rowcast/rowcast/JoinKind" (39 : Nat) "com/example/rowcast/rowcast/JoinKind" "preservesRight" "Z") ∈ tables_1 := List.mem_of_getElem? (i := 18) rfl
theorem wd20 : (Jvm.Cond.fieldLink "com/example/rowcast/rowcast/JoinKind" (13 : Nat) "com/example/rowcast/rowcast/JoinKind" "FULL" "Lcom/example/rowcast/rowcast/JoinKind;") ∈ tables_1 := List.mem_of_getElem? (i := 20) rfl
theorem wd21 : (Jvm.Cond.laysStatic "com/example/rowcast/rowcast/JoinKind" "FULL" "Lcom/example/rowcast/rowcast/JoinKind;") ∈ tables_1 := List.mem_of_getElem? (i := 21) rfl
theorem wd22 : (Jvm.Cond.fieldLink "com/example/rowcast/rowcast/JoinKind" (10 : Nat) "com/example/rowcast/rowcast/JoinKind" "RIGHT" "Lcom/example/rowcast/rowcast/JoinKind;") ∈ tables_1 := List.mem_of_getElem? (i := 22) rfl
theorem wd23 : (Jvm.Cond.laysStatic "com/example/rowcast/rowcast/JoinKind" "RIGHT" "Lcom/example/rowcast/rowcast/JoinKind;") ∈ tables_1 := List.mem_of_getElem? (i := 23) rfl
theorem wd24 : (Jvm.Cond.fieldLink "com/example/rowcast/rowcast/JoinKind" (7 : Nat) "com/example/rowcast/rowcast/JoinKind" "LEFT" "Lcom/example/rowcast/rowcast/JoinKind;") ∈ tables_1 := List.mem_of_getElem? (i := 24) rfl
theorem wd25 : (Jvm.Cond.laysStatic "com/example/rowcast/rowcast/JoinKind" "LEFT" "Lcom/example/rowcast/rowcast/JoinKind;") ∈ tables_1 := List.mem_of_getElem? (i := 25) rfl
theorem d1_0 : decode prog_56_method_4_code 0 = .ok (.iload_n 0, 1) := by decide +kernel
theorem d1_1 : decode prog_56_method_4_code 1 = .ok (.ifCond .eq 14, 3) := by decide +kernel
theorem d1_4 : decode prog_56_method_4_code 4 = .ok (.iload_n 1, 1) := by decide +kernel
theorem d1_5 : decode prog_56_method_4_code 5 = .ok (.ifCond .eq 10, 3) := by decide +kernel
theorem d1_8 : decode prog_56_method_4_code 8 = .ok (.getstatic 13, 3) := by decide +kernel
theorem d1_11 : decode prog_56_method_4_code 11 = .ok (.astore_n 2, 1) := by decide +kernel
theorem d1_12 : decode prog_56_method_4_code 12 = .ok (.goto 29, 3) := by decide +kernel
theorem d1_15 : decode prog_56_method_4_code 15 = .ok (.iload_n 0, 1) := by decide +kernel
theorem d1_16 : decode prog_56_method_4_code 16 = .ok (.ifCond .eq 10, 3) := by decide +kernel
theorem d1_19 : decode prog_56_method_4_code 19 = .ok (.getstatic 7, 3) := by decide +kernel
theorem d1_22 : decode prog_56_method_4_code 22 = .ok (.astore_n 2, 1) := by decide +kernel
theorem d1_23 : decode prog_56_method_4_code 23 = .ok (.goto 18, 3) := by decide +kernel
theorem d1_26 : decode prog_56_method_4_code 26 = .ok (.iload_n 1, 1) := by decide +kernel
theorem d1_27 : decode prog_56_method_4_code 27 = .ok (.ifCond .eq 10, 3) := by decide +kernel
theorem d1_30 : decode prog_56_method_4_code 30 = .ok (.getstatic 10, 3) := by decide +kernel
theorem d1_33 : decode prog_56_method_4_code 33 = .ok (.astore_n 2, 1) := by decide +kernel
theorem d1_34 : decode prog_56_method_4_code 34 = .ok (.goto 7, 3) := by decide +kernel
theorem d1_37 : decode prog_56_method_4_code 37 = .ok (.getstatic 3, 3) := by decide +kernel
theorem d1_40 : decode prog_56_method_4_code 40 = .ok (.astore_n 2, 1) := by decide +kernel
theorem d1_41 : decode prog_56_method_4_code 41 = .ok (.aload_n 2, 1) := by decide +kernel
theorem d1_42 : decode prog_56_method_4_code 42 = .ok (.areturn, 1) := by decide +kernel
theorem d2_0 : decode prog_56_method_6_code 0 = .ok (.aload_n 0, 1) := by decide +kernel
theorem d2_1 : decode prog_56_method_6_code 1 = .ok (.getfield 35, 3) := by decide +kernel
theorem d2_4 : decode prog_56_method_6_code 4 = .ok (.ireturn, 1) := by decide +kernel
theorem d3_0 : decode prog_56_method_7_code 0 = .ok (.aload_n 0, 1) := by decide +kernel
theorem d3_1 : decode prog_56_method_7_code 1 = .ok (.getfield 39, 3) := by decide +kernel
theorem d3_4 : decode prog_56_method_7_code 4 = .ok (.ireturn, 1) := by decide +kernel
theorem pd0 : parseMethodDescriptor "(ZZ)Lcom/example/rowcast/rowcast/JoinKind;" = some ⟨[.boolean, .boolean], some (.object "com/example/rowcast/rowcast/JoinKind")⟩ := by decide +kernel
theorem pd1 : parseMethodDescriptor "()Z" = some ⟨[], some .boolean⟩ := by decide +kernel
theorem pn0 : plainName "com/example/rowcast/rowcast/JoinKindPreservingPinLaw" = true := by first | (simp [plainName, overriddenIn]; done) | decide +kernel
theorem pn1 : plainName "com/example/rowcast/rowcast/JoinKind" = true := by first | (simp [plainName, overriddenIn]; done) | decide +kernel
theorem pn2 : plainName "com/example/rowcast/rowcast/JoinKind" = true := by first | (simp [plainName, overriddenIn]; done) | decide +kernel
theorem pn3 : plainName "com/example/rowcast/rowcast/JoinKind" = true := by first | (simp [plainName, overriddenIn]; done) | decide +kernel
def World (Z : State) (w_JoinKind_INNER w_JoinKind_FULL w_JoinKind_RIGHT w_JoinKind_LEFT : Addr) : Prop :=
  Sta Z Z.heap "com/example/rowcast/rowcast/JoinKind" "INNER" "Lcom/example/rowcast/rowcast/JoinKind;" (.ref w_JoinKind_INNER) ∧
  Exa Z Z.heap w_JoinKind_INNER "com/example/rowcast/rowcast/JoinKind" ∧
  Sta Z Z.heap "com/example/rowcast/rowcast/JoinKind" "FULL" "Lcom/example/rowcast/rowcast/JoinKind;" (.ref w_JoinKind_FULL) ∧
  Exa Z Z.heap w_JoinKind_FULL "com/example/rowcast/rowcast/JoinKind" ∧
  Sta Z Z.heap "com/example/rowcast/rowcast/JoinKind" "RIGHT" "Lcom/example/rowcast/rowcast/JoinKind;" (.ref w_JoinKind_RIGHT) ∧
  Exa Z Z.heap w_JoinKind_RIGHT "com/example/rowcast/rowcast/JoinKind" ∧
  Sta Z Z.heap "com/example/rowcast/rowcast/JoinKind" "LEFT" "Lcom/example/rowcast/rowcast/JoinKind;" (.ref w_JoinKind_LEFT) ∧
  Exa Z Z.heap w_JoinKind_LEFT "com/example/rowcast/rowcast/JoinKind" ∧
  Fld Z Z.heap w_JoinKind_INNER "com/example/rowcast/rowcast/JoinKind" "preservesLeft" "Z" (.int 0) ∧
  Fld Z Z.heap w_JoinKind_INNER "com/example/rowcast/rowcast/JoinKind" "preservesRight" "Z" (.int 0) ∧
  Fld Z Z.heap w_JoinKind_FULL "com/example/rowcast/rowcast/JoinKind" "preservesLeft" "Z" (.int 1) ∧
  Fld Z Z.heap w_JoinKind_FULL "com/example/rowcast/rowcast/JoinKind" "preservesRight" "Z" (.int 1) ∧
  Fld Z Z.heap w_JoinKind_RIGHT "com/example/rowcast/rowcast/JoinKind" "preservesLeft" "Z" (.int 0) ∧
  Fld Z Z.heap w_JoinKind_RIGHT "com/example/rowcast/rowcast/JoinKind" "preservesRight" "Z" (.int 1) ∧
  Fld Z Z.heap w_JoinKind_LEFT "com/example/rowcast/rowcast/JoinKind" "preservesLeft" "Z" (.int 1) ∧
  Fld Z Z.heap w_JoinKind_LEFT "com/example/rowcast/rowcast/JoinKind" "preservesRight" "Z" (.int 0)
abbrev Bg (Z : State) (a0 : Array Value) (w_JoinKind_INNER w_JoinKind_FULL w_JoinKind_RIGHT w_JoinKind_LEFT : Addr) : Prop := (∀ d ∈ tables_1, d.before a0 Z = true) ∧ World Z w_JoinKind_INNER w_JoinKind_FULL w_JoinKind_RIGHT w_JoinKind_LEFT
theorem m1 (k : Int32) : (k &&& (1 : Int32)) = (0 : Int32) ∨ (k &&& (1 : Int32)) = (1 : Int32) := by
  have h1 := c_mask k (1 : Int32) 1 (by decide) (by decide)
  simp only [← Int32.toInt_inj]
  have e0 : (0 : Int32).toInt = 0 := by decide
  have e1 : (1 : Int32).toInt = 1 := by decide
  omega
theorem b2 (k : Int32) : (k &&& (2 : Int32)) = (0 : Int32) ∨ (k &&& (2 : Int32)) = (2 : Int32) := by
  have h1 := c_mask k (3 : Int32) 2 (by decide) (by decide)
  have h2 : k &&& (2 : Int32) = (k &&& (3 : Int32)) &&& (2 : Int32) := by rw [Int32.and_assoc]; rfl
  have h3 : ∀ z : Int32, (z = 0 ∨ z = 1 ∨ z = 2 ∨ z = 3) → (z &&& (2 : Int32)) = (0 : Int32) ∨ (z &&& (2 : Int32)) = (2 : Int32) := by
    intro z hz; rcases hz with rfl | rfl | rfl | rfl <;> decide
  rw [h2]
  refine h3 _ ?_
  simp only [← Int32.toInt_inj]
  have e0 : (0 : Int32).toInt = 0 := by decide
  have e1 : (1 : Int32).toInt = 1 := by decide
  have e2 : (2 : Int32).toInt = 2 := by decide
  have e3 : (3 : Int32).toInt = 3 := by decide
  omega
section Walk
variable {l : Launch} {Z : State} {a0 : Array Value} {w_JoinKind_INNER w_JoinKind_FULL w_JoinKind_RIGHT w_JoinKind_LEFT : Addr}
theorem rm2_1 (B : Bg Z a0 w_JoinKind_INNER w_JoinKind_FULL w_JoinKind_RIGHT w_JoinKind_LEFT) :
    Con l Z (⟨"com/example/rowcast/rowcast/JoinKind", "preserving", "(ZZ)Lcom/example/rowcast/rowcast/JoinKind;"⟩ : MethodName) prog_56_method_4_code 3 (some (.object "com/example/rowcast/rowcast/JoinKind")) ({ frames := 0, cells := 0, slots := 0, locals := 0 } : Room) #[(.int 0), (.int 0)] Z.heap (fun v h' L => v = some (.ref w_JoinKind_INNER) ∧ h' = Z.heap ∧ L = []) := by
  have hw := B.1
  obtain ⟨S_w_JoinKind_INNER, E_w_JoinKind_INNER, S_w_JoinKind_FULL, E_w_JoinKind_FULL, S_w_JoinKind_RIGHT, E_w_JoinKind_RIGHT, S_w_JoinKind_LEFT, E_w_JoinKind_LEFT, F_w_JoinKind_INNER_preservesLeft, F_w_JoinKind_INNER_preservesRight, F_w_JoinKind_FULL_preservesLeft, F_w_JoinKind_FULL_preservesRight, F_w_JoinKind_RIGHT_preservesLeft, F_w_JoinKind_RIGHT_preservesRight, F_w_JoinKind_LEFT_preservesLeft, F_w_JoinKind_LEFT_preservesRight⟩ := B.2
  refine Con.of (plainFor_of_name pn1) (Ls := #[vI 0, vI 0, .unset]) (fun m => by first | rfl | (simp [entryFrame, mkF, argsToLocals, Value.category]; done)) ?_
  intro p e s m below meth c T0 X0 H hml hZ hown hnm hret hlk e0
  refine gIloadN X0 H d1_0 rfl 1 rfl ?_
  refine gIfY X0 H d1_1 (by decide) (by decide) 15 rfl ?_
  refine gIloadN X0 H d1_15 rfl 16 rfl ?_
  refine gIfY X0 H d1_16 (by decide) (by decide) 26 rfl ?_
  refine gIloadN X0 H d1_26 rfl 27 rfl ?_
  refine gIfY X0 H d1_27 (by decide) (by decide) 37 rfl ?_
  refine gGetS X0 H hZ hown (hw _ wd4) e0 S_w_JoinKind_INNER d1_37 40 rfl ?_
  intro T1 X1 e1
  refine gAstoreN X1 H d1_40 rfl (Ls' := #[vI 0, vI 0, vR w_JoinKind_INNER]) rfl 41 rfl ?_
  refine gAloadN X1 H d1_41 rfl rfl 42 rfl ?_
  exact gRetA X1 H hlk hret rfl rfl rfl d1_42 e1 ⟨rfl, rfl, rfl⟩
theorem rm5_2 (B : Bg Z a0 w_JoinKind_INNER w_JoinKind_FULL w_JoinKind_RIGHT w_JoinKind_LEFT) :
    Con l Z (⟨"com/example/rowcast/rowcast/JoinKind", "preservesLeft", "()Z"⟩ : MethodName) prog_56_method_6_code 1 (some .boolean) ({ frames := 0, cells := 0, slots := 0, locals := 0 } : Room) #[(.ref w_JoinKind_INNER)] Z.heap (fun v h' L => v = some (.int 0) ∧ h' = Z.heap ∧ L = []) := by
  have hw := B.1
  obtain ⟨S_w_JoinKind_INNER, E_w_JoinKind_INNER, S_w_JoinKind_FULL, E_w_JoinKind_FULL, S_w_JoinKind_RIGHT, E_w_JoinKind_RIGHT, S_w_JoinKind_LEFT, E_w_JoinKind_LEFT, F_w_JoinKind_INNER_preservesLeft, F_w_JoinKind_INNER_preservesRight, F_w_JoinKind_FULL_preservesLeft, F_w_JoinKind_FULL_preservesRight, F_w_JoinKind_RIGHT_preservesLeft, F_w_JoinKind_RIGHT_preservesRight, F_w_JoinKind_LEFT_preservesLeft, F_w_JoinKind_LEFT_preservesRight⟩ := B.2
  refine Con.of (plainFor_of_name pn2) (Ls := #[vR w_JoinKind_INNER]) (fun m => by first | rfl | (simp [entryFrame, mkF, argsToLocals, Value.category]; done)) ?_
  intro p e s m below meth c T0 X0 H hml hZ hown hnm hret hlk e0
  refine gAloadN X0 H d2_0 rfl rfl 1 rfl ?_
  refine gGetF X0 H hZ hown (hw _ wd11) Via.refl e0 F_w_JoinKind_INNER_preservesLeft d2_1 4 rfl ?_
  intro T4 X4 e4
  exact gRetN X4 H hlk hret (t := .boolean) (by simp) d2_4 e4 ⟨rfl, rfl, rfl⟩
theorem rm8_3 (B : Bg Z a0 w_JoinKind_INNER w_JoinKind_FULL w_JoinKind_RIGHT w_JoinKind_LEFT) :
    Con l Z (⟨"com/example/rowcast/rowcast/JoinKind", "preservesRight", "()Z"⟩ : MethodName) prog_56_method_7_code 1 (some .boolean) ({ frames := 0, cells := 0, slots := 0, locals := 0 } : Room) #[(.ref w_JoinKind_INNER)] Z.heap (fun v h' L => v = some (.int 0) ∧ h' = Z.heap ∧ L = []) := by
  have hw := B.1
  obtain ⟨S_w_JoinKind_INNER, E_w_JoinKind_INNER, S_w_JoinKind_FULL, E_w_JoinKind_FULL, S_w_JoinKind_RIGHT, E_w_JoinKind_RIGHT, S_w_JoinKind_LEFT, E_w_JoinKind_LEFT, F_w_JoinKind_INNER_preservesLeft, F_w_JoinKind_INNER_preservesRight, F_w_JoinKind_FULL_preservesLeft, F_w_JoinKind_FULL_preservesRight, F_w_JoinKind_RIGHT_preservesLeft, F_w_JoinKind_RIGHT_preservesRight, F_w_JoinKind_LEFT_preservesLeft, F_w_JoinKind_LEFT_preservesRight⟩ := B.2
  refine Con.of (plainFor_of_name pn3) (Ls := #[vR w_JoinKind_INNER]) (fun m => by first | rfl | (simp [entryFrame, mkF, argsToLocals, Value.category]; done)) ?_
  intro p e s m below meth c T0 X0 H hml hZ hown hnm hret hlk e0
  refine gAloadN X0 H d3_0 rfl rfl 1 rfl ?_
  refine gGetF X0 H hZ hown (hw _ wd18) Via.refl e0 F_w_JoinKind_INNER_preservesRight d3_1 4 rfl ?_
  intro T7 X7 e7
  exact gRetN X7 H hlk hret (t := .boolean) (by simp) d3_4 e7 ⟨rfl, rfl, rfl⟩
theorem lawAll_0 (B : Bg Z a0 w_JoinKind_INNER w_JoinKind_FULL w_JoinKind_RIGHT w_JoinKind_LEFT) (p0 : Int32) (ha0 : (p0 &&& (1 : Int32)) = (0 : Int32)) (ha1 : (p0 &&& (2 : Int32)) = (0 : Int32)) :
    Con l Z x code maxLocals ret room_1 #[(.int p0)] Z.heap (fun v h' L => v = some (.int 1) ∧ Fr Z.heap.size L) := by
  have hw := B.1
  obtain ⟨S_w_JoinKind_INNER, E_w_JoinKind_INNER, S_w_JoinKind_FULL, E_w_JoinKind_FULL, S_w_JoinKind_RIGHT, E_w_JoinKind_RIGHT, S_w_JoinKind_LEFT, E_w_JoinKind_LEFT, F_w_JoinKind_INNER_preservesLeft, F_w_JoinKind_INNER_preservesRight, F_w_JoinKind_FULL_preservesLeft, F_w_JoinKind_FULL_preservesRight, F_w_JoinKind_RIGHT_preservesLeft, F_w_JoinKind_RIGHT_preservesRight, F_w_JoinKind_LEFT_preservesLeft, F_w_JoinKind_LEFT_preservesRight⟩ := B.2
  refine Con.of (plainFor_of_name pn0) (Ls := #[vI p0, .unset, .unset, .unset]) (fun m => by first | rfl | (simp [entryFrame, mkF, argsToLocals, Value.category, maxLocals]; done)) ?_
  intro p e s m below meth c T0 X0 H hml hZ hown hnm hret hlk e0
  refine gIloadN X0 H at_0 rfl 1 rfl ?_
  refine gIconst X0 H at_1 (z := 1) rfl 2 rfl ?_
  refine g_iand X0 H at_2 (z := 0) ha0 3 rfl ?_
  refine gIfY X0 H at_3 (by decide) (by decide) 10 rfl ?_
  refine gIconst X0 H at_10 (z := 0) rfl 11 rfl ?_
  refine gIstoreN X0 H at_11 (Ls' := #[vI p0, vI 0, .unset, .unset]) rfl 12 rfl ?_
  refine gIloadN X0 H at_12 rfl 13 rfl ?_
  refine gIconst X0 H at_13 (z := 2) rfl 14 rfl ?_
  refine g_iand X0 H at_14 (z := 0) ha1 15 rfl ?_
  refine gIfY X0 H at_15 (by decide) (by decide) 22 rfl ?_
  refine gIconst X0 H at_22 (z := 0) rfl 23 rfl ?_
  refine gIstoreN X0 H at_23 (Ls' := #[vI p0, vI 0, vI 0, .unset]) rfl 24 rfl ?_
  refine gIloadN X0 H at_24 rfl 25 rfl ?_
  refine gIloadN X0 H at_25 rfl 26 rfl ?_
  refine gStatic X0 H hZ hown (hw _ wd0) (hw _ wd1) (by decide) (hw _ wd3) (hw _ wd2) (rm2_1 B) e0 hml rfl pd0 rfl (W := 0) (argsL := [(.int 0), (.int 0)]) (rest := []) rfl rfl at_26 29 rfl ?_
  intro v3 T3 L3 hq3 X3
  obtain ⟨rfl, e3, rfl⟩ := hq3
  show Go _ _ _ _ (State.setTop _ (mkF _ 29 _ [(.ref w_JoinKind_INNER)]))
  refine gAstoreN X3 H at_29 rfl (Ls' := #[vI p0, vI 0, vI 0, vR w_JoinKind_INNER]) rfl 30 rfl ?_
  refine gAloadN X3 H at_30 rfl rfl 31 rfl ?_
  refine gNonnullY X3 H at_31 (by decide) 36 rfl ?_
  refine gAloadN X3 H at_36 rfl rfl 37 rfl ?_
  refine gVirt X3 H hZ hown (hw _ wd6) (hw _ wd7) (hw _ wd9) (hw _ wd8) (by decide) E_w_JoinKind_INNER (hw _ wd10) (hw _ wd2) (rm5_2 B) e3 hml rfl pd1 rfl (W := 0) (argsL := []) (rest := []) rfl rfl at_37 40 rfl ?_
  intro v6 T6 L6 hq6 X6
  obtain ⟨rfl, e6, rfl⟩ := hq6
  show Go _ _ _ _ (State.setTop _ (mkF _ 40 _ [(.int 0)]))
  refine gIloadN X6 H at_40 rfl 41 rfl ?_
  refine gCmpN X6 H at_41 (by decide) 44 rfl ?_
  refine gAloadN X6 H at_44 rfl rfl 45 rfl ?_
  refine gVirt X6 H hZ hown (hw _ wd13) (hw _ wd14) (hw _ wd16) (hw _ wd15) (by decide) E_w_JoinKind_INNER (hw _ wd17) (hw _ wd2) (rm8_3 B) e6 hml rfl pd1 rfl (W := 0) (argsL := []) (rest := []) rfl rfl at_45 48 rfl ?_
  intro v9 T9 L9 hq9 X9
  obtain ⟨rfl, e9, rfl⟩ := hq9
  show Go _ _ _ _ (State.setTop _ (mkF _ 48 _ [(.int 0)]))
  refine gIloadN X9 H at_48 rfl 49 rfl ?_
  refine gCmpN X9 H at_49 (by decide) 52 rfl ?_
  refine gIconst X9 H at_52 (z := 1) rfl 53 rfl ?_
  refine gGoto X9 H at_53 (by decide) 57 rfl ?_
  exact gRetN X9 H hlk hret (t := .boolean) (by simp) at_57 e9 ⟨rfl, Fr.nil _⟩
theorem rm11_1 (B : Bg Z a0 w_JoinKind_INNER w_JoinKind_FULL w_JoinKind_RIGHT w_JoinKind_LEFT) :
    Con l Z (⟨"com/example/rowcast/rowcast/JoinKind", "preserving", "(ZZ)Lcom/example/rowcast/rowcast/JoinKind;"⟩ : MethodName) prog_56_method_4_code 3 (some (.object "com/example/rowcast/rowcast/JoinKind")) ({ frames := 0, cells := 0, slots := 0, locals := 0 } : Room) #[(.int 0), (.int 1)] Z.heap (fun v h' L => v = some (.ref w_JoinKind_RIGHT) ∧ h' = Z.heap ∧ L = []) := by
  have hw := B.1
  obtain ⟨S_w_JoinKind_INNER, E_w_JoinKind_INNER, S_w_JoinKind_FULL, E_w_JoinKind_FULL, S_w_JoinKind_RIGHT, E_w_JoinKind_RIGHT, S_w_JoinKind_LEFT, E_w_JoinKind_LEFT, F_w_JoinKind_INNER_preservesLeft, F_w_JoinKind_INNER_preservesRight, F_w_JoinKind_FULL_preservesLeft, F_w_JoinKind_FULL_preservesRight, F_w_JoinKind_RIGHT_preservesLeft, F_w_JoinKind_RIGHT_preservesRight, F_w_JoinKind_LEFT_preservesLeft, F_w_JoinKind_LEFT_preservesRight⟩ := B.2
  refine Con.of (plainFor_of_name pn1) (Ls := #[vI 0, vI 1, .unset]) (fun m => by first | rfl | (simp [entryFrame, mkF, argsToLocals, Value.category]; done)) ?_
  intro p e s m below meth c T0 X0 H hml hZ hown hnm hret hlk e0
  refine gIloadN X0 H d1_0 rfl 1 rfl ?_
  refine gIfY X0 H d1_1 (by decide) (by decide) 15 rfl ?_
  refine gIloadN X0 H d1_15 rfl 16 rfl ?_
  refine gIfY X0 H d1_16 (by decide) (by decide) 26 rfl ?_
  refine gIloadN X0 H d1_26 rfl 27 rfl ?_
  refine gIfN X0 H d1_27 (by decide) 30 rfl ?_
  refine gGetS X0 H hZ hown (hw _ wd22) e0 S_w_JoinKind_RIGHT d1_30 33 rfl ?_
  intro T10 X10 e10
  refine gAstoreN X10 H d1_33 rfl (Ls' := #[vI 0, vI 1, vR w_JoinKind_RIGHT]) rfl 34 rfl ?_
  refine gGoto X10 H d1_34 (by decide) 41 rfl ?_
  refine gAloadN X10 H d1_41 rfl rfl 42 rfl ?_
  exact gRetA X10 H hlk hret rfl rfl rfl d1_42 e10 ⟨rfl, rfl, rfl⟩
theorem rm14_2 (B : Bg Z a0 w_JoinKind_INNER w_JoinKind_FULL w_JoinKind_RIGHT w_JoinKind_LEFT) :
    Con l Z (⟨"com/example/rowcast/rowcast/JoinKind", "preservesLeft", "()Z"⟩ : MethodName) prog_56_method_6_code 1 (some .boolean) ({ frames := 0, cells := 0, slots := 0, locals := 0 } : Room) #[(.ref w_JoinKind_RIGHT)] Z.heap (fun v h' L => v = some (.int 0) ∧ h' = Z.heap ∧ L = []) := by
  have hw := B.1
  obtain ⟨S_w_JoinKind_INNER, E_w_JoinKind_INNER, S_w_JoinKind_FULL, E_w_JoinKind_FULL, S_w_JoinKind_RIGHT, E_w_JoinKind_RIGHT, S_w_JoinKind_LEFT, E_w_JoinKind_LEFT, F_w_JoinKind_INNER_preservesLeft, F_w_JoinKind_INNER_preservesRight, F_w_JoinKind_FULL_preservesLeft, F_w_JoinKind_FULL_preservesRight, F_w_JoinKind_RIGHT_preservesLeft, F_w_JoinKind_RIGHT_preservesRight, F_w_JoinKind_LEFT_preservesLeft, F_w_JoinKind_LEFT_preservesRight⟩ := B.2
  refine Con.of (plainFor_of_name pn2) (Ls := #[vR w_JoinKind_RIGHT]) (fun m => by first | rfl | (simp [entryFrame, mkF, argsToLocals, Value.category]; done)) ?_
  intro p e s m below meth c T0 X0 H hml hZ hown hnm hret hlk e0
  refine gAloadN X0 H d2_0 rfl rfl 1 rfl ?_
  refine gGetF X0 H hZ hown (hw _ wd11) Via.refl e0 F_w_JoinKind_RIGHT_preservesLeft d2_1 4 rfl ?_
  intro T13 X13 e13
  exact gRetN X13 H hlk hret (t := .boolean) (by simp) d2_4 e13 ⟨rfl, rfl, rfl⟩
theorem rm17_3 (B : Bg Z a0 w_JoinKind_INNER w_JoinKind_FULL w_JoinKind_RIGHT w_JoinKind_LEFT) :
    Con l Z (⟨"com/example/rowcast/rowcast/JoinKind", "preservesRight", "()Z"⟩ : MethodName) prog_56_method_7_code 1 (some .boolean) ({ frames := 0, cells := 0, slots := 0, locals := 0 } : Room) #[(.ref w_JoinKind_RIGHT)] Z.heap (fun v h' L => v = some (.int 1) ∧ h' = Z.heap ∧ L = []) := by
  have hw := B.1
  obtain ⟨S_w_JoinKind_INNER, E_w_JoinKind_INNER, S_w_JoinKind_FULL, E_w_JoinKind_FULL, S_w_JoinKind_RIGHT, E_w_JoinKind_RIGHT, S_w_JoinKind_LEFT, E_w_JoinKind_LEFT, F_w_JoinKind_INNER_preservesLeft, F_w_JoinKind_INNER_preservesRight, F_w_JoinKind_FULL_preservesLeft, F_w_JoinKind_FULL_preservesRight, F_w_JoinKind_RIGHT_preservesLeft, F_w_JoinKind_RIGHT_preservesRight, F_w_JoinKind_LEFT_preservesLeft, F_w_JoinKind_LEFT_preservesRight⟩ := B.2
  refine Con.of (plainFor_of_name pn3) (Ls := #[vR w_JoinKind_RIGHT]) (fun m => by first | rfl | (simp [entryFrame, mkF, argsToLocals, Value.category]; done)) ?_
  intro p e s m below meth c T0 X0 H hml hZ hown hnm hret hlk e0
  refine gAloadN X0 H d3_0 rfl rfl 1 rfl ?_
  refine gGetF X0 H hZ hown (hw _ wd18) Via.refl e0 F_w_JoinKind_RIGHT_preservesRight d3_1 4 rfl ?_
  intro T16 X16 e16
  exact gRetN X16 H hlk hret (t := .boolean) (by simp) d3_4 e16 ⟨rfl, rfl, rfl⟩
theorem lawAll_1 (B : Bg Z a0 w_JoinKind_INNER w_JoinKind_FULL w_JoinKind_RIGHT w_JoinKind_LEFT) (p0 : Int32) (ha0 : (p0 &&& (1 : Int32)) = (0 : Int32)) (ha1 : (p0 &&& (2 : Int32)) = (2 : Int32)) :
    Con l Z x code maxLocals ret room_1 #[(.int p0)] Z.heap (fun v h' L => v = some (.int 1) ∧ Fr Z.heap.size L) := by
  have hw := B.1
  obtain ⟨S_w_JoinKind_INNER, E_w_JoinKind_INNER, S_w_JoinKind_FULL, E_w_JoinKind_FULL, S_w_JoinKind_RIGHT, E_w_JoinKind_RIGHT, S_w_JoinKind_LEFT, E_w_JoinKind_LEFT, F_w_JoinKind_INNER_preservesLeft, F_w_JoinKind_INNER_preservesRight, F_w_JoinKind_FULL_preservesLeft, F_w_JoinKind_FULL_preservesRight, F_w_JoinKind_RIGHT_preservesLeft, F_w_JoinKind_RIGHT_preservesRight, F_w_JoinKind_LEFT_preservesLeft, F_w_JoinKind_LEFT_preservesRight⟩ := B.2
  refine Con.of (plainFor_of_name pn0) (Ls := #[vI p0, .unset, .unset, .unset]) (fun m => by first | rfl | (simp [entryFrame, mkF, argsToLocals, Value.category, maxLocals]; done)) ?_
  intro p e s m below meth c T0 X0 H hml hZ hown hnm hret hlk e0
  refine gIloadN X0 H at_0 rfl 1 rfl ?_
  refine gIconst X0 H at_1 (z := 1) rfl 2 rfl ?_
  refine g_iand X0 H at_2 (z := 0) ha0 3 rfl ?_
  refine gIfY X0 H at_3 (by decide) (by decide) 10 rfl ?_
  refine gIconst X0 H at_10 (z := 0) rfl 11 rfl ?_
  refine gIstoreN X0 H at_11 (Ls' := #[vI p0, vI 0, .unset, .unset]) rfl 12 rfl ?_
  refine gIloadN X0 H at_12 rfl 13 rfl ?_
  refine gIconst X0 H at_13 (z := 2) rfl 14 rfl ?_
  refine g_iand X0 H at_14 (z := 2) ha1 15 rfl ?_
  refine gIfN X0 H at_15 (by decide) 18 rfl ?_
  refine gIconst X0 H at_18 (z := 1) rfl 19 rfl ?_
  refine gGoto X0 H at_19 (by decide) 23 rfl ?_
  refine gIstoreN X0 H at_23 (Ls' := #[vI p0, vI 0, vI 1, .unset]) rfl 24 rfl ?_
  refine gIloadN X0 H at_24 rfl 25 rfl ?_
  refine gIloadN X0 H at_25 rfl 26 rfl ?_
  refine gStatic X0 H hZ hown (hw _ wd0) (hw _ wd1) (by decide) (hw _ wd3) (hw _ wd2) (rm11_1 B) e0 hml rfl pd0 rfl (W := 0) (argsL := [(.int 0), (.int 1)]) (rest := []) rfl rfl at_26 29 rfl ?_
  intro v12 T12 L12 hq12 X12
  obtain ⟨rfl, e12, rfl⟩ := hq12
  show Go _ _ _ _ (State.setTop _ (mkF _ 29 _ [(.ref w_JoinKind_RIGHT)]))
  refine gAstoreN X12 H at_29 rfl (Ls' := #[vI p0, vI 0, vI 1, vR w_JoinKind_RIGHT]) rfl 30 rfl ?_
  refine gAloadN X12 H at_30 rfl rfl 31 rfl ?_
  refine gNonnullY X12 H at_31 (by decide) 36 rfl ?_
  refine gAloadN X12 H at_36 rfl rfl 37 rfl ?_
  refine gVirt X12 H hZ hown (hw _ wd6) (hw _ wd7) (hw _ wd9) (hw _ wd8) (by decide) E_w_JoinKind_RIGHT (hw _ wd10) (hw _ wd2) (rm14_2 B) e12 hml rfl pd1 rfl (W := 0) (argsL := []) (rest := []) rfl rfl at_37 40 rfl ?_
  intro v15 T15 L15 hq15 X15
  obtain ⟨rfl, e15, rfl⟩ := hq15
  show Go _ _ _ _ (State.setTop _ (mkF _ 40 _ [(.int 0)]))
  refine gIloadN X15 H at_40 rfl 41 rfl ?_
  refine gCmpN X15 H at_41 (by decide) 44 rfl ?_
  refine gAloadN X15 H at_44 rfl rfl 45 rfl ?_
  refine gVirt X15 H hZ hown (hw _ wd13) (hw _ wd14) (hw _ wd16) (hw _ wd15) (by decide) E_w_JoinKind_RIGHT (hw _ wd17) (hw _ wd2) (rm17_3 B) e15 hml rfl pd1 rfl (W := 0) (argsL := []) (rest := []) rfl rfl at_45 48 rfl ?_
  intro v18 T18 L18 hq18 X18
  obtain ⟨rfl, e18, rfl⟩ := hq18
  show Go _ _ _ _ (State.setTop _ (mkF _ 48 _ [(.int 1)]))
  refine gIloadN X18 H at_48 rfl 49 rfl ?_
  refine gCmpN X18 H at_49 (by decide) 52 rfl ?_
  refine gIconst X18 H at_52 (z := 1) rfl 53 rfl ?_
  refine gGoto X18 H at_53 (by decide) 57 rfl ?_
  exact gRetN X18 H hlk hret (t := .boolean) (by simp) at_57 e18 ⟨rfl, Fr.nil _⟩
theorem rm20_1 (B : Bg Z a0 w_JoinKind_INNER w_JoinKind_FULL w_JoinKind_RIGHT w_JoinKind_LEFT) :
    Con l Z (⟨"com/example/rowcast/rowcast/JoinKind", "preserving", "(ZZ)Lcom/example/rowcast/rowcast/JoinKind;"⟩ : MethodName) prog_56_method_4_code 3 (some (.object "com/example/rowcast/rowcast/JoinKind")) ({ frames := 0, cells := 0, slots := 0, locals := 0 } : Room) #[(.int 1), (.int 0)] Z.heap (fun v h' L => v = some (.ref w_JoinKind_LEFT) ∧ h' = Z.heap ∧ L = []) := by
  have hw := B.1
  obtain ⟨S_w_JoinKind_INNER, E_w_JoinKind_INNER, S_w_JoinKind_FULL, E_w_JoinKind_FULL, S_w_JoinKind_RIGHT, E_w_JoinKind_RIGHT, S_w_JoinKind_LEFT, E_w_JoinKind_LEFT, F_w_JoinKind_INNER_preservesLeft, F_w_JoinKind_INNER_preservesRight, F_w_JoinKind_FULL_preservesLeft, F_w_JoinKind_FULL_preservesRight, F_w_JoinKind_RIGHT_preservesLeft, F_w_JoinKind_RIGHT_preservesRight, F_w_JoinKind_LEFT_preservesLeft, F_w_JoinKind_LEFT_preservesRight⟩ := B.2
  refine Con.of (plainFor_of_name pn1) (Ls := #[vI 1, vI 0, .unset]) (fun m => by first | rfl | (simp [entryFrame, mkF, argsToLocals, Value.category]; done)) ?_
  intro p e s m below meth c T0 X0 H hml hZ hown hnm hret hlk e0
  refine gIloadN X0 H d1_0 rfl 1 rfl ?_
  refine gIfN X0 H d1_1 (by decide) 4 rfl ?_
  refine gIloadN X0 H d1_4 rfl 5 rfl ?_
  refine gIfY X0 H d1_5 (by decide) (by decide) 15 rfl ?_
  refine gIloadN X0 H d1_15 rfl 16 rfl ?_
  refine gIfN X0 H d1_16 (by decide) 19 rfl ?_
  refine gGetS X0 H hZ hown (hw _ wd24) e0 S_w_JoinKind_LEFT d1_19 22 rfl ?_
  intro T19 X19 e19
  refine gAstoreN X19 H d1_22 rfl (Ls' := #[vI 1, vI 0, vR w_JoinKind_LEFT]) rfl 23 rfl ?_
  refine gGoto X19 H d1_23 (by decide) 41 rfl ?_
  refine gAloadN X19 H d1_41 rfl rfl 42 rfl ?_
  exact gRetA X19 H hlk hret rfl rfl rfl d1_42 e19 ⟨rfl, rfl, rfl⟩
theorem rm23_2 (B : Bg Z a0 w_JoinKind_INNER w_JoinKind_FULL w_JoinKind_RIGHT w_JoinKind_LEFT) :
    Con l Z (⟨"com/example/rowcast/rowcast/JoinKind", "preservesLeft", "()Z"⟩ : MethodName) prog_56_method_6_code 1 (some .boolean) ({ frames := 0, cells := 0, slots := 0, locals := 0 } : Room) #[(.ref w_JoinKind_LEFT)] Z.heap (fun v h' L => v = some (.int 1) ∧ h' = Z.heap ∧ L = []) := by
  have hw := B.1
  obtain ⟨S_w_JoinKind_INNER, E_w_JoinKind_INNER, S_w_JoinKind_FULL, E_w_JoinKind_FULL, S_w_JoinKind_RIGHT, E_w_JoinKind_RIGHT, S_w_JoinKind_LEFT, E_w_JoinKind_LEFT, F_w_JoinKind_INNER_preservesLeft, F_w_JoinKind_INNER_preservesRight, F_w_JoinKind_FULL_preservesLeft, F_w_JoinKind_FULL_preservesRight, F_w_JoinKind_RIGHT_preservesLeft, F_w_JoinKind_RIGHT_preservesRight, F_w_JoinKind_LEFT_preservesLeft, F_w_JoinKind_LEFT_preservesRight⟩ := B.2
  refine Con.of (plainFor_of_name pn2) (Ls := #[vR w_JoinKind_LEFT]) (fun m => by first | rfl | (simp [entryFrame, mkF, argsToLocals, Value.category]; done)) ?_
  intro p e s m below meth c T0 X0 H hml hZ hown hnm hret hlk e0
  refine gAloadN X0 H d2_0 rfl rfl 1 rfl ?_
  refine gGetF X0 H hZ hown (hw _ wd11) Via.refl e0 F_w_JoinKind_LEFT_preservesLeft d2_1 4 rfl ?_
  intro T22 X22 e22
  exact gRetN X22 H hlk hret (t := .boolean) (by simp) d2_4 e22 ⟨rfl, rfl, rfl⟩
theorem rm26_3 (B : Bg Z a0 w_JoinKind_INNER w_JoinKind_FULL w_JoinKind_RIGHT w_JoinKind_LEFT) :
    Con l Z (⟨"com/example/rowcast/rowcast/JoinKind", "preservesRight", "()Z"⟩ : MethodName) prog_56_method_7_code 1 (some .boolean) ({ frames := 0, cells := 0, slots := 0, locals := 0 } : Room) #[(.ref w_JoinKind_LEFT)] Z.heap (fun v h' L => v = some (.int 0) ∧ h' = Z.heap ∧ L = []) := by
  have hw := B.1
  obtain ⟨S_w_JoinKind_INNER, E_w_JoinKind_INNER, S_w_JoinKind_FULL, E_w_JoinKind_FULL, S_w_JoinKind_RIGHT, E_w_JoinKind_RIGHT, S_w_JoinKind_LEFT, E_w_JoinKind_LEFT, F_w_JoinKind_INNER_preservesLeft, F_w_JoinKind_INNER_preservesRight, F_w_JoinKind_FULL_preservesLeft, F_w_JoinKind_FULL_preservesRight, F_w_JoinKind_RIGHT_preservesLeft, F_w_JoinKind_RIGHT_preservesRight, F_w_JoinKind_LEFT_preservesLeft, F_w_JoinKind_LEFT_preservesRight⟩ := B.2
  refine Con.of (plainFor_of_name pn3) (Ls := #[vR w_JoinKind_LEFT]) (fun m => by first | rfl | (simp [entryFrame, mkF, argsToLocals, Value.category]; done)) ?_
  intro p e s m below meth c T0 X0 H hml hZ hown hnm hret hlk e0
  refine gAloadN X0 H d3_0 rfl rfl 1 rfl ?_
  refine gGetF X0 H hZ hown (hw _ wd18) Via.refl e0 F_w_JoinKind_LEFT_preservesRight d3_1 4 rfl ?_
  intro T25 X25 e25
  exact gRetN X25 H hlk hret (t := .boolean) (by simp) d3_4 e25 ⟨rfl, rfl, rfl⟩
theorem lawAll_2 (B : Bg Z a0 w_JoinKind_INNER w_JoinKind_FULL w_JoinKind_RIGHT w_JoinKind_LEFT) (p0 : Int32) (ha0 : (p0 &&& (1 : Int32)) = (1 : Int32)) (ha1 : (p0 &&& (2 : Int32)) = (0 : Int32)) :
    Con l Z x code maxLocals ret room_1 #[(.int p0)] Z.heap (fun v h' L => v = some (.int 1) ∧ Fr Z.heap.size L) := by
  have hw := B.1
  obtain ⟨S_w_JoinKind_INNER, E_w_JoinKind_INNER, S_w_JoinKind_FULL, E_w_JoinKind_FULL, S_w_JoinKind_RIGHT, E_w_JoinKind_RIGHT, S_w_JoinKind_LEFT, E_w_JoinKind_LEFT, F_w_JoinKind_INNER_preservesLeft, F_w_JoinKind_INNER_preservesRight, F_w_JoinKind_FULL_preservesLeft, F_w_JoinKind_FULL_preservesRight, F_w_JoinKind_RIGHT_preservesLeft, F_w_JoinKind_RIGHT_preservesRight, F_w_JoinKind_LEFT_preservesLeft, F_w_JoinKind_LEFT_preservesRight⟩ := B.2
  refine Con.of (plainFor_of_name pn0) (Ls := #[vI p0, .unset, .unset, .unset]) (fun m => by first | rfl | (simp [entryFrame, mkF, argsToLocals, Value.category, maxLocals]; done)) ?_
  intro p e s m below meth c T0 X0 H hml hZ hown hnm hret hlk e0
  refine gIloadN X0 H at_0 rfl 1 rfl ?_
  refine gIconst X0 H at_1 (z := 1) rfl 2 rfl ?_
  refine g_iand X0 H at_2 (z := 1) ha0 3 rfl ?_
  refine gIfN X0 H at_3 (by decide) 6 rfl ?_
  refine gIconst X0 H at_6 (z := 1) rfl 7 rfl ?_
  refine gGoto X0 H at_7 (by decide) 11 rfl ?_
  refine gIstoreN X0 H at_11 (Ls' := #[vI p0, vI 1, .unset, .unset]) rfl 12 rfl ?_
  refine gIloadN X0 H at_12 rfl 13 rfl ?_
  refine gIconst X0 H at_13 (z := 2) rfl 14 rfl ?_
  refine g_iand X0 H at_14 (z := 0) ha1 15 rfl ?_
  refine gIfY X0 H at_15 (by decide) (by decide) 22 rfl ?_
  refine gIconst X0 H at_22 (z := 0) rfl 23 rfl ?_
  refine gIstoreN X0 H at_23 (Ls' := #[vI p0, vI 1, vI 0, .unset]) rfl 24 rfl ?_
  refine gIloadN X0 H at_24 rfl 25 rfl ?_
  refine gIloadN X0 H at_25 rfl 26 rfl ?_
  refine gStatic X0 H hZ hown (hw _ wd0) (hw _ wd1) (by decide) (hw _ wd3) (hw _ wd2) (rm20_1 B) e0 hml rfl pd0 rfl (W := 0) (argsL := [(.int 1), (.int 0)]) (rest := []) rfl rfl at_26 29 rfl ?_
  intro v21 T21 L21 hq21 X21
  obtain ⟨rfl, e21, rfl⟩ := hq21
  show Go _ _ _ _ (State.setTop _ (mkF _ 29 _ [(.ref w_JoinKind_LEFT)]))
  refine gAstoreN X21 H at_29 rfl (Ls' := #[vI p0, vI 1, vI 0, vR w_JoinKind_LEFT]) rfl 30 rfl ?_
  refine gAloadN X21 H at_30 rfl rfl 31 rfl ?_
  refine gNonnullY X21 H at_31 (by decide) 36 rfl ?_
  refine gAloadN X21 H at_36 rfl rfl 37 rfl ?_
  refine gVirt X21 H hZ hown (hw _ wd6) (hw _ wd7) (hw _ wd9) (hw _ wd8) (by decide) E_w_JoinKind_LEFT (hw _ wd10) (hw _ wd2) (rm23_2 B) e21 hml rfl pd1 rfl (W := 0) (argsL := []) (rest := []) rfl rfl at_37 40 rfl ?_
  intro v24 T24 L24 hq24 X24
  obtain ⟨rfl, e24, rfl⟩ := hq24
  show Go _ _ _ _ (State.setTop _ (mkF _ 40 _ [(.int 1)]))
  refine gIloadN X24 H at_40 rfl 41 rfl ?_
  refine gCmpN X24 H at_41 (by decide) 44 rfl ?_
  refine gAloadN X24 H at_44 rfl rfl 45 rfl ?_
  refine gVirt X24 H hZ hown (hw _ wd13) (hw _ wd14) (hw _ wd16) (hw _ wd15) (by decide) E_w_JoinKind_LEFT (hw _ wd17) (hw _ wd2) (rm26_3 B) e24 hml rfl pd1 rfl (W := 0) (argsL := []) (rest := []) rfl rfl at_45 48 rfl ?_
  intro v27 T27 L27 hq27 X27
  obtain ⟨rfl, e27, rfl⟩ := hq27
  show Go _ _ _ _ (State.setTop _ (mkF _ 48 _ [(.int 0)]))
  refine gIloadN X27 H at_48 rfl 49 rfl ?_
  refine gCmpN X27 H at_49 (by decide) 52 rfl ?_
  refine gIconst X27 H at_52 (z := 1) rfl 53 rfl ?_
  refine gGoto X27 H at_53 (by decide) 57 rfl ?_
  exact gRetN X27 H hlk hret (t := .boolean) (by simp) at_57 e27 ⟨rfl, Fr.nil _⟩
theorem rm29_1 (B : Bg Z a0 w_JoinKind_INNER w_JoinKind_FULL w_JoinKind_RIGHT w_JoinKind_LEFT) :
    Con l Z (⟨"com/example/rowcast/rowcast/JoinKind", "preserving", "(ZZ)Lcom/example/rowcast/rowcast/JoinKind;"⟩ : MethodName) prog_56_method_4_code 3 (some (.object "com/example/rowcast/rowcast/JoinKind")) ({ frames := 0, cells := 0, slots := 0, locals := 0 } : Room) #[(.int 1), (.int 1)] Z.heap (fun v h' L => v = some (.ref w_JoinKind_FULL) ∧ h' = Z.heap ∧ L = []) := by
  have hw := B.1
  obtain ⟨S_w_JoinKind_INNER, E_w_JoinKind_INNER, S_w_JoinKind_FULL, E_w_JoinKind_FULL, S_w_JoinKind_RIGHT, E_w_JoinKind_RIGHT, S_w_JoinKind_LEFT, E_w_JoinKind_LEFT, F_w_JoinKind_INNER_preservesLeft, F_w_JoinKind_INNER_preservesRight, F_w_JoinKind_FULL_preservesLeft, F_w_JoinKind_FULL_preservesRight, F_w_JoinKind_RIGHT_preservesLeft, F_w_JoinKind_RIGHT_preservesRight, F_w_JoinKind_LEFT_preservesLeft, F_w_JoinKind_LEFT_preservesRight⟩ := B.2
  refine Con.of (plainFor_of_name pn1) (Ls := #[vI 1, vI 1, .unset]) (fun m => by first | rfl | (simp [entryFrame, mkF, argsToLocals, Value.category]; done)) ?_
  intro p e s m below meth c T0 X0 H hml hZ hown hnm hret hlk e0
  refine gIloadN X0 H d1_0 rfl 1 rfl ?_
  refine gIfN X0 H d1_1 (by decide) 4 rfl ?_
  refine gIloadN X0 H d1_4 rfl 5 rfl ?_
  refine gIfN X0 H d1_5 (by decide) 8 rfl ?_
  refine gGetS X0 H hZ hown (hw _ wd20) e0 S_w_JoinKind_FULL d1_8 11 rfl ?_
  intro T28 X28 e28
  refine gAstoreN X28 H d1_11 rfl (Ls' := #[vI 1, vI 1, vR w_JoinKind_FULL]) rfl 12 rfl ?_
  refine gGoto X28 H d1_12 (by decide) 41 rfl ?_
  refine gAloadN X28 H d1_41 rfl rfl 42 rfl ?_
  exact gRetA X28 H hlk hret rfl rfl rfl d1_42 e28 ⟨rfl, rfl, rfl⟩
theorem rm32_2 (B : Bg Z a0 w_JoinKind_INNER w_JoinKind_FULL w_JoinKind_RIGHT w_JoinKind_LEFT) :
    Con l Z (⟨"com/example/rowcast/rowcast/JoinKind", "preservesLeft", "()Z"⟩ : MethodName) prog_56_method_6_code 1 (some .boolean) ({ frames := 0, cells := 0, slots := 0, locals := 0 } : Room) #[(.ref w_JoinKind_FULL)] Z.heap (fun v h' L => v = some (.int 1) ∧ h' = Z.heap ∧ L = []) := by
  have hw := B.1
  obtain ⟨S_w_JoinKind_INNER, E_w_JoinKind_INNER, S_w_JoinKind_FULL, E_w_JoinKind_FULL, S_w_JoinKind_RIGHT, E_w_JoinKind_RIGHT, S_w_JoinKind_LEFT, E_w_JoinKind_LEFT, F_w_JoinKind_INNER_preservesLeft, F_w_JoinKind_INNER_preservesRight, F_w_JoinKind_FULL_preservesLeft, F_w_JoinKind_FULL_preservesRight, F_w_JoinKind_RIGHT_preservesLeft, F_w_JoinKind_RIGHT_preservesRight, F_w_JoinKind_LEFT_preservesLeft, F_w_JoinKind_LEFT_preservesRight⟩ := B.2
  refine Con.of (plainFor_of_name pn2) (Ls := #[vR w_JoinKind_FULL]) (fun m => by first | rfl | (simp [entryFrame, mkF, argsToLocals, Value.category]; done)) ?_
  intro p e s m below meth c T0 X0 H hml hZ hown hnm hret hlk e0
  refine gAloadN X0 H d2_0 rfl rfl 1 rfl ?_
  refine gGetF X0 H hZ hown (hw _ wd11) Via.refl e0 F_w_JoinKind_FULL_preservesLeft d2_1 4 rfl ?_
  intro T31 X31 e31
  exact gRetN X31 H hlk hret (t := .boolean) (by simp) d2_4 e31 ⟨rfl, rfl, rfl⟩
theorem rm35_3 (B : Bg Z a0 w_JoinKind_INNER w_JoinKind_FULL w_JoinKind_RIGHT w_JoinKind_LEFT) :
    Con l Z (⟨"com/example/rowcast/rowcast/JoinKind", "preservesRight", "()Z"⟩ : MethodName) prog_56_method_7_code 1 (some .boolean) ({ frames := 0, cells := 0, slots := 0, locals := 0 } : Room) #[(.ref w_JoinKind_FULL)] Z.heap (fun v h' L => v = some (.int 1) ∧ h' = Z.heap ∧ L = []) := by
  have hw := B.1
  obtain ⟨S_w_JoinKind_INNER, E_w_JoinKind_INNER, S_w_JoinKind_FULL, E_w_JoinKind_FULL, S_w_JoinKind_RIGHT, E_w_JoinKind_RIGHT, S_w_JoinKind_LEFT, E_w_JoinKind_LEFT, F_w_JoinKind_INNER_preservesLeft, F_w_JoinKind_INNER_preservesRight, F_w_JoinKind_FULL_preservesLeft, F_w_JoinKind_FULL_preservesRight, F_w_JoinKind_RIGHT_preservesLeft, F_w_JoinKind_RIGHT_preservesRight, F_w_JoinKind_LEFT_preservesLeft, F_w_JoinKind_LEFT_preservesRight⟩ := B.2
  refine Con.of (plainFor_of_name pn3) (Ls := #[vR w_JoinKind_FULL]) (fun m => by first | rfl | (simp [entryFrame, mkF, argsToLocals, Value.category]; done)) ?_
  intro p e s m below meth c T0 X0 H hml hZ hown hnm hret hlk e0
  refine gAloadN X0 H d3_0 rfl rfl 1 rfl ?_
  refine gGetF X0 H hZ hown (hw _ wd18) Via.refl e0 F_w_JoinKind_FULL_preservesRight d3_1 4 rfl ?_
  intro T34 X34 e34
  exact gRetN X34 H hlk hret (t := .boolean) (by simp) d3_4 e34 ⟨rfl, rfl, rfl⟩
theorem lawAll_3 (B : Bg Z a0 w_JoinKind_INNER w_JoinKind_FULL w_JoinKind_RIGHT w_JoinKind_LEFT) (p0 : Int32) (ha0 : (p0 &&& (1 : Int32)) = (1 : Int32)) (ha1 : (p0 &&& (2 : Int32)) = (2 : Int32)) :
    Con l Z x code maxLocals ret room_1 #[(.int p0)] Z.heap (fun v h' L => v = some (.int 1) ∧ Fr Z.heap.size L) := by
  have hw := B.1
  obtain ⟨S_w_JoinKind_INNER, E_w_JoinKind_INNER, S_w_JoinKind_FULL, E_w_JoinKind_FULL, S_w_JoinKind_RIGHT, E_w_JoinKind_RIGHT, S_w_JoinKind_LEFT, E_w_JoinKind_LEFT, F_w_JoinKind_INNER_preservesLeft, F_w_JoinKind_INNER_preservesRight, F_w_JoinKind_FULL_preservesLeft, F_w_JoinKind_FULL_preservesRight, F_w_JoinKind_RIGHT_preservesLeft, F_w_JoinKind_RIGHT_preservesRight, F_w_JoinKind_LEFT_preservesLeft, F_w_JoinKind_LEFT_preservesRight⟩ := B.2
  refine Con.of (plainFor_of_name pn0) (Ls := #[vI p0, .unset, .unset, .unset]) (fun m => by first | rfl | (simp [entryFrame, mkF, argsToLocals, Value.category, maxLocals]; done)) ?_
  intro p e s m below meth c T0 X0 H hml hZ hown hnm hret hlk e0
  refine gIloadN X0 H at_0 rfl 1 rfl ?_
  refine gIconst X0 H at_1 (z := 1) rfl 2 rfl ?_
  refine g_iand X0 H at_2 (z := 1) ha0 3 rfl ?_
  refine gIfN X0 H at_3 (by decide) 6 rfl ?_
  refine gIconst X0 H at_6 (z := 1) rfl 7 rfl ?_
  refine gGoto X0 H at_7 (by decide) 11 rfl ?_
  refine gIstoreN X0 H at_11 (Ls' := #[vI p0, vI 1, .unset, .unset]) rfl 12 rfl ?_
  refine gIloadN X0 H at_12 rfl 13 rfl ?_
  refine gIconst X0 H at_13 (z := 2) rfl 14 rfl ?_
  refine g_iand X0 H at_14 (z := 2) ha1 15 rfl ?_
  refine gIfN X0 H at_15 (by decide) 18 rfl ?_
  refine gIconst X0 H at_18 (z := 1) rfl 19 rfl ?_
  refine gGoto X0 H at_19 (by decide) 23 rfl ?_
  refine gIstoreN X0 H at_23 (Ls' := #[vI p0, vI 1, vI 1, .unset]) rfl 24 rfl ?_
  refine gIloadN X0 H at_24 rfl 25 rfl ?_
  refine gIloadN X0 H at_25 rfl 26 rfl ?_
  refine gStatic X0 H hZ hown (hw _ wd0) (hw _ wd1) (by decide) (hw _ wd3) (hw _ wd2) (rm29_1 B) e0 hml rfl pd0 rfl (W := 0) (argsL := [(.int 1), (.int 1)]) (rest := []) rfl rfl at_26 29 rfl ?_
  intro v30 T30 L30 hq30 X30
  obtain ⟨rfl, e30, rfl⟩ := hq30
  show Go _ _ _ _ (State.setTop _ (mkF _ 29 _ [(.ref w_JoinKind_FULL)]))
  refine gAstoreN X30 H at_29 rfl (Ls' := #[vI p0, vI 1, vI 1, vR w_JoinKind_FULL]) rfl 30 rfl ?_
  refine gAloadN X30 H at_30 rfl rfl 31 rfl ?_
  refine gNonnullY X30 H at_31 (by decide) 36 rfl ?_
  refine gAloadN X30 H at_36 rfl rfl 37 rfl ?_
  refine gVirt X30 H hZ hown (hw _ wd6) (hw _ wd7) (hw _ wd9) (hw _ wd8) (by decide) E_w_JoinKind_FULL (hw _ wd10) (hw _ wd2) (rm32_2 B) e30 hml rfl pd1 rfl (W := 0) (argsL := []) (rest := []) rfl rfl at_37 40 rfl ?_
  intro v33 T33 L33 hq33 X33
  obtain ⟨rfl, e33, rfl⟩ := hq33
  show Go _ _ _ _ (State.setTop _ (mkF _ 40 _ [(.int 1)]))
  refine gIloadN X33 H at_40 rfl 41 rfl ?_
  refine gCmpN X33 H at_41 (by decide) 44 rfl ?_
  refine gAloadN X33 H at_44 rfl rfl 45 rfl ?_
  refine gVirt X33 H hZ hown (hw _ wd13) (hw _ wd14) (hw _ wd16) (hw _ wd15) (by decide) E_w_JoinKind_FULL (hw _ wd17) (hw _ wd2) (rm35_3 B) e33 hml rfl pd1 rfl (W := 0) (argsL := []) (rest := []) rfl rfl at_45 48 rfl ?_
  intro v36 T36 L36 hq36 X36
  obtain ⟨rfl, e36, rfl⟩ := hq36
  show Go _ _ _ _ (State.setTop _ (mkF _ 48 _ [(.int 1)]))
  refine gIloadN X36 H at_48 rfl 49 rfl ?_
  refine gCmpN X36 H at_49 (by decide) 52 rfl ?_
  refine gIconst X36 H at_52 (z := 1) rfl 53 rfl ?_
  refine gGoto X36 H at_53 (by decide) 57 rfl ?_
  exact gRetN X36 H hlk hret (t := .boolean) (by simp) at_57 e36 ⟨rfl, Fr.nil _⟩
theorem lawAll (B : Bg Z a0 w_JoinKind_INNER w_JoinKind_FULL w_JoinKind_RIGHT w_JoinKind_LEFT) (p0 : Int32) :
    Con l Z x code maxLocals ret room_1 #[(.int p0)] Z.heap (fun v h' L => v = some (.int 1) ∧ Fr Z.heap.size L) := by
  rcases m1 p0 with ha0 | ha0
  · rcases b2 p0 with ha1 | ha1
    · exact lawAll_0 B p0 ha0 ha1
    · exact lawAll_1 B p0 ha0 ha1
  · rcases b2 p0 with ha1 | ha1
    · exact lawAll_2 B p0 ha0 ha1
    · exact lawAll_3 B p0 ha0 ha1
end Walk
set_option maxHeartbeats 4000000 in
theorem comes_1 {Post : Tables → Env → Array Value → State → Outcome → State → Prop} (hpost : ∀ tb e args s v u, (limb_1_1.after args s (.returned v) u = true ∧ limb_1_2.after args s (.returned v) u = true ∧ True) → FrameEnd s (.returned v) u (Jvm.fieldLocs frame_1_writes args s ++ Jvm.arrayLocs frame_1_arrays args s ++ Jvm.staticLocs frame_1_statics s) 0 0 → Post tb e args s (.returned v) u) :
    ArmFor flags0 classFile x code maxLocals ret World_1 tables_1 room_1 Calls_1 rest_1 Pre_1 Post := by
  intro l hfl _ _ p e ha hc hk s m args below hf hA hF happ hP
  obtain ⟨hcalls, hrest, hpre⟩ := hP
  obtain ⟨-, -, -, hnamed, -, -, -, hat⟩ := (Spec.applies_iff hf).mp happ
  obtain ⟨hg, hn⟩ := and_e (Cond.before_iff.mp (show (Jvm.Cond.and given_1 narrow_1).before args s = true from hpre))
  obtain ⟨n1, n2⟩ := and_e hg
  obtain ⟨w0, rfl⟩ : ∃ w0 : Value, args = #[w0] := by
    have hs : args.size = 1 := by simpa [Cond.value, given_1] using n1
    obtain ⟨L⟩ := args
    match L, hs with
    | [w0], _ => exact ⟨w0, rfl⟩
  have hfit : Fit s := fun {y c} hc i hi => by
    obtain ⟨ha, rfl⟩ := Array.getElem?_eq_some_iff.mp hc
    have q := List.all_eq_true.mp ((Array.all_eq_true_iff_forall_mem.mp hF) _ (Array.getElem_mem ha)) i (List.mem_range.mpr hi)
    simpa [Array.getElem?_eq_getElem hi] using q
  have hw := fun d (hd : d ∈ tables_1) => atoms_spec (ws := Jvm.Cond.code x code maxLocals ret :: tables_1) hat d (List.mem_cons_of_mem _ hd)
  obtain ⟨i0, ei0⟩ := is_v n2
  obtain rfl : w0 = (.int i0) := Option.some.inj ei0
  obtain ⟨n3, n4⟩ := and_e hn
  obtain ⟨n5, n6⟩ := and_e n4
  obtain ⟨n7, n8⟩ := and_e n6
  obtain ⟨n9, n10⟩ := and_e n8
  obtain ⟨n11, n12⟩ := and_e n10
  obtain ⟨n13, n14⟩ := and_e n12
  obtain ⟨n15, n16⟩ := and_e n14
  obtain ⟨n17, n18⟩ := and_e n16
  obtain ⟨n19, n20⟩ := and_e n18
  obtain ⟨n21, n22⟩ := and_e n20
  obtain ⟨n23, n24⟩ := and_e n22
  obtain ⟨w_JoinKind_INNER, ev_w_JoinKind_INNER⟩ := exa_v n3
  obtain ⟨w_JoinKind_FULL, ev_w_JoinKind_FULL⟩ := exa_v n9
  obtain ⟨w_JoinKind_RIGHT, ev_w_JoinKind_RIGHT⟩ := exa_v n15
  obtain ⟨w_JoinKind_LEFT, ev_w_JoinKind_LEFT⟩ := exa_v n21
  have W : World s w_JoinKind_INNER w_JoinKind_FULL w_JoinKind_RIGHT w_JoinKind_LEFT := ⟨Sta.start ev_w_JoinKind_INNER (Or.inr ⟨(hw _ wd2), (hw _ wd5)⟩), Exa.start ev_w_JoinKind_INNER n3, Sta.start ev_w_JoinKind_FULL (Or.inr ⟨(hw _ wd2), (hw _ wd21)⟩), Exa.start ev_w_JoinKind_FULL n9, Sta.start ev_w_JoinKind_RIGHT (Or.inr ⟨(hw _ wd2), (hw _ wd23)⟩), Exa.start ev_w_JoinKind_RIGHT n15, Sta.start ev_w_JoinKind_LEFT (Or.inr ⟨(hw _ wd2), (hw _ wd25)⟩), Exa.start ev_w_JoinKind_LEFT n21, eqI ev_w_JoinKind_INNER n5, eqI ev_w_JoinKind_INNER n7, eqI ev_w_JoinKind_FULL n11, eqI ev_w_JoinKind_FULL n13, eqI ev_w_JoinKind_RIGHT n17, eqI ev_w_JoinKind_RIGHT n19, eqI ev_w_JoinKind_LEFT n23, eqI ev_w_JoinKind_LEFT n24⟩
  have B : Bg s _ w_JoinKind_INNER w_JoinKind_FULL w_JoinKind_RIGHT w_JoinKind_LEFT := ⟨hw, W⟩
  obtain ⟨n, o, h1, h2, h3, _, L, rfl, ⟨rfl, N⟩, hq⟩ := (lawAll (l := l) B i0) tables_1 p e ha hc hk s m _ below hf ((Spec.applies_iff_loose hf).mp happ).1 ⟨rfl, State.Warmed39.refl s, rfl⟩ trivial
  refine ⟨n, _, h1, h2, h3, hpost _ _ _ _ _ _ ⟨Cond.after_iff.mpr rfl, Cond.after_iff.mpr (eq_i res_at (Term.int_eval (1)) rfl), trivial⟩ ⟨hq.1, hq.2.1, (hq.2.2.sift fun y hy => Or.inr (N y hy)).mono (by decide) (by decide)⟩⟩
theorem main_1_1 : Claimed_1_1 := comes_1 fun _ _ _ _ _ _ h hF => ⟨h.1, hF⟩
theorem main_1_2 : Claimed_1_2 := comes_1 fun _ _ _ _ _ _ h hF => ⟨h.2.1, hF⟩
end Jvm.Pilot.@@N@@
namespace Jvm.Pilot.@@N@@
open Jvm Jvm.ClassFile Sem Op Lib Jvm.Free Jvm.Stand Jvm.Pilot.@@N@@.Jvm.D
/-! MADE BY PROGRAM (witnessworld.py) out of the Statement's table words and the real class files: 12 classes; the members and pool entries that the words name. The judged class is class 1, her method 1. -/
namespace start1
open Jvm.ClassFile
def u (s : String) : CpInfo := .utf8 (stringToUtf16 s)
/-- a pool by its gaps: so many unusable entries, then the entry; so many at the end -/
def gap : Nat → List CpInfo → List CpInfo
  | 0, r => r
  | n + 1, r => .unusable :: gap n r
def poolList (es : List (Nat × CpInfo)) (last : Nat) : List CpInfo := es.foldr (fun e r => gap e.1 (e.2 :: r)) (gap last [])
def pool (es : List (Nat × CpInfo)) (last : Nat) : Array CpInfo := ⟨poolList es last⟩
def fileOf (pool : Array CpInfo) (this : Nat) (attrs : Array Attribute := #[]) (ms : Array MethodInfo := #[]) (fl : Nat := 33) (sup : Nat := 0) (ifs : Array Nat := #[]) (fds : Array FieldInfo := #[]) : ClassFile where
  minorVersion := 0
  majorVersion := 65
  constantPool := pool
  accessFlags := fl
  thisClass := this
  superClass := sup
  interfaces := ifs
  fields := fds
  methods := ms
  attributes := attrs
def plain (name : String) (sup : Option ClassId) : Class where
  name := name
  kind := .ordinary
  loader := none
  accessFlags := 33
  super := sup
  interfaces := #[]
  cf := none
  fields := #[]
  methods := #[]
  instanceTypes := #[]
  staticTypes := #[]
  resolved := #[]
  callSites := []
  init := .initialized
  statics := none
  mirror := none

def pool0 : Array CpInfo := pool [(5, u "<init>"), (0, u "()V"), (1, .class_ 10), (1, u "java/lang/Object")] 113

def k0m0 : Method := { name := "<init>", desc := "()V", sig := { parameters := [], returnType := none }, accessFlags := 1, code := none }
/-- java/lang/Object -/
def k0 : Class := { plain "java/lang/Object" none with
  accessFlags := 33
  interfaces := #[]
  cf := some (fileOf pool0 8 #[] #[{ accessFlags := 1, nameIndex := 5, descriptorIndex := 6, attributes := #[] }] 33 0 #[] #[])
  fields := #[]
  methods := #[k0m0]
  instanceTypes := #[]
  staticTypes := #[]
  resolved := Array.replicate 124 none
  statics := none }

def pool1 : Array CpInfo := pool [(2, .class_ 4), (1, u "java/lang/Object"), (0, u "<init>"), (0, u "()V"), (0, .methodref 8 9), (0, .class_ 10), (0, .nameAndType 11 12), (0, u "com/example/rowcast/rowcast/JoinKind"), (0, u "preserving"), (0, u "(ZZ)Lcom/example/rowcast/rowcast/JoinKind;"), (0, .methodref 8 14), (0, .nameAndType 15 16), (0, u "preservesLeft"), (0, u "()Z"), (0, .methodref 8 18), (0, .nameAndType 19 16), (0, u "preservesRight"), (0, .class_ 21), (0, u "com/example/rowcast/rowcast/JoinKindPreservingPinLaw"), (2, u "law"), (0, u "(I)Z")] 3

def k1m0 : Method := { name := "<init>", desc := "()V", sig := { parameters := [], returnType := none }, accessFlags := 2, code := none }
def k1c1 : Code := { maxStack := 2, maxLocals := 4, code := code, exceptionTable := #[], attributes := #[] }
def k1m1 : Method := { name := "law", desc := "(I)Z", sig := { parameters := [.int], returnType := some .boolean }, accessFlags := 9, code := some k1c1 }
/-- com/example/rowcast/rowcast/JoinKindPreservingPinLaw -/
def k1 : Class := { plain "com/example/rowcast/rowcast/JoinKindPreservingPinLaw" (some 0) with
  accessFlags := 49
  interfaces := #[]
  cf := some (fileOf pool1 20 #[] #[{ accessFlags := 2, nameIndex := 5, descriptorIndex := 6, attributes := #[] }, { accessFlags := 9, nameIndex := 24, descriptorIndex := 25, attributes := #[] }] 49 2 #[] #[])
  fields := #[]
  methods := #[k1m0, k1m1]
  instanceTypes := #[]
  staticTypes := #[]
  resolved := Array.replicate 29 none
  statics := none }

def pool2 : Array CpInfo := pool [(1, .class_ 2), (0, u "java/lang/constant/Constable"), (0, .class_ 4), (0, u "java/lang/Object")] 6

/-- java/lang/constant/Constable -/
def k2 : Class := { plain "java/lang/constant/Constable" (some 0) with
  accessFlags := 1537
  interfaces := #[]
  cf := some (fileOf pool2 1 #[] #[] 1537 3 #[] #[])
  fields := #[]
  methods := #[]
  instanceTypes := #[]
  staticTypes := #[]
  resolved := Array.replicate 11 none
  statics := none }

def pool3 : Array CpInfo := pool [(1, .class_ 2), (0, u "java/lang/Comparable"), (0, .class_ 4), (0, u "java/lang/Object")] 7

/-- java/lang/Comparable -/
def k3 : Class := { plain "java/lang/Comparable" (some 0) with
  accessFlags := 1537
  interfaces := #[]
  cf := some (fileOf pool3 1 #[] #[] 1537 3 #[] #[])
  fields := #[]
  methods := #[]
  instanceTypes := #[]
  staticTypes := #[]
  resolved := Array.replicate 12 none
  statics := none }

def pool4 : Array CpInfo := pool [(1, .class_ 2), (0, u "java/io/Serializable"), (0, .class_ 4), (0, u "java/lang/Object")] 2

/-- java/io/Serializable -/
def k4 : Class := { plain "java/io/Serializable" (some 0) with
  accessFlags := 1537
  interfaces := #[]
  cf := some (fileOf pool4 1 #[] #[] 1537 3 #[] #[])
  fields := #[]
  methods := #[]
  instanceTypes := #[]
  staticTypes := #[]
  resolved := Array.replicate 7 none
  statics := none }

def pool5 : Array CpInfo := pool [(2, .class_ 4), (1, u "java/lang/Enum"), (0, u "name"), (0, u "Ljava/lang/String;"), (2, u "ordinal"), (0, u "I"), (1, .class_ 14), (1, u "java/lang/Object"), (4, u "hash"), (86, .class_ 108), (1, u "java/lang/Enum$EnumDesc"), (2, .class_ 112), (0, u "java/lang/constant/Constable"), (0, .class_ 114), (0, u "java/lang/Comparable"), (0, .class_ 116), (0, u "java/io/Serializable")] 87

/-- java/lang/Enum -/
def k5 : Class := { plain "java/lang/Enum" (some 0) with
  accessFlags := 1057
  interfaces := #[2, 3, 4]
  cf := some (fileOf pool5 2 #[.nestMembers #[106]] #[] 1057 12 #[111, 113, 115] #[{ accessFlags := 18, nameIndex := 5, descriptorIndex := 6, attributes := #[] }, { accessFlags := 18, nameIndex := 9, descriptorIndex := 10, attributes := #[] }, { accessFlags := 2, nameIndex := 19, descriptorIndex := 10, attributes := #[] }])
  fields := #[{ name := "name", type := (.object "java/lang/String"), accessFlags := 18, slot := 0, constantValue := 0 }, { name := "ordinal", type := .int, accessFlags := 18, slot := 1, constantValue := 0 }, { name := "hash", type := .int, accessFlags := 2, slot := 2, constantValue := 0 }]
  methods := #[]
  instanceTypes := #[(.object "java/lang/String"), .int, .int]
  staticTypes := #[]
  resolved := Array.replicate 204 none
  statics := none }

def pool6 : Array CpInfo := pool [(1, .class_ 2), (0, u "com/example/rowcast/rowcast/JoinKind"), (0, .fieldref 1 4), (0, .nameAndType 5 6), (0, u "INNER"), (0, u "Lcom/example/rowcast/rowcast/JoinKind;"), (0, .fieldref 1 8), (0, .nameAndType 9 6), (0, u "LEFT"), (0, .fieldref 1 11), (0, .nameAndType 12 6), (0, u "RIGHT"), (0, .fieldref 1 14), (0, .nameAndType 15 6), (0, u "FULL"), (2, u "$VALUES"), (0, u "[Lcom/example/rowcast/rowcast/JoinKind;"), (6, .class_ 28), (1, u "java/lang/Enum"), (6, .fieldref 1 36), (0, .nameAndType 37 38), (0, u "preservesLeft"), (0, u "Z"), (0, .fieldref 1 40), (0, .nameAndType 41 38), (0, u "preservesRight"), (40, u "preserving"), (0, u "(ZZ)Lcom/example/rowcast/rowcast/JoinKind;"), (2, u "()Z")] 20

def k6c0 : Code := { maxStack := 1, maxLocals := 3, code := prog_56_method_4_code, exceptionTable := #[], attributes := #[] }
def k6m0 : Method := { name := "preserving", desc := "(ZZ)Lcom/example/rowcast/rowcast/JoinKind;", sig := { parameters := [.boolean, .boolean], returnType := some (.object "com/example/rowcast/rowcast/JoinKind") }, accessFlags := 8, code := some k6c0 }
def k6c1 : Code := { maxStack := 1, maxLocals := 1, code := prog_56_method_6_code, exceptionTable := #[], attributes := #[] }
def k6m1 : Method := { name := "preservesLeft", desc := "()Z", sig := { parameters := [], returnType := some .boolean }, accessFlags := 0, code := some k6c1 }
def k6c2 : Code := { maxStack := 1, maxLocals := 1, code := prog_56_method_7_code, exceptionTable := #[], attributes := #[] }
def k6m2 : Method := { name := "preservesRight", desc := "()Z", sig := { parameters := [], returnType := some .boolean }, accessFlags := 0, code := some k6c2 }
/-- com/example/rowcast/rowcast/JoinKind -/
def k6 : Class := { plain "com/example/rowcast/rowcast/JoinKind" (some 5) with
  accessFlags := 16432
  interfaces := #[]
  cf := some (fileOf pool6 1 #[] #[{ accessFlags := 8, nameIndex := 82, descriptorIndex := 83, attributes := #[] }, { accessFlags := 0, nameIndex := 37, descriptorIndex := 86, attributes := #[] }, { accessFlags := 0, nameIndex := 41, descriptorIndex := 86, attributes := #[] }] 16432 26 #[] #[{ accessFlags := 16409, nameIndex := 5, descriptorIndex := 6, attributes := #[] }, { accessFlags := 16409, nameIndex := 9, descriptorIndex := 6, attributes := #[] }, { accessFlags := 16409, nameIndex := 12, descriptorIndex := 6, attributes := #[] }, { accessFlags := 16409, nameIndex := 15, descriptorIndex := 6, attributes := #[] }, { accessFlags := 18, nameIndex := 37, descriptorIndex := 38, attributes := #[] }, { accessFlags := 18, nameIndex := 41, descriptorIndex := 38, attributes := #[] }, { accessFlags := 4122, nameIndex := 18, descriptorIndex := 19, attributes := #[] }])
  fields := #[{ name := "INNER", type := (.object "com/example/rowcast/rowcast/JoinKind"), accessFlags := 16409, slot := 0, constantValue := 0 }, { name := "LEFT", type := (.object "com/example/rowcast/rowcast/JoinKind"), accessFlags := 16409, slot := 1, constantValue := 0 }, { name := "RIGHT", type := (.object "com/example/rowcast/rowcast/JoinKind"), accessFlags := 16409, slot := 2, constantValue := 0 }, { name := "FULL", type := (.object "com/example/rowcast/rowcast/JoinKind"), accessFlags := 16409, slot := 3, constantValue := 0 }, { name := "preservesLeft", type := .boolean, accessFlags := 18, slot := 3, constantValue := 0 }, { name := "preservesRight", type := .boolean, accessFlags := 18, slot := 4, constantValue := 0 }, { name := "$VALUES", type := (.array (.object "com/example/rowcast/rowcast/JoinKind")), accessFlags := 4122, slot := 4, constantValue := 0 }]
  methods := #[k6m0, k6m1, k6m2]
  instanceTypes := #[(.object "java/lang/String"), .int, .int, .boolean, .boolean]
  staticTypes := #[(.object "com/example/rowcast/rowcast/JoinKind"), (.object "com/example/rowcast/rowcast/JoinKind"), (.object "com/example/rowcast/rowcast/JoinKind"), (.object "com/example/rowcast/rowcast/JoinKind"), (.array (.object "com/example/rowcast/rowcast/JoinKind"))]
  resolved := Array.replicate 107 none
  statics := some 0 }

def pool7 : Array CpInfo := pool [(1, u "java/lang/Cloneable"), (0, .class_ 1), (0, u "java/lang/Object"), (0, .class_ 3)] 3

/-- java/lang/Cloneable -/
def k7 : Class := { plain "java/lang/Cloneable" (some 0) with
  accessFlags := 1537
  interfaces := #[]
  cf := some (fileOf pool7 2 #[] #[] 1537 4 #[] #[])
  fields := #[]
  methods := #[]
  instanceTypes := #[]
  staticTypes := #[]
  resolved := Array.replicate 8 none
  statics := none }

/-- the primitive byte -/
def k8 : Class := { plain "byte" none with kind := .primitive 'B', accessFlags := 0x411 }
/-- [B -/
def k9 : Class := { plain "[B" (some 0) with kind := .array 8 .byte, interfaces := #[7, 4], accessFlags := 1041 }

/-- the primitive int -/
def k10 : Class := { plain "int" none with kind := .primitive 'I', accessFlags := 0x411 }
/-- [I -/
def k11 : Class := { plain "[I" (some 0) with kind := .array 10 .int, interfaces := #[7, 4], accessFlags := 1041 }

def heap : Heap := #[{ cls := 6, slots := #[.ref 1, .ref 4, .ref 3, .ref 2, .null], vm := .statics 6 },
  { cls := 6, slots := #[.null, .int 0, .int 0, .int 0, .int 0], vm := .none },
  { cls := 6, slots := #[.null, .int 0, .int 0, .int 1, .int 1], vm := .none },
  { cls := 6, slots := #[.null, .int 0, .int 0, .int 0, .int 1], vm := .none },
  { cls := 6, slots := #[.null, .int 0, .int 0, .int 1, .int 0], vm := .none }]
def classes : Array Class := #[k0, k1, k2, k3, k4, k5, k6, k7, k8, k9, k10, k11]
def interned : List (Array UInt16 × Addr) := []
def slotsUsed : Nat := 25
def theMethod : MethodId := ⟨1, 1⟩
def args0 : Array Value := #[.int 5]
def aboutOver (below : List Frame) : State where
  vm := { classes := classes, interned := interned.toArray }
  heap := heap
  slotsUsed := slotsUsed
  threads := #[{ frames := .invoking theMethod args0 :: below }]
def below0 : List Frame := [.native { method := ⟨0, 0⟩, args := #[] }]
def about1 : State := aboutOver below0
def p0 : Program := .bare "" "" ""
def e0 : Env := launch0.env 0 0 0
theorem w_frames : about1.frames = Frame.invoking theMethod args0 :: below0 := rfl
set_option maxRecDepth 65536 in
theorem w_args : argsFit about1.vm theMethod args0 = true := by decide +kernel
set_option maxRecDepth 65536 in
theorem w_heap : heapFits about1 = true := by decide +kernel
set_option maxRecDepth 65536 in
theorem w_runnable : about1.curStatus? = some .runnable := by decide +kernel
set_option maxRecDepth 65536 in
theorem w_alone : about1.alone = true := by decide +kernel
set_option maxRecDepth 65536 in
theorem w_named : about1.methodNamed? x = some theMethod := by decide +kernel
set_option maxRecDepth 65536 in
theorem w_hears : about1.hears theMethod below0 = true := by decide +kernel
set_option maxRecDepth 65536 in
theorem w_ripe : about1.ripe theMethod args0 below0 = true := by decide +kernel
theorem w_running : about1.status = .running := rfl
set_option maxRecDepth 65536 in
theorem w_room : about1.hasRoom e0.platform room_1 = true :=
  launch0.hasRoom_least _ room_1 (by decide +kernel) (by decide +kernel) (by decide +kernel) (by decide +kernel) (by decide +kernel) (by decide +kernel)
theorem allAtoms_all (ts : List Jvm.Cond) (a : Array Jvm.Value) (st : Jvm.State) : (allAtoms ts).before a st = ts.all (fun c => c.before a st) := by
  induction ts with
  | nil => rfl
  | cons c t ih =>
    show (Jvm.Cond.and c (allAtoms t)).before a st = _
    rw [Jvm.Cond.before_and, ih, List.all_cons]
def words1 : List Jvm.Cond := Jvm.Cond.code x code maxLocals ret :: tables_1
/-- a 'code' word, met by the world's own term for the bytes: nothing is compared byte by byte -/
theorem code_word {y : MethodName} {bytes : ByteArray} {mx : Nat} {rt : Option FieldType} {a : Array Value} {s : State} {m : MethodId} {meth : Method} {c : Code} (h1 : s.methodNamed? y = some m) (h2 : s.vm.method? m = some meth) (h3 : meth.code = some c) (h4 : c.code = bytes)
    (h5 : (c.maxLocals == mx && c.exceptionTable.isEmpty && decide (c.maxStack ≤ mostOperands) && decide (meth.sig.returnType = rt) && !meth.locks && decide (parseMethodDescriptor y.desc = some meth.sig)) = true) : (Jvm.Cond.code y bytes mx rt).before a s = true := by
  simp only [Bool.and_eq_true, beq_iff_eq, Bool.not_eq_true', decide_eq_true_eq] at h5
  obtain ⟨⟨⟨⟨⟨g1, g2⟩, g3⟩, g4⟩, g5⟩, g6⟩ := h5
  simp [Cond.before, Cond.holds, Cond.value, h1, h2, h3, h4, g1, g2, g3, g4, g5, g6]
def isCode : Jvm.Cond → Bool
  | .code _ _ _ _ => true
  | _ => false
theorem all_split {L : List Jvm.Cond} {P : Jvm.Cond → Bool} (h1 : L.all (fun c => isCode c || P c) = true) (h2 : ∀ c ∈ L.filter isCode, P c = true) : L.all P = true := by
  refine List.all_eq_true.mpr fun c hc => ?_
  have h := List.all_eq_true.mp h1 c hc
  rcases Bool.eq_false_or_eq_true (isCode c) with hi | hi
  · exact h2 c (List.mem_filter.mpr ⟨hc, hi⟩)
  · simpa [hi] using h
set_option maxRecDepth 65536 in
theorem w_c0 : (Jvm.Cond.code x code maxLocals ret).before args0 about1 = true := code_word (m := ⟨1, 1⟩) (meth := k1m1) (c := k1c1) (by decide +kernel) rfl rfl rfl (by decide +kernel)
set_option maxRecDepth 65536 in
theorem w_c1 : (Jvm.Cond.code ({ cls := "com/example/rowcast/rowcast/JoinKind", name := "preserving", desc := "(ZZ)Lcom/example/rowcast/rowcast/JoinKind;" } : Jvm.MethodName) prog_56_method_4_code (3 : Nat) (Option.some (Jvm.ClassFile.FieldType.object "com/example/rowcast/rowcast/JoinKind"))).before args0 about1 = true := code_word (m := ⟨6, 0⟩) (meth := k6m0) (c := k6c0) (by decide +kernel) rfl rfl rfl (by decide +kernel)
set_option maxRecDepth 65536 in
theorem w_c2 : (Jvm.Cond.code ({ cls := "com/example/rowcast/rowcast/JoinKind", name := "preservesLeft", desc := "()Z" } : Jvm.MethodName) prog_56_method_6_code (1 : Nat) (Option.some Jvm.ClassFile.FieldType.boolean)).before args0 about1 = true := code_word (m := ⟨6, 1⟩) (meth := k6m1) (c := k6c1) (by decide +kernel) rfl rfl rfl (by decide +kernel)
set_option maxRecDepth 65536 in
theorem w_c3 : (Jvm.Cond.code ({ cls := "com/example/rowcast/rowcast/JoinKind", name := "preservesRight", desc := "()Z" } : Jvm.MethodName) prog_56_method_7_code (1 : Nat) (Option.some Jvm.ClassFile.FieldType.boolean)).before args0 about1 = true := code_word (m := ⟨6, 2⟩) (meth := k6m2) (c := k6c2) (by decide +kernel) rfl rfl rfl (by decide +kernel)
def codes1 : List Jvm.Cond := [Jvm.Cond.code x code maxLocals ret, Jvm.Cond.code ({ cls := "com/example/rowcast/rowcast/JoinKind", name := "preserving", desc := "(ZZ)Lcom/example/rowcast/rowcast/JoinKind;" } : Jvm.MethodName) prog_56_method_4_code (3 : Nat) (Option.some (Jvm.ClassFile.FieldType.object "com/example/rowcast/rowcast/JoinKind")), Jvm.Cond.code ({ cls := "com/example/rowcast/rowcast/JoinKind", name := "preservesLeft", desc := "()Z" } : Jvm.MethodName) prog_56_method_6_code (1 : Nat) (Option.some Jvm.ClassFile.FieldType.boolean), Jvm.Cond.code ({ cls := "com/example/rowcast/rowcast/JoinKind", name := "preservesRight", desc := "()Z" } : Jvm.MethodName) prog_56_method_7_code (1 : Nat) (Option.some Jvm.ClassFile.FieldType.boolean)]
set_option maxRecDepth 65536 in
theorem codes_eq : words1.filter isCode = codes1 := rfl
theorem w_codes : ∀ c ∈ words1.filter isCode, c.before args0 about1 = true := by
  rw [codes_eq]
  intro c hc
  simp only [codes1, List.mem_cons, List.not_mem_nil, or_false] at hc
  rcases hc with rfl | rfl | rfl | rfl
  · exact w_c0
  · exact w_c1
  · exact w_c2
  · exact w_c3
set_option maxRecDepth 65536 in
theorem w_t1 : (words1.take 24).all (fun c => isCode c || c.before args0 about1) = true := by decide +kernel
set_option maxRecDepth 65536 in
theorem w_t2 : (words1.drop 24).all (fun c => isCode c || c.before args0 about1) = true := by decide +kernel
theorem w_tables : (allAtoms (Jvm.Cond.code x code maxLocals ret :: tables_1)).before args0 about1 = true := by
  rw [allAtoms_all]
  show words1.all (fun c => c.before args0 about1) = true
  refine all_split ?_ w_codes
  rw [← List.take_append_drop 24 words1, List.all_append, w_t1, w_t2]
  rfl
set_option maxRecDepth 65536 in
theorem w_case : (Jvm.Cond.and given_1 narrow_1).before args0 about1 = true := by decide +kernel
theorem w_applies : (headSpec (Jvm.Cond.code x code maxLocals ret :: tables_1) room_1).applies x e0.platform about1 = true :=
  (Spec.applies_iff w_frames).mpr ⟨w_running, w_runnable, w_alone, w_named, w_hears, w_ripe, w_room, w_tables⟩
theorem atStart : AtStart classFile x code maxLocals ret World_1 tables_1 room_1 Calls_1 rest_1 Pre_1 launch0 p0 e0 about1 theMethod args0 below0 :=
  ⟨lists_1, trivial, launch0.admits_env _ _ _, launch0.least_env, fairChoices_fair.cas, fairChoices_fair.clock, w_frames, w_args, w_heap, w_applies, trivial, trivial, w_case⟩
end start1
theorem witness_1 : WitnessClaimed_1 := ⟨start1.p0, start1.e0, start1.about1, start1.theMethod, start1.args0, start1.below0, start1.atStart⟩
end Jvm.Pilot.@@N@@
