import JvmDerived
import JvmDerived.Pilot.@@N@@Statement
import JvmDerived.Pilot.@@N@@Code
set_option linter.unusedVariables false
set_option linter.unusedSimpArgs false
set_option maxRecDepth 65536
set_option maxHeartbeats 8000000
namespace Jvm.Pilot.@@N@@
open Jvm Jvm.ClassFile Sem Op Lib Jvm.Free Jvm.Stand Jvm.LawKit Jvm.RoadKit Bundle Jvm.Pilot.@@N@@.Jvm.D
abbrev vI (x : Int32) : Slot := .val (.int x)
abbrev vJ (x : Int64) : Slot := .val (.long x)
abbrev vR (x : Addr) : Slot := .val (.ref x)
abbrev vN : Slot := .val .null
/-- the run from S comes to an end at which K holds -/
def Go (p : Program) (e : Env) (below : List Frame) (K : State → Outcome → Prop) (S : State) : Prop := ∃ t o, Steps p.tables e below S t ∧ K t o
theorem Go.via {p : Program} {e : Env} {below : List Frame} {K : State → Outcome → Prop} {A B : State} (h : ∀ t, Steps p.tables e below B t → Steps p.tables e below A t) (g : Go p e below K B) : Go p e below K A := by
  obtain ⟨t, o, h1, h2⟩ := g; exact ⟨t, o, h t h1, h2⟩
/-- a method's end: what it returned, the heap and the places written answer Q -/
def EndK (s : State) (below : List Frame) (Q : Option Value → Heap → List Loc → Prop) (C S : Nat) (t : State) (o : Outcome) : Prop := t.status = .running ∧ Ended t below o ∧ ∃ v L, o = .returned v ∧ Q v t.heap L ∧ FrameEnd s o t L C S
/-- a method's contract -/
def Con (l : Launch) (Z : State) (y : MethodName) (bytes : ByteArray) (maxL : Nat) (ret : Option FieldType) (rm : Room) (as : Array Value) (h : Heap) (Q : Option Value → Heap → List Loc → Prop) : Prop :=
  ∀ ws, MetFree l y (head1 (Jvm.Cond.code y bytes maxL ret :: ws) rm) (fun a U => a = as ∧ Z.Warmed39 U.vm ∧ U.heap = h) (fun _ _ _ _ _ => True) (fun _ U o U' => ∃ v L, o = .returned v ∧ Q v U'.heap L ∧ FrameEnd U o U' L rm.cells rm.slots)
theorem Con.of {l : Launch} {Z : State} {y : MethodName} {bytes : ByteArray} {maxL : Nat} {ret : Option FieldType} {rm : Room} {as : Array Value} {h : Heap} {Q : Option Value → Heap → List Loc → Prop} {Ls : Array Slot} (hp : plainFor y = true) (hfr : ∀ m, entryFrame m as maxL = mkF m 0 Ls [])
    (body : ∀ (p : Program) (e : Env) (s : State) (m : MethodId) (below : List Frame) (meth : Method) (c : Code) (T : State), Stand p l e rm s m as below meth c T [] 0 0 → p.tables.exec = Jvm.exec ∧ c.code = bytes → c.maxLocals = maxL → Z.Warmed39 s.vm → s.vm.findClass y.cls = some m.cls → meth.name = y.name → meth.sig.returnType = ret → meth.locks = false → T.heap = h → Go p e below (EndK s below Q rm.cells rm.slots) (T.setTop (mkF m 0 Ls []))) :
    Con l Z y bytes maxL ret rm as h Q := by
  intro ws
  refine MetFree.of_bodySF hp hisR ?_
  intro p e s m args below meth c s₁ Bd hml hP hK
  obtain ⟨rfl, hZ, hh⟩ := hP
  have e0 : s₁.heap = h := by rw [← hh, Bd.state]; rfl
  obtain ⟨t, o, h1, h2⟩ := body p e s m below meth c s₁ (Stand.of_body Bd) ⟨Bd.exec, Bd.bytes⟩ hml hZ (findClass_of_methodNamed Bd.named) (name_of_methodNamed Bd.named Bd.method).1 Bd.returns Bd.notSynchronized e0
  exact ⟨t, o, castTop (hfr m) h1, h2⟩
section Steps
variable {p : Program} {l : Launch} {e : Env} {R : Room} {s : State} {m : MethodId} {args : Array Value} {below : List Frame} {meth : Method} {c : Code} {T : State} {locs : List Loc} {cells slots : Nat} {K : State → Outcome → Prop} {Z : State} {a0 : Array Value} {h : Heap} {bs : ByteArray} {Ls Ls' : Array Slot} {st : List Value} {pc pc' : Nat}

theorem gIloadN (X : Stand p l e R s m args below meth c T locs cells slots) (H : p.tables.exec = Jvm.exec ∧ c.code = bs) {k : Fin 4} {v : Int32} (hd : decode bs pc = .ok (.iload_n k, 1)) (hl : Ls[k.val]? = some (.val (.int v))) (pc' : Nat) (hp : pc + 1 = pc') (g : Go p e below K (T.setTop (mkF m pc' Ls (.int v :: st)))) : Go p e below K (T.setTop (mkF m pc Ls (st))) := by
  subst hp
  exact Go.via (fun t k => XS.iloadN (g := mkF m pc Ls (st)) X.here H.1 rfl (hb H.2 hd) hl k) g

theorem gAloadN (X : Stand p l e R s m args below meth c T locs cells slots) (H : p.tables.exec = Jvm.exec ∧ c.code = bs) {k : Fin 4} {v : Value} (hd : decode bs pc = .ok (.aload_n k, 1)) (hl : Ls[k.val]? = some (.val v)) (hv : v.isRef = true) (pc' : Nat) (hp : pc + 1 = pc') (g : Go p e below K (T.setTop (mkF m pc' Ls (v :: st)))) : Go p e below K (T.setTop (mkF m pc Ls (st))) := by
  subst hp
  exact Go.via (fun t k => XS.aloadN (g := mkF m pc Ls (st)) X.here H.1 rfl (hb H.2 hd) hl hv k) g

theorem gIstoreN (X : Stand p l e R s m args below meth c T locs cells slots) (H : p.tables.exec = Jvm.exec ∧ c.code = bs) {k : Fin 4} {v : Int32} (hd : decode bs pc = .ok (.istore_n k, 1)) (hl : storeLocals Ls k.val (.int v) = some Ls') (pc' : Nat) (hp : pc + 1 = pc') (g : Go p e below K (T.setTop (mkF m pc' Ls' (st)))) : Go p e below K (T.setTop (mkF m pc Ls (.int v :: st))) := by
  subst hp
  exact Go.via (fun t k => XS.istoreN (g := mkF m pc Ls (.int v :: st)) X.here H.1 rfl (hb H.2 hd) rfl hl k) g

theorem gAstoreN (X : Stand p l e R s m args below meth c T locs cells slots) (H : p.tables.exec = Jvm.exec ∧ c.code = bs) {k : Fin 4} {v : Value} (hd : decode bs pc = .ok (.astore_n k, 1)) (hv : v.isRef = true) (hl : storeLocals Ls k.val v = some Ls') (pc' : Nat) (hp : pc + 1 = pc') (g : Go p e below K (T.setTop (mkF m pc' Ls' (st)))) : Go p e below K (T.setTop (mkF m pc Ls (v :: st))) := by
  subst hp
  exact Go.via (fun t k => XS.astoreN (g := mkF m pc Ls (v :: st)) X.here H.1 rfl (hb H.2 hd) rfl hv hl k) g

theorem gAload (X : Stand p l e R s m args below meth c T locs cells slots) (H : p.tables.exec = Jvm.exec ∧ c.code = bs) {k : Nat} {v : Value} (hd : decode bs pc = .ok (.aload k, 2)) (hl : Ls[k]? = some (.val v)) (hv : v.isRef = true) (pc' : Nat) (hp : pc + 2 = pc') (g : Go p e below K (T.setTop (mkF m pc' Ls (v :: st)))) : Go p e below K (T.setTop (mkF m pc Ls (st))) := by
  subst hp
  exact Go.via (fun t k => XS.aload (g := mkF m pc Ls (st)) X.here H.1 rfl (hb H.2 hd) hl hv k) g

theorem gAstore (X : Stand p l e R s m args below meth c T locs cells slots) (H : p.tables.exec = Jvm.exec ∧ c.code = bs) {k : Nat} {v : Value} (hd : decode bs pc = .ok (.astore k, 2)) (hv : v.isRef = true) (hl : storeLocals Ls k v = some Ls') (pc' : Nat) (hp : pc + 2 = pc') (g : Go p e below K (T.setTop (mkF m pc' Ls' (st)))) : Go p e below K (T.setTop (mkF m pc Ls (v :: st))) := by
  subst hp
  exact Go.via (fun t k => XS.astore (g := mkF m pc Ls (v :: st)) X.here H.1 rfl (hb H.2 hd) rfl hv hl k) g

theorem gIconst (X : Stand p l e R s m args below meth c T locs cells slots) (H : p.tables.exec = Jvm.exec ∧ c.code = bs) {i : Int} {z : Int32} (hd : decode bs pc = .ok (.iconst i, 1)) (hz : Int32.ofInt i = z) (pc' : Nat) (hp : pc + 1 = pc') (g : Go p e below K (T.setTop (mkF m pc' Ls (.int z :: st)))) : Go p e below K (T.setTop (mkF m pc Ls (st))) := by
  subst hp hz
  exact Go.via (fun t k => XS.iconst (g := mkF m pc Ls (st)) X.here H.1 rfl (hb H.2 hd) k) g

theorem gBipush (X : Stand p l e R s m args below meth c T locs cells slots) (H : p.tables.exec = Jvm.exec ∧ c.code = bs) {i : Int} {z : Int32} (hd : decode bs pc = .ok (.bipush i, 2)) (hz : (Int8.ofInt i).toInt32 = z) (pc' : Nat) (hp : pc + 2 = pc') (g : Go p e below K (T.setTop (mkF m pc' Ls (.int z :: st)))) : Go p e below K (T.setTop (mkF m pc Ls (st))) := by
  subst hp hz
  exact Go.via (fun t k => XS.bipush (g := mkF m pc Ls (st)) X.here H.1 rfl (hb H.2 hd) k) g

theorem gSipush (X : Stand p l e R s m args below meth c T locs cells slots) (H : p.tables.exec = Jvm.exec ∧ c.code = bs) {i : Int} {z : Int32} (hd : decode bs pc = .ok (.sipush i, 3)) (hz : (Int16.ofInt i).toInt32 = z) (pc' : Nat) (hp : pc + 3 = pc') (g : Go p e below K (T.setTop (mkF m pc' Ls (.int z :: st)))) : Go p e below K (T.setTop (mkF m pc Ls (st))) := by
  subst hp hz
  exact Go.via (fun t k => XS.sipush (g := mkF m pc Ls (st)) X.here H.1 rfl (hb H.2 hd) k) g

theorem gNull (X : Stand p l e R s m args below meth c T locs cells slots) (H : p.tables.exec = Jvm.exec ∧ c.code = bs)  (hd : decode bs pc = .ok (.aconst_null, 1)) (pc' : Nat) (hp : pc + 1 = pc') (g : Go p e below K (T.setTop (mkF m pc' Ls (.null :: st)))) : Go p e below K (T.setTop (mkF m pc Ls (st))) := by
  subst hp
  exact Go.via (fun t k => XS.aconstNull (g := mkF m pc Ls (st)) X.here H.1 rfl (hb H.2 hd) k) g

theorem g_iadd (X : Stand p l e R s m args below meth c T locs cells slots) (H : p.tables.exec = Jvm.exec ∧ c.code = bs) {x y z : Int32} (hd : decode bs pc = .ok (.iadd, 1)) (hz : x + y = z) (pc' : Nat) (hp : pc + 1 = pc') (g : Go p e below K (T.setTop (mkF m pc' Ls (.int z :: st)))) : Go p e below K (T.setTop (mkF m pc Ls (.int y :: .int x :: st))) := by
  subst hp hz
  exact Go.via (fun t k => XS.iadd (g := mkF m pc Ls (.int y :: .int x :: st)) X.here H.1 rfl (hb H.2 hd) rfl k) g

theorem g_iand (X : Stand p l e R s m args below meth c T locs cells slots) (H : p.tables.exec = Jvm.exec ∧ c.code = bs) {x y z : Int32} (hd : decode bs pc = .ok (.iand, 1)) (hz : x &&& y = z) (pc' : Nat) (hp : pc + 1 = pc') (g : Go p e below K (T.setTop (mkF m pc' Ls (.int z :: st)))) : Go p e below K (T.setTop (mkF m pc Ls (.int y :: .int x :: st))) := by
  subst hp hz
  exact Go.via (fun t k => XS.iand (g := mkF m pc Ls (.int y :: .int x :: st)) X.here H.1 rfl (hb H.2 hd) rfl k) g

theorem gDup (X : Stand p l e R s m args below meth c T locs cells slots) (H : p.tables.exec = Jvm.exec ∧ c.code = bs) {v : Value} (hd : decode bs pc = .ok (.dup, 1)) (hc : v.category = 1) (pc' : Nat) (hp : pc + 1 = pc') (g : Go p e below K (T.setTop (mkF m pc' Ls (v :: v :: st)))) : Go p e below K (T.setTop (mkF m pc Ls (v :: st))) := by
  subst hp
  exact Go.via (fun t k => XS.dup (g := mkF m pc Ls (v :: st)) X.here H.1 rfl (hb H.2 hd) rfl hc k) g

theorem gGoto (X : Stand p l e R s m args below meth c T locs cells slots) (H : p.tables.exec = Jvm.exec ∧ c.code = bs)  {o : Int} (hd : decode bs pc = .ok (.goto o, 3)) (ho : 0 ≤ (pc : Int) + o) (pc' : Nat) (hp : ((pc : Int) + o).toNat = pc') (g : Go p e below K (T.setTop (mkF m pc' Ls (st)))) : Go p e below K (T.setTop (mkF m pc Ls (st))) :=
  Go.via (fun t k => XS.goto (g := mkF m pc Ls (st)) X.here H.1 rfl rfl (hb H.2 hd) ho hp k) g

theorem gIfY (X : Stand p l e R s m args below meth c T locs cells slots) (H : p.tables.exec = Jvm.exec ∧ c.code = bs) {cd : ClassFile.Cond} {x : Int32} {o : Int} (hd : decode bs pc = .ok (.ifCond cd o, 3)) (hc : ifCond.holds cd x = true) (ho : 0 ≤ (pc : Int) + o) (pc' : Nat) (hp : ((pc : Int) + o).toNat = pc') (g : Go p e below K (T.setTop (mkF m pc' Ls (st)))) : Go p e below K (T.setTop (mkF m pc Ls (.int x :: st))) :=
  Go.via (fun t k => XS.ifYes (g := mkF m pc Ls (.int x :: st)) X.here H.1 rfl rfl (hb H.2 hd) rfl hc ho hp k) g

theorem gCmpY (X : Stand p l e R s m args below meth c T locs cells slots) (H : p.tables.exec = Jvm.exec ∧ c.code = bs) {cd : ClassFile.Cond} {x y : Int32} {o : Int} (hd : decode bs pc = .ok (.if_icmp cd o, 3)) (hc : if_icmp.holds cd x y = true) (ho : 0 ≤ (pc : Int) + o) (pc' : Nat) (hp : ((pc : Int) + o).toNat = pc') (g : Go p e below K (T.setTop (mkF m pc' Ls (st)))) : Go p e below K (T.setTop (mkF m pc Ls (.int y :: .int x :: st))) :=
  Go.via (fun t k => XS.icmpYes (g := mkF m pc Ls (.int y :: .int x :: st)) X.here H.1 rfl rfl (hb H.2 hd) rfl hc ho hp k) g

theorem gNonnullY (X : Stand p l e R s m args below meth c T locs cells slots) (H : p.tables.exec = Jvm.exec ∧ c.code = bs) {b : Addr} {o : Int} (hd : decode bs pc = .ok (.ifnonnull o, 3)) (ho : 0 ≤ (pc : Int) + o) (pc' : Nat) (hp : ((pc : Int) + o).toNat = pc') (g : Go p e below K (T.setTop (mkF m pc' Ls (st)))) : Go p e below K (T.setTop (mkF m pc Ls (.ref b :: st))) :=
  Go.via (fun t k => XS.ifnonnullYes (g := mkF m pc Ls (.ref b :: st)) X.here H.1 rfl rfl (hb H.2 hd) rfl ho hp k) g

theorem gIfN (X : Stand p l e R s m args below meth c T locs cells slots) (H : p.tables.exec = Jvm.exec ∧ c.code = bs) {o : Int} {cd : ClassFile.Cond} {x : Int32} (hd : decode bs pc = .ok (.ifCond cd o, 3)) (hc : ifCond.holds cd x = false) (pc' : Nat) (hp : pc + 3 = pc') (g : Go p e below K (T.setTop (mkF m pc' Ls (st)))) : Go p e below K (T.setTop (mkF m pc Ls (.int x :: st))) := by
  subst hp
  exact Go.via (fun t k => XS.ifNo (g := mkF m pc Ls (.int x :: st)) X.here H.1 rfl (hb H.2 hd) rfl hc k) g

theorem gCmpN (X : Stand p l e R s m args below meth c T locs cells slots) (H : p.tables.exec = Jvm.exec ∧ c.code = bs) {o : Int} {cd : ClassFile.Cond} {x y : Int32} (hd : decode bs pc = .ok (.if_icmp cd o, 3)) (hc : if_icmp.holds cd x y = false) (pc' : Nat) (hp : pc + 3 = pc') (g : Go p e below K (T.setTop (mkF m pc' Ls (st)))) : Go p e below K (T.setTop (mkF m pc Ls (.int y :: .int x :: st))) := by
  subst hp
  exact Go.via (fun t k => XS.icmpNo (g := mkF m pc Ls (.int y :: .int x :: st)) X.here H.1 rfl (hb H.2 hd) rfl hc k) g

theorem gNonnullN (X : Stand p l e R s m args below meth c T locs cells slots) (H : p.tables.exec = Jvm.exec ∧ c.code = bs) {o : Int} (hd : decode bs pc = .ok (.ifnonnull o, 3)) (pc' : Nat) (hp : pc + 3 = pc') (g : Go p e below K (T.setTop (mkF m pc' Ls (st)))) : Go p e below K (T.setTop (mkF m pc Ls (.null :: st))) := by
  subst hp
  exact Go.via (fun t k => XS.ifnonnullNo (g := mkF m pc Ls (.null :: st)) X.here H.1 rfl (hb H.2 hd) rfl k) g

theorem gAcmp (X : Stand p l e R s m args below meth c T locs cells slots) (H : p.tables.exec = Jvm.exec ∧ c.code = bs) {cd : ACond} {x y : Value} {o : Int} {same : Bool} (hd : decode bs pc = .ok (.if_acmp cd o, 3)) (h1 : x.isRef = true) (h2 : y.isRef = true) (hq : decide (x = y) = same) (ho : 0 ≤ (pc : Int) + o) (pc' : Nat) (hp : pc' = if acV cd same = true then ((pc : Int) + o).toNat else pc + 3) (g : Go p e below K (T.setTop (mkF m pc' Ls (st)))) : Go p e below K (T.setTop (mkF m pc Ls (y :: x :: st))) :=
  Go.via (fun t k => Jvm.RoadKit.acmp (g := mkF m pc Ls (y :: x :: st)) X H.1 rfl h1 h2 rfl (hb H.2 hd) rfl hq ho hp k) g

theorem gGetS (X : Stand p l e R s m args below meth c T locs cells slots) (H : p.tables.exec = Jvm.exec ∧ c.code = bs) (hZ : Z.Warmed39 s.vm) {own : String} {index : Nat} (hown : s.vm.findClass own = some m.cls) {O n d : String} {v : Value} (w : (Cond.fieldLink own index O n d).before a0 Z = true) (eT : T.heap = h) (F : Sta Z h O n d v) (hd : decode bs pc = .ok (.getstatic index, 3)) (pc' : Nat) (hp : pc + 3 = pc') (g : ∀ T', Stand p l e R s m args below meth c T' locs cells slots → T'.heap = h → Go p e below K (T'.setTop (mkF m pc' Ls (v :: st)))) : Go p e below K (T.setTop (mkF m pc Ls (st))) := by
  subst hp
  obtain ⟨T', X', e', k⟩ := getS2 X H.1 hZ hown (host := "") (Or.inl w) Via.refl eT F (g := mkF m pc Ls st) rfl (hb H.2 hd)
  exact Go.via k (g T' X' e')

theorem gGetF (X : Stand p l e R s m args below meth c T locs cells slots) (H : p.tables.exec = Jvm.exec ∧ c.code = bs) (hZ : Z.Warmed39 s.vm) {own : String} {index : Nat} (hown : s.vm.findClass own = some m.cls) {R0 O n d : String} {a : Addr} {v : Value} (w : (Cond.fieldLink own index R0 n d).before a0 Z = true) (via : Via Z R0 O n d) (eT : T.heap = h) (F : Fld Z h a O n d v) (hd : decode bs pc = .ok (.getfield index, 3)) (pc' : Nat) (hp : pc + 3 = pc') (g : ∀ T', Stand p l e R s m args below meth c T' locs cells slots → T'.heap = h → Go p e below K (T'.setTop (mkF m pc' Ls (v :: st)))) : Go p e below K (T.setTop (mkF m pc Ls (.ref a :: st))) := by
  subst hp
  obtain ⟨T', X', e', k⟩ := getF X H.1 hZ hown (host := "") (Or.inl w) via eT F (g := mkF m pc Ls (.ref a :: st)) rfl rfl (hb H.2 hd)
  exact Go.via k (g T' X' e')

theorem gStatic (X : Stand p l e R s m args below meth c T locs cells slots) (H : p.tables.exec = Jvm.exec ∧ c.code = bs) (hZ : Z.Warmed39 s.vm) {own : String} {index : Nat} (hown : s.vm.findClass own = some m.cls) {y : MethodName} {bytes : ByteArray} {maxL : Nat} {ret : Option FieldType} {rm : Room} {as : Array Value} {Q : Option Value → Heap → List Loc → Prop} {W maxO : Nat} {argsL rest : List Value} {ps : List FieldType} {r : Option FieldType} (wl : (Cond.methodLink own index y).before a0 Z = true) (wst : (Cond.static y).before a0 Z = true) (hy : y.cls ≠ "java/lang/invoke/MethodHandle" ∧ y.cls ≠ "java/lang/invoke/VarHandle") (wc : (Cond.code y bytes maxL ret).before a0 Z = true) (wz : (Cond.initialized (y).cls).before a0 Z = true) (M : Con l Z y bytes maxL ret rm as h Q) (eT : T.heap = h) (hml : c.maxLocals = maxO) (hs : Ls.size = maxO) (hpd : parseMethodDescriptor y.desc = some ⟨ps, r⟩) (hlen : argsL.length = ps.length) (hstack : st = argsL.reverse ++ rest) (has : argsL.toArray = as) (hd : decode bs pc = .ok (.invokestatic index, 3)) (pc' : Nat) (hp : pc + 3 = pc')
    (g : ∀ v T' L, Q v T'.heap L → Stand p l e R s m args below meth c T' (locs ++ L) (cells + rm.cells) (slots + rm.slots) → Go p e below K (T'.setTop (mkF m pc' Ls (v.toList ++ rest)))) (hW : (rest.map fun v => v.category).sum ≤ W := by exact Nat.le_of_eq rfl) (hf : rm.frames + 1 ≤ R.frames := by decide) (hl : W + (maxL + 11) + rm.locals ≤ R.locals := by decide) (hc : cells + rm.cells ≤ R.cells := by decide) (hsl : slots + rm.slots ≤ R.slots := by decide) : Go p e below K (T.setTop (mkF m pc Ls (st))) := by
  subst hp has
  obtain ⟨v, _, ⟨T', L', k', n'⟩, -, X', ⟨L, hQ, l', y', z'⟩, k⟩ := Jvm.LawKit.callS X H.1 (y := y) hown (mvT hZ wl) (mvT hZ wst) (mvT hZ wz) (mvT hZ wc) hy (backOf (W := W) (M []) hZ wc wz hf hl) (g := mkF m pc Ls st) rfl (hs.trans hml.symm) (argsL := argsL) (rest := rest) (lenOf hpd hlen) hstack (by show 2 * 0 + _ ≤ _; omega) (hb H.2 hd) (fun _ _ => ⟨rfl, eT, hc, hsl⟩)
  dsimp only [Pt.U, Pt.locs, Pt.cells, Pt.slots] at X' l' y' z' k hQ
  subst l' y' z'
  exact Go.via k (g v T' L hQ X')

theorem gSpecial (X : Stand p l e R s m args below meth c T locs cells slots) (H : p.tables.exec = Jvm.exec ∧ c.code = bs) (hZ : Z.Warmed39 s.vm) {own : String} {index : Nat} (hown : s.vm.findClass own = some m.cls) {y : MethodName} {bytes : ByteArray} {maxL : Nat} {ret : Option FieldType} {rm : Room} {as : Array Value} {Q : Option Value → Heap → List Loc → Prop} {W maxO : Nat} {argsL rest : List Value} {ps : List FieldType} {r : Option FieldType} (hin : y.name = "<init>") (hrn : ret = none) (wl : (Cond.methodLink own index y).before a0 Z = true) (wi : (Cond.instanceMethod y).before a0 Z = true) (hy : y.cls ≠ "java/lang/invoke/MethodHandle" ∧ y.cls ≠ "java/lang/invoke/VarHandle") {b : Addr} (wc : (Cond.code y bytes maxL ret).before a0 Z = true) (wz : (Cond.initialized (y).cls).before a0 Z = true) (M : Con l Z y bytes maxL ret rm as h Q) (eT : T.heap = h) (hml : c.maxLocals = maxO) (hs : Ls.size = maxO) (hpd : parseMethodDescriptor y.desc = some ⟨ps, r⟩) (hlen : argsL.length = ps.length) (hstack : st = argsL.reverse ++ .ref b :: rest) (has : (.ref b :: argsL).toArray = as) (hd : decode bs pc = .ok (.invokespecial index, 3)) (pc' : Nat) (hp : pc + 3 = pc')
    (g : ∀ v T' L, Q v T'.heap L → Stand p l e R s m args below meth c T' (locs ++ L) (cells + rm.cells) (slots + rm.slots) → Go p e below K (T'.setTop (mkF m pc' Ls (v.toList ++ rest)))) (hW : (rest.map fun v => v.category).sum ≤ W := by exact Nat.le_of_eq rfl) (hf : rm.frames + 1 ≤ R.frames := by decide) (hl : W + (maxL + 11) + rm.locals ≤ R.locals := by decide) (hc : cells + rm.cells ≤ R.cells := by decide) (hsl : slots + rm.slots ≤ R.slots := by decide) : Go p e below K (T.setTop (mkF m pc Ls (st))) := by
  subst hp has
  subst hrn
  obtain ⟨v, _, ⟨T', L', k', n'⟩, -, X', ⟨L, hQ, l', y', z'⟩, k⟩ := X.specialBack H.1 (y := y) hin hown (mvT hZ wl) (mvT hZ wi) (mvT hZ wc) hy (backOf (W := W) (M []) hZ wc wz hf hl) (g := mkF m pc Ls st) rfl (hs.trans hml.symm) (Steps.refl _) (a := b) (argsL := argsL) (rest := rest) (lenOf hpd hlen) hstack (by show 2 * 0 + _ ≤ _; omega) (hb H.2 hd) (fun _ _ => ⟨rfl, eT, hc, hsl⟩)
  dsimp only [Pt.U, Pt.locs, Pt.cells, Pt.slots] at X' l' y' z' k hQ
  subst l' y' z'
  exact Go.via (fun t q => k.trans q) (g v T' L hQ X')

theorem gRetN (X : Stand p l e R s m args below meth c T locs cells slots) (H : p.tables.exec = Jvm.exec ∧ c.code = bs) (hlk : meth.locks = false) {Q : Option Value → Heap → List Loc → Prop} {C S : Nat} {t : FieldType} {z : Int32} (hret : meth.sig.returnType = some t) (ht : t = .boolean ∨ t = .byte ∨ t = .char ∨ t = .short) (hd : decode bs pc = .ok (.ireturn, 1)) (eT : T.heap = h) (q : Q (some (.int (nar t z))) h locs) (hC : cells ≤ C := by decide) (hS : slots ≤ S := by decide) : Go p e below (EndK s below Q C S) (T.setTop (mkF m pc Ls (.int z :: st))) := by
  subst eT
  obtain ⟨fs, hr, hrun, hended, hW, hsame⟩ := X.leave (v := (some (.int (nar t z)))) (fun h => by rw [hret] at h; cases h) hlk
  exact ⟨_, _, retN X H.1 hret ht (hb H.2 hd) hr, hrun, hended, _, _, rfl, q, ⟨_, rfl⟩, hW, hsame.mono hC hS⟩

theorem gRetI (X : Stand p l e R s m args below meth c T locs cells slots) (H : p.tables.exec = Jvm.exec ∧ c.code = bs) (hlk : meth.locks = false) {Q : Option Value → Heap → List Loc → Prop} {C S : Nat} {z : Int32} (hret : meth.sig.returnType = some .int) (hd : decode bs pc = .ok (.ireturn, 1)) (eT : T.heap = h) (q : Q (some (.int z)) h locs) (hC : cells ≤ C := by decide) (hS : slots ≤ S := by decide) : Go p e below (EndK s below Q C S) (T.setTop (mkF m pc Ls (.int z :: st))) := by
  subst eT
  obtain ⟨fs, hr, hrun, hended, hW, hsame⟩ := X.leave (v := (some (.int z))) (fun h => by rw [hret] at h; cases h) hlk
  exact ⟨_, _, retOut X H.1 hret rfl (Or.inl ⟨rfl, Or.inl rfl, z, rfl⟩) (hb H.2 hd) hr, hrun, hended, _, _, rfl, q, ⟨_, rfl⟩, hW, hsame.mono hC hS⟩

theorem gRetA (X : Stand p l e R s m args below meth c T locs cells slots) (H : p.tables.exec = Jvm.exec ∧ c.code = bs) (hlk : meth.locks = false) {Q : Option Value → Heap → List Loc → Prop} {C S : Nat} {w : Value} {t : FieldType} (hret : meth.sig.returnType = some t) (hn : narrow t w = w) (ht : t.isReference = true) (hv : w.isRef = true) (hd : decode bs pc = .ok (.areturn, 1)) (eT : T.heap = h) (q : Q (some w) h locs) (hC : cells ≤ C := by decide) (hS : slots ≤ S := by decide) : Go p e below (EndK s below Q C S) (T.setTop (mkF m pc Ls (w :: st))) := by
  subst eT
  obtain ⟨fs, hr, hrun, hended, hW, hsame⟩ := X.leave (v := (some w)) (fun h => by rw [hret] at h; cases h) hlk
  exact ⟨_, _, retOut X H.1 hret hn (Or.inr (Or.inr (Or.inr (Or.inr ⟨rfl, ht, hv⟩)))) (hb H.2 hd) hr, hrun, hended, _, _, rfl, q, ⟨_, rfl⟩, hW, hsame.mono hC hS⟩

theorem gRetV (X : Stand p l e R s m args below meth c T locs cells slots) (H : p.tables.exec = Jvm.exec ∧ c.code = bs) (hlk : meth.locks = false) {Q : Option Value → Heap → List Loc → Prop} {C S : Nat}  (hret : meth.sig.returnType = none) (hd : decode bs pc = .ok (.return_, 1)) (eT : T.heap = h) (q : Q none h locs) (hC : cells ≤ C := by decide) (hS : slots ≤ S := by decide) : Go p e below (EndK s below Q C S) (T.setTop (mkF m pc Ls ([]))) := by
  subst eT
  obtain ⟨fs, hr, hrun, hended, hW, hsame⟩ := X.leave (v := none) (fun _ => rfl) hlk
  exact ⟨_, _, X.returnOut H.1 hret (hb H.2 hd) hr, hrun, hended, _, _, rfl, q, ⟨_, rfl⟩, hW, hsame.mono hC hS⟩

theorem gNew (X : Stand p l e R s m args below meth c T locs cells slots) (H : p.tables.exec = Jvm.exec ∧ c.code = bs) (hZ : Z.Warmed39 s.vm) {own : String} {index : Nat} (hown : s.vm.findClass own = some m.cls) {C : String} {n : Nat} (w : (Cond.classLink own index C).before a0 Z = true) (wi : (Cond.instantiable C n).before a0 Z = true) (wz : (Cond.initialized C).before a0 Z = true) (eT : T.heap = h) (hc : cells + 1 ≤ R.cells) (hsl : slots + n ≤ R.slots) (hd : decode bs pc = .ok (.new index, 3)) (pc' : Nat) (hp : pc + 3 = pc')
    (g : ∀ T' h' b, Stand p l e R s m args below meth c T' locs (cells + 1) (slots + n) → T'.heap = h' → h.size = b → Ext h h' → Exa Z h' b C → (∀ {O nm d : String} {ty : FieldType}, Laid Z a0 C O nm d → parseFieldDescriptor d = some ty → Fld Z h' b O nm d (defaultValue ty)) → Go p e below K (T'.setTop (mkF m pc' Ls (.ref b :: st)))) : Go p e below K (T.setTop (mkF m pc Ls (st))) := by
  subst hp
  obtain ⟨T', h', X', e', E', A', D', -, k⟩ := newO X H.1 hZ hown w wi wz eT (g := mkF m pc Ls st) rfl (hb H.2 hd) hc hsl
  exact Go.via k (g T' h' _ X' e' rfl E' A' D')

theorem gInitO (X : Stand p l e R s m args below meth c T locs cells slots) (H : p.tables.exec = Jvm.exec ∧ c.code = bs) (hZ : Z.Warmed39 s.vm) {own : String} {index : Nat} (hown : s.vm.findClass own = some m.cls) (w1 : (Cond.methodLink own index Lib.objectInit).before a0 Z = true) (w2 : (Cond.instanceMethod Lib.objectInit).before a0 Z = true) (w3 : (Cond.code Lib.objectInit ⟨#[0xb1]⟩ 1 none).before a0 Z = true) (eT : T.heap = h) {a : Addr} {V maxO : Nat} (hml : c.maxLocals = maxO) (hs : Ls.size = maxO) (hW : (st.map fun v => v.category).sum ≤ V) (hf : 1 ≤ R.frames) (hl : V + 12 ≤ R.locals) (hd : decode bs pc = .ok (.invokespecial index, 3)) (pc' : Nat) (hp : pc + 3 = pc')
    (g : ∀ T', Stand p l e R s m args below meth c T' locs cells slots → T'.heap = h → Go p e below K (T'.setTop (mkF m pc' Ls st))) : Go p e below K (T.setTop (mkF m pc Ls (.ref a :: st))) := by
  subst hp
  obtain ⟨T', X', e', k⟩ := initO X H.1 hZ hown w1 w2 w3 eT (g := mkF m pc Ls (.ref a :: st)) rfl (hs.trans hml.symm) rfl (hb H.2 hd) hf (W := V) (by show 2 * 0 + _ ≤ _; omega) hl
  exact Go.via k (g T' X' e')

theorem gPutF (X : Stand p l e R s m args below meth c T locs cells slots) (H : p.tables.exec = Jvm.exec ∧ c.code = bs) (hZ : Z.Warmed39 s.vm) {own : String} {index : Nat} (hown : s.vm.findClass own = some m.cls) {R0 O n d C : String} {kk : Nat} {ty : FieldType} (w : (Cond.fieldLink own index R0 n d).before a0 Z = true) (via : Via Z R0 O n d) (eT : T.heap = h) {a : Addr} {v v' old : Value} (F : Fld Z h a O n d old) (E : Exa Z h a C) (L : (Cond.lays C O n d).before a0 Z = true ∨ ((Cond.laysFinal C O n d).before a0 Z = true ∧ own = O ∧ meth.name = "<init>")) (wi : (Cond.instantiable C kk).before a0 Z = true) (hty : parseFieldDescriptor d = some ty) (hn : narrow ty v = v') (hf : fits ty v' = true) (hd : decode bs pc = .ok (.putfield index, 3)) (pc' : Nat) (hp : pc + 3 = pc')
    (g : ∀ T' h', Stand p l e R s m args below meth c T' (locs ++ [⟨a, Jvm.RoadKit.slotOf Z O n d⟩]) cells slots → T'.heap = h' → Wr h h' a (Jvm.RoadKit.slotOf Z O n d) v' → Fld Z h' a O n d v' → Go p e below K (T'.setTop (mkF m pc' Ls st))) : Go p e below K (T.setTop (mkF m pc Ls (v :: .ref a :: st))) := by
  subst hp
  obtain ⟨T', h', X', e', W', k⟩ := putFN X H.1 hZ hown w via eT F E L wi hty hn hf (g := mkF m pc Ls (v :: .ref a :: st)) rfl rfl (hb H.2 hd)
  exact Go.via k (g T' h' X' e' W' (F.same W'))

theorem gCastY (X : Stand p l e R s m args below meth c T locs cells slots) (H : p.tables.exec = Jvm.exec ∧ c.code = bs) (hZ : Z.Warmed39 s.vm) {own : String} {index : Nat} (hown : s.vm.findClass own = some m.cls) {C : String} (w : (Cond.classLink own index C).before a0 Z = true) (eT : T.heap = h) {a : Addr} (F : Ins Z h a C true) (hd : decode bs pc = .ok (.checkcast index, 3)) (pc' : Nat) (hp : pc + 3 = pc') (g : ∀ T', Stand p l e R s m args below meth c T' locs cells slots → T'.heap = h → Go p e below K (T'.setTop (mkF m pc' Ls (.ref a :: st)))) : Go p e below K (T.setTop (mkF m pc Ls (.ref a :: st))) := by
  subst hp
  obtain ⟨T', X', e', k⟩ := castY X H.1 hZ hown w eT F (g := mkF m pc Ls (.ref a :: st)) rfl rfl (hb H.2 hd)
  exact Go.via k (g T' X' e')

theorem gVirt (X : Stand p l e R s m args below meth c T locs cells slots) (H : p.tables.exec = Jvm.exec ∧ c.code = bs) (hZ : Z.Warmed39 s.vm) {own : String} {index : Nat} (hown : s.vm.findClass own = some m.cls) {C : String} {y : MethodName} {bytes : ByteArray} {maxL : Nat} {ret : Option FieldType} {rm : Room} {as : Array Value} {Q : Option Value → Heap → List Loc → Prop} {W maxO : Nat} {argsL rest : List Value} {ps : List FieldType} {r : Option FieldType} (wl : (Cond.methodLink own index y).before a0 Z = true) (wd : (Cond.declares y).before a0 Z = true) (wse : (Cond.selects C y y).before a0 Z = true) (wi : (Cond.instanceMethod y).before a0 Z = true) (hy : y.cls ≠ "java/lang/invoke/MethodHandle" ∧ y.cls ≠ "java/lang/invoke/VarHandle") {b : Addr} (E : Exa Z h b C) (wc : (Cond.code y bytes maxL ret).before a0 Z = true) (wz : (Cond.initialized (y).cls).before a0 Z = true) (M : Con l Z y bytes maxL ret rm as h Q) (eT : T.heap = h) (hml : c.maxLocals = maxO) (hs : Ls.size = maxO) (hpd : parseMethodDescriptor y.desc = some ⟨ps, r⟩) (hlen : argsL.length = ps.length) (hstack : st = argsL.reverse ++ .ref b :: rest) (has : (.ref b :: argsL).toArray = as) (hd : decode bs pc = .ok (.invokevirtual index, 3)) (pc' : Nat) (hp : pc + 3 = pc')
    (g : ∀ v T' L, Q v T'.heap L → Stand p l e R s m args below meth c T' (locs ++ L) (cells + rm.cells) (slots + rm.slots) → Go p e below K (T'.setTop (mkF m pc' Ls (v.toList ++ rest)))) (hW : (rest.map fun v => v.category).sum ≤ W := by exact Nat.le_of_eq rfl) (hf : rm.frames + 1 ≤ R.frames := by decide) (hl : W + (maxL + 11) + rm.locals ≤ R.locals := by decide) (hc : cells + rm.cells ≤ R.cells := by decide) (hsl : slots + rm.slots ≤ R.slots := by decide) : Go p e below K (T.setTop (mkF m pc Ls (st))) := by
  subst hp has
  obtain ⟨cB, kB, q1, q2, q3⟩ := isOf hZ eT E
  obtain ⟨v, _, ⟨T', L', k', n'⟩, -, X', ⟨L, hQ, l', y', z'⟩, k⟩ := X.virtualBack H.1 (y := y) (z := y) hown (mvT hZ wl) (mvT hZ wd) (notFace_of_selects (args := #[]) (mvT hZ wse)) (mvT hZ wse) (mvT hZ wi) hy (backOf (W := W) (M []) hZ wc wz hf hl) q1 q3 (g := mkF m pc Ls st) rfl (hs.trans hml.symm) (Steps.refl _) (argsL := argsL) (rest := rest) (lenOf hpd hlen) hstack (by show 2 * 0 + _ ≤ _; omega) (hb H.2 hd) (fun _ _ => ⟨rfl, eT, hc, hsl⟩)
  dsimp only [Pt.U, Pt.locs, Pt.cells, Pt.slots] at X' l' y' z' k hQ
  subst l' y' z'
  exact Go.via (fun t q => k.trans q) (g v T' L hQ X')

theorem gBoxload (X : Stand p l e R s m args below meth c T locs cells slots) (H : p.tables.exec = Jvm.exec ∧ c.code = bs) (hZ : Z.Warmed39 s.vm) (eT : T.heap = h) {a b : Addr} {cl : Cell} {ty : FieldType} {j : Int32} (hty : ty.isReference = true) (A : Arr Z h a cl ty) (hin : ¬ (j < 0 ∨ cl.slots.size ≤ j.toNatClampNeg)) (hv : cl.slots[j.toNatClampNeg]? = some (.ref b)) (hd : decode bs pc = .ok (.aaload, 1)) (pc' : Nat) (hp : pc + 1 = pc') (g : Go p e below K (T.setTop (mkF m pc' Ls (.ref b :: st)))) : Go p e below K (T.setTop (mkF m pc Ls (.int j :: .ref a :: st))) := by
  subst hp
  exact Go.via (X.aaload H.1 (j := j) (v := .ref b) (by rw [eT]; exact A.1) (State.isArrayOf_alike hZ.alike A.2.1) hty A.2.2 hin hv (g := mkF m pc Ls (.int j :: .ref a :: st)) rfl rfl (hb H.2 hd)) g

end Steps
theorem eqI {args : Array Value} {s : State} {t : Term} {w : Addr} {C n d : String} {k : Int32} (ev : t.eval args s none [] s = some (.ref w)) (q : (Jvm.Cond.eq (.field t C n d) (.int k)).value args s none s [] = some true) : Fld s s.heap w C n d (.int k) := by
  refine Fld.start ?_
  rw [← fld_at (args := args) (first := s) (o := none) (idx := []) ev]
  obtain ⟨x, y, h1, h2, k1, k2⟩ := cmp_v (Or.inl q)
  obtain rfl : y = .int k := (Option.some.inj ((Term.int_eval k).symm.trans h2)).symm
  obtain ⟨z, rfl⟩ := k2
  simp [Cond.value, h1, h2] at q
  rw [h1, q]
theorem eqR {args : Array Value} {s : State} {t t' : Term} {w w' : Addr} {C n d : String} (ev : t.eval args s none [] s = some (.ref w)) (ev' : t'.eval args s none [] s = some (.ref w')) (q : (Jvm.Cond.eq (.field t C n d) t').value args s none s [] = some true) : Fld s s.heap w C n d (.ref w') := by
  refine Fld.start ?_
  rw [← fld_at (args := args) (first := s) (o := none) (idx := []) ev]
  obtain ⟨x, y, h1, h2, k1, k2⟩ := cmp_v (Or.inl q)
  obtain rfl : y = .ref w' := (Option.some.inj (ev'.symm.trans h2)).symm
  have hx : x.isRef = true := k2.2
  have := gotT (eq_R h1 h2 hx rfl) q
  rw [h1, this]
theorem eqN {args : Array Value} {s : State} {t : Term} {w : Addr} {C n d : String} (ev : t.eval args s none [] s = some (.ref w)) (q : (Jvm.Cond.eq (.field t C n d) .null).value args s none s [] = some true) : Fld s s.heap w C n d .null := by
  refine Fld.start ?_
  rw [← fld_at (args := args) (first := s) (o := none) (idx := []) ev]
  exact null_v q
theorem fldE {args : Array Value} {s : State} {t : Term} {w w' : Addr} {C n d : String} (ev : t.eval args s none [] s = some (.ref w)) (ev' : (Term.field t C n d).eval args s none [] s = some (.ref w')) : Fld s s.heap w C n d (.ref w') :=
  Fld.start ((fld_at (args := args) (first := s) (o := none) (idx := []) ev).symm.trans ev')
theorem t32_ne {a b : Int32} (h : a < b) : ¬ (a = b) := by rw [Int32.lt_iff_toInt_lt] at h; rw [← Int32.toInt_inj]; omega
theorem t32_as {a b : Int32} (h : a < b) : ¬ (b < a) := by rw [Int32.lt_iff_toInt_lt] at *; omega
theorem t32_ir {a b : Int32} (h : a = b) : ¬ (a < b) := by subst h; rw [Int32.lt_iff_toInt_lt]; omega
theorem t32_tot {a b : Int32} (h : ¬ (a < b)) (h2 : ¬ (a = b)) : b < a := by rw [Int32.lt_iff_toInt_lt] at *; rw [← Int32.toInt_inj] at h2; omega
theorem t32_eq {a b : Int32} (h : ¬ (a < b)) (h2 : ¬ (b < a)) : a = b := by rw [Int32.lt_iff_toInt_lt] at *; rw [← Int32.toInt_inj]; omega
theorem t64_ne {a b : Int64} (h : a < b) : ¬ (a = b) := by rw [Int64.lt_iff_toInt_lt] at h; rw [← Int64.toInt_inj]; omega
theorem t64_as {a b : Int64} (h : a < b) : ¬ (b < a) := by rw [Int64.lt_iff_toInt_lt] at *; omega
theorem t64_ir {a b : Int64} (h : a = b) : ¬ (a < b) := by subst h; rw [Int64.lt_iff_toInt_lt]; omega
theorem t64_tot {a b : Int64} (h : ¬ (a < b)) (h2 : ¬ (a = b)) : b < a := by rw [Int64.lt_iff_toInt_lt] at *; rw [← Int64.toInt_inj] at h2; omega
theorem t64_eq {a b : Int64} (h : ¬ (a < b)) (h2 : ¬ (b < a)) : a = b := by rw [Int64.lt_iff_toInt_lt] at *; rw [← Int64.toInt_inj]; omega

theorem wd0 : (Jvm.Cond.methodLink "com/example/strict_absence/strictabsence/state/TristateOfNullablePinLaw" (13 : Nat) ({ cls := "com/example/strict_absence/strictabsence/state/Tristate", name := "ofNullable", desc := "(Ljava/lang/Object;)Lcom/example/strict_absence/strictabsence/state/Tristate;" } : Jvm.MethodName)) ∈ tables_1 := List.mem_of_getElem? (i := 0) rfl
theorem wd1 : (Jvm.Cond.static ({ cls := "com/example/strict_absence/strictabsence/state/Tristate", name := "ofNullable", desc := "(Ljava/lang/Object;)Lcom/example/strict_absence/strictabsence/state/Tristate;" } : Jvm.MethodName)) ∈ tables_1 := List.mem_of_getElem? (i := 1) rfl
theorem wd2 : (Jvm.Cond.initialized "com/example/strict_absence/strictabsence/state/Tristate") ∈ tables_1 := List.mem_of_getElem? (i := 2) rfl
theorem wd3 : (Jvm.Cond.code ({ cls := "com/example/strict_absence/strictabsence/state/Tristate", name := "ofNullable", desc := "(Ljava/lang/Object;)Lcom/example/strict_absence/strictabsence/state/Tristate;" } : Jvm.MethodName) prog_47_method_5_code (2 : Nat) (Option.some (Jvm.ClassFile.FieldType.object "com/example/strict_absence/strictabsence/state/Tristate"))) ∈ tables_1 := List.mem_of_getElem? (i := 3) rfl
theorem wd4 : (Jvm.Cond.methodLink "com/example/strict_absence/strictabsence/state/Tristate" (39 : Nat) ({ cls := "com/example/strict_absence/strictabsence/state/Tristate", name := "ofNull", desc := "()Lcom/example/strict_absence/strictabsence/state/Tristate;" } : Jvm.MethodName)) ∈ tables_1 := List.mem_of_getElem? (i := 4) rfl
theorem wd5 : (Jvm.Cond.static ({ cls := "com/example/strict_absence/strictabsence/state/Tristate", name := "ofNull", desc := "()Lcom/example/strict_absence/strictabsence/state/Tristate;" } : Jvm.MethodName)) ∈ tables_1 := List.mem_of_getElem? (i := 5) rfl
theorem wd6 : (Jvm.Cond.code ({ cls := "com/example/strict_absence/strictabsence/state/Tristate", name := "ofNull", desc := "()Lcom/example/strict_absence/strictabsence/state/Tristate;" } : Jvm.MethodName) prog_47_method_3_code (1 : Nat) (Option.some (Jvm.ClassFile.FieldType.object "com/example/strict_absence/strictabsence/state/Tristate"))) ∈ tables_1 := List.mem_of_getElem? (i := 6) rfl
theorem wd7 : (Jvm.Cond.fieldLink "com/example/strict_absence/strictabsence/state/Tristate" (21 : Nat) "com/example/strict_absence/strictabsence/state/Tristate" "NULL" "Lcom/example/strict_absence/strictabsence/state/Tristate;") ∈ tables_1 := List.mem_of_getElem? (i := 7) rfl
theorem wd8 : (Jvm.Cond.laysStatic "com/example/strict_absence/strictabsence/state/Tristate" "NULL" "Lcom/example/strict_absence/strictabsence/state/Tristate;") ∈ tables_1 := List.mem_of_getElem? (i := 8) rfl
theorem wd9 : (Jvm.Cond.methodLink "com/example/strict_absence/strictabsence/state/TristateOfNullablePinLaw" (19 : Nat) ({ cls := "com/example/strict_absence/strictabsence/state/Tristate", name := "state", desc := "()Lcom/example/strict_absence/strictabsence/state/Tristate$State;" } : Jvm.MethodName)) ∈ tables_1 := List.mem_of_getElem? (i := 9) rfl
theorem wd10 : (Jvm.Cond.declares ({ cls := "com/example/strict_absence/strictabsence/state/Tristate", name := "state", desc := "()Lcom/example/strict_absence/strictabsence/state/Tristate$State;" } : Jvm.MethodName)) ∈ tables_1 := List.mem_of_getElem? (i := 10) rfl
theorem wd11 : (Jvm.Cond.instanceMethod ({ cls := "com/example/strict_absence/strictabsence/state/Tristate", name := "state", desc := "()Lcom/example/strict_absence/strictabsence/state/Tristate$State;" } : Jvm.MethodName)) ∈ tables_1 := List.mem_of_getElem? (i := 11) rfl
theorem wd12 : (Jvm.Cond.selects "com/example/strict_absence/strictabsence/state/Tristate" ({ cls := "com/example/strict_absence/strictabsence/state/Tristate", name := "state", desc := "()Lcom/example/strict_absence/strictabsence/state/Tristate$State;" } : Jvm.MethodName) ({ cls := "com/example/strict_absence/strictabsence/state/Tristate", name := "state", desc := "()Lcom/example/strict_absence/strictabsence/state/Tristate$State;" } : Jvm.MethodName)) ∈ tables_1 := List.mem_of_getElem? (i := 12) rfl
theorem wd13 : (Jvm.Cond.code ({ cls := "com/example/strict_absence/strictabsence/state/Tristate", name := "state", desc := "()Lcom/example/strict_absence/strictabsence/state/Tristate$State;" } : Jvm.MethodName) prog_47_method_6_code (1 : Nat) (Option.some (Jvm.ClassFile.FieldType.object "com/example/strict_absence/strictabsence/state/Tristate$State"))) ∈ tables_1 := List.mem_of_getElem? (i := 13) rfl
theorem wd14 : (Jvm.Cond.fieldLink "com/example/strict_absence/strictabsence/state/Tristate" (7 : Nat) "com/example/strict_absence/strictabsence/state/Tristate" "state" "Lcom/example/strict_absence/strictabsence/state/Tristate$State;") ∈ tables_1 := List.mem_of_getElem? (i := 14) rfl
theorem wd15 : (Jvm.Cond.laysFinal "com/example/strict_absence/strictabsence/state/Tristate" "com/example/strict_absence/strictabsence/state/Tristate" "state" "Lcom/example/strict_absence/strictabsence/state/Tristate$State;") ∈ tables_1 := List.mem_of_getElem? (i := 15) rfl
theorem wd16 : (Jvm.Cond.initialized "com/example/strict_absence/strictabsence/state/Tristate$State") ∈ tables_1 := List.mem_of_getElem? (i := 16) rfl
theorem wd17 : (Jvm.Cond.laysStatic "com/example/strict_absence/strictabsence/state/Tristate$State" "NULL" "Lcom/example/strict_absence/strictabsence/state/Tristate$State;") ∈ tables_1 := List.mem_of_getElem? (i := 17) rfl
theorem wd18 : (Jvm.Cond.fieldLink "com/example/strict_absence/strictabsence/state/TristateOfNullablePinLaw" (23 : Nat) "com/example/strict_absence/strictabsence/state/Tristate$State" "NULL" "Lcom/example/strict_absence/strictabsence/state/Tristate$State;") ∈ tables_1 := List.mem_of_getElem? (i := 18) rfl
theorem wd19 : (Jvm.Cond.methodLink "com/example/strict_absence/strictabsence/state/TristateOfNullablePinLaw" (29 : Nat) ({ cls := "com/example/strict_absence/strictabsence/state/Tristate", name := "orNull", desc := "()Ljava/lang/Object;" } : Jvm.MethodName)) ∈ tables_1 := List.mem_of_getElem? (i := 19) rfl
theorem wd20 : (Jvm.Cond.declares ({ cls := "com/example/strict_absence/strictabsence/state/Tristate", name := "orNull", desc := "()Ljava/lang/Object;" } : Jvm.MethodName)) ∈ tables_1 := List.mem_of_getElem? (i := 20) rfl
theorem wd21 : (Jvm.Cond.instanceMethod ({ cls := "com/example/strict_absence/strictabsence/state/Tristate", name := "orNull", desc := "()Ljava/lang/Object;" } : Jvm.MethodName)) ∈ tables_1 := List.mem_of_getElem? (i := 21) rfl
theorem wd22 : (Jvm.Cond.selects "com/example/strict_absence/strictabsence/state/Tristate" ({ cls := "com/example/strict_absence/strictabsence/state/Tristate", name := "orNull", desc := "()Ljava/lang/Object;" } : Jvm.MethodName) ({ cls := "com/example/strict_absence/strictabsence/state/Tristate", name := "orNull", desc := "()Ljava/lang/Object;" } : Jvm.MethodName)) ∈ tables_1 := List.mem_of_getElem? (i := 22) rfl
theorem wd23 : (Jvm.Cond.code ({ cls := "com/example/strict_absence/strictabsence/state/Tristate", name := "orNull", desc := "()Ljava/lang/Object;" } : Jvm.MethodName) prog_47_method_11_code (1 : Nat) (Option.some (Jvm.ClassFile.FieldType.object "java/lang/Object"))) ∈ tables_1 := List.mem_of_getElem? (i := 23) rfl
theorem wd24 : (Jvm.Cond.fieldLink "com/example/strict_absence/strictabsence/state/Tristate" (13 : Nat) "com/example/strict_absence/strictabsence/state/Tristate" "value" "Ljava/lang/Object;") ∈ tables_1 := List.mem_of_getElem? (i := 24) rfl
theorem wd25 : (Jvm.Cond.laysFinal "com/example/strict_absence/strictabsence/state/Tristate" "com/example/strict_absence/strictabsence/state/Tristate" "value" "Ljava/lang/Object;") ∈ tables_1 := List.mem_of_getElem? (i := 25) rfl
theorem wd26 : (Jvm.Cond.methodLink "com/example/strict_absence/strictabsence/state/TristateOfNullablePinLaw" (7 : Nat) ({ cls := "java/lang/Integer", name := "valueOf", desc := "(I)Ljava/lang/Integer;" } : Jvm.MethodName)) ∈ tables_1 := List.mem_of_getElem? (i := 26) rfl
theorem wd27 : (Jvm.Cond.static ({ cls := "java/lang/Integer", name := "valueOf", desc := "(I)Ljava/lang/Integer;" } : Jvm.MethodName)) ∈ tables_1 := List.mem_of_getElem? (i := 27) rfl
theorem wd28 : (Jvm.Cond.initialized "java/lang/Integer") ∈ tables_1 := List.mem_of_getElem? (i := 28) rfl
theorem wd29 : (Jvm.Cond.code ({ cls := "java/lang/Integer", name := "valueOf", desc := "(I)Ljava/lang/Integer;" } : Jvm.MethodName) jdk_33_method_22_code (1 : Nat) (Option.some (Jvm.ClassFile.FieldType.object "java/lang/Integer"))) ∈ tables_1 := List.mem_of_getElem? (i := 29) rfl
theorem wd30 : (Jvm.Cond.classLink "java/lang/Integer" (1 : Nat) "java/lang/Integer") ∈ tables_1 := List.mem_of_getElem? (i := 30) rfl
theorem wd31 : (Jvm.Cond.instantiable "java/lang/Integer" (1 : Nat)) ∈ tables_1 := List.mem_of_getElem? (i := 31) rfl
theorem wd32 : (Jvm.Cond.methodLink "java/lang/Integer" (199 : Nat) ({ cls := "java/lang/Integer", name := "<init>", desc := "(I)V" } : Jvm.MethodName)) ∈ tables_1 := List.mem_of_getElem? (i := 32) rfl
theorem wd33 : (Jvm.Cond.instanceMethod ({ cls := "java/lang/Integer", name := "<init>", desc := "(I)V" } : Jvm.MethodName)) ∈ tables_1 := List.mem_of_getElem? (i := 33) rfl
theorem wd35 : (Jvm.Cond.code ({ cls := "java/lang/Integer", name := "<init>", desc := "(I)V" } : Jvm.MethodName) jdk_33_method_23_code (2 : Nat) (Option.none : Option Jvm.ClassFile.FieldType)) ∈ tables_1 := List.mem_of_getElem? (i := 35) rfl
theorem wd36 : (Jvm.Cond.methodLink "java/lang/Integer" (202 : Nat) ({ cls := "java/lang/Number", name := "<init>", desc := "()V" } : Jvm.MethodName)) ∈ tables_1 := List.mem_of_getElem? (i := 36) rfl
theorem wd37 : (Jvm.Cond.instanceMethod ({ cls := "java/lang/Number", name := "<init>", desc := "()V" } : Jvm.MethodName)) ∈ tables_1 := List.mem_of_getElem? (i := 37) rfl
theorem wd40 : (Jvm.Cond.initialized "java/lang/Number") ∈ tables_1 := List.mem_of_getElem? (i := 40) rfl
theorem wd41 : (Jvm.Cond.code ({ cls := "java/lang/Number", name := "<init>", desc := "()V" } : Jvm.MethodName) jdk_18_method_1_code (1 : Nat) (Option.none : Option Jvm.ClassFile.FieldType)) ∈ tables_1 := List.mem_of_getElem? (i := 41) rfl
theorem wd42 : (Jvm.Cond.methodLink "java/lang/Number" (1 : Nat) ({ cls := "java/lang/Object", name := "<init>", desc := "()V" } : Jvm.MethodName)) ∈ tables_1 := List.mem_of_getElem? (i := 42) rfl
theorem wd43 : (Jvm.Cond.instanceMethod ({ cls := "java/lang/Object", name := "<init>", desc := "()V" } : Jvm.MethodName)) ∈ tables_1 := List.mem_of_getElem? (i := 43) rfl
theorem wd44 : (Jvm.Cond.code ({ cls := "java/lang/Object", name := "<init>", desc := "()V" } : Jvm.MethodName) object_method_1_code (1 : Nat) (Option.none : Option Jvm.ClassFile.FieldType)) ∈ tables_1 := List.mem_of_getElem? (i := 44) rfl
theorem wd45 : (Jvm.Cond.fieldLink "java/lang/Integer" (205 : Nat) "java/lang/Integer" "value" "I") ∈ tables_1 := List.mem_of_getElem? (i := 45) rfl
theorem wd46 : (Jvm.Cond.laysFinal "java/lang/Integer" "java/lang/Integer" "value" "I") ∈ tables_1 := List.mem_of_getElem? (i := 46) rfl
theorem wd47 : (Jvm.Cond.methodLink "com/example/strict_absence/strictabsence/state/Tristate" (43 : Nat) ({ cls := "com/example/strict_absence/strictabsence/state/Tristate", name := "of", desc := "(Ljava/lang/Object;)Lcom/example/strict_absence/strictabsence/state/Tristate;" } : Jvm.MethodName)) ∈ tables_1 := List.mem_of_getElem? (i := 47) rfl
theorem wd48 : (Jvm.Cond.static ({ cls := "com/example/strict_absence/strictabsence/state/Tristate", name := "of", desc := "(Ljava/lang/Object;)Lcom/example/strict_absence/strictabsence/state/Tristate;" } : Jvm.MethodName)) ∈ tables_1 := List.mem_of_getElem? (i := 48) rfl
theorem wd49 : (Jvm.Cond.code ({ cls := "com/example/strict_absence/strictabsence/state/Tristate", name := "of", desc := "(Ljava/lang/Object;)Lcom/example/strict_absence/strictabsence/state/Tristate;" } : Jvm.MethodName) prog_47_method_4_code (1 : Nat) (Option.some (Jvm.ClassFile.FieldType.object "com/example/strict_absence/strictabsence/state/Tristate"))) ∈ tables_1 := List.mem_of_getElem? (i := 49) rfl
theorem wd50 : (Jvm.Cond.classLink "com/example/strict_absence/strictabsence/state/Tristate" (8 : Nat) "com/example/strict_absence/strictabsence/state/Tristate") ∈ tables_1 := List.mem_of_getElem? (i := 50) rfl
theorem wd51 : (Jvm.Cond.instantiable "com/example/strict_absence/strictabsence/state/Tristate" (2 : Nat)) ∈ tables_1 := List.mem_of_getElem? (i := 51) rfl
theorem wd52 : (Jvm.Cond.fieldLink "com/example/strict_absence/strictabsence/state/Tristate" (31 : Nat) "com/example/strict_absence/strictabsence/state/Tristate$State" "VALUE" "Lcom/example/strict_absence/strictabsence/state/Tristate$State;") ∈ tables_1 := List.mem_of_getElem? (i := 52) rfl
theorem wd53 : (Jvm.Cond.laysStatic "com/example/strict_absence/strictabsence/state/Tristate$State" "VALUE" "Lcom/example/strict_absence/strictabsence/state/Tristate$State;") ∈ tables_1 := List.mem_of_getElem? (i := 53) rfl
theorem wd54 : (Jvm.Cond.methodLink "com/example/strict_absence/strictabsence/state/Tristate" (36 : Nat) ({ cls := "com/example/strict_absence/strictabsence/state/Tristate", name := "<init>", desc := "(Lcom/example/strict_absence/strictabsence/state/Tristate$State;Ljava/lang/Object;)V" } : Jvm.MethodName)) ∈ tables_1 := List.mem_of_getElem? (i := 54) rfl
theorem wd55 : (Jvm.Cond.instanceMethod ({ cls := "com/example/strict_absence/strictabsence/state/Tristate", name := "<init>", desc := "(Lcom/example/strict_absence/strictabsence/state/Tristate$State;Ljava/lang/Object;)V" } : Jvm.MethodName)) ∈ tables_1 := List.mem_of_getElem? (i := 55) rfl
theorem wd56 : (Jvm.Cond.code ({ cls := "com/example/strict_absence/strictabsence/state/Tristate", name := "<init>", desc := "(Lcom/example/strict_absence/strictabsence/state/Tristate$State;Ljava/lang/Object;)V" } : Jvm.MethodName) prog_47_method_1_code (3 : Nat) (Option.none : Option Jvm.ClassFile.FieldType)) ∈ tables_1 := List.mem_of_getElem? (i := 56) rfl
theorem wd57 : (Jvm.Cond.methodLink "com/example/strict_absence/strictabsence/state/Tristate" (1 : Nat) ({ cls := "java/lang/Object", name := "<init>", desc := "()V" } : Jvm.MethodName)) ∈ tables_1 := List.mem_of_getElem? (i := 57) rfl
theorem wd58 : (Jvm.Cond.fieldLink "com/example/strict_absence/strictabsence/state/TristateOfNullablePinLaw" (33 : Nat) "com/example/strict_absence/strictabsence/state/Tristate$State" "VALUE" "Lcom/example/strict_absence/strictabsence/state/Tristate$State;") ∈ tables_1 := List.mem_of_getElem? (i := 58) rfl
theorem wd59 : (Jvm.Cond.methodLink "com/example/strict_absence/strictabsence/state/TristateOfNullablePinLaw" (36 : Nat) ({ cls := "com/example/strict_absence/strictabsence/state/Tristate", name := "value", desc := "()Ljava/lang/Object;" } : Jvm.MethodName)) ∈ tables_1 := List.mem_of_getElem? (i := 59) rfl
theorem wd60 : (Jvm.Cond.declares ({ cls := "com/example/strict_absence/strictabsence/state/Tristate", name := "value", desc := "()Ljava/lang/Object;" } : Jvm.MethodName)) ∈ tables_1 := List.mem_of_getElem? (i := 60) rfl
theorem wd61 : (Jvm.Cond.instanceMethod ({ cls := "com/example/strict_absence/strictabsence/state/Tristate", name := "value", desc := "()Ljava/lang/Object;" } : Jvm.MethodName)) ∈ tables_1 := List.mem_of_getElem? (i := 61) rfl
theorem wd62 : (Jvm.Cond.selects "com/example/strict_absence/strictabsence/state/Tristate" ({ cls := "com/example/strict_absence/strictabsence/state/Tristate", name := "value", desc := "()Ljava/lang/Object;" } : Jvm.MethodName) ({ cls := "com/example/strict_absence/strictabsence/state/Tristate", name := "value", desc := "()Ljava/lang/Object;" } : Jvm.MethodName)) ∈ tables_1 := List.mem_of_getElem? (i := 62) rfl
theorem wd63 : (Jvm.Cond.code ({ cls := "com/example/strict_absence/strictabsence/state/Tristate", name := "value", desc := "()Ljava/lang/Object;" } : Jvm.MethodName) prog_47_method_10_code (1 : Nat) (Option.some (Jvm.ClassFile.FieldType.object "java/lang/Object"))) ∈ tables_1 := List.mem_of_getElem? (i := 63) rfl
theorem wd64 : (Jvm.Cond.classLink "com/example/strict_absence/strictabsence/state/TristateOfNullablePinLaw" (8 : Nat) "java/lang/Integer") ∈ tables_1 := List.mem_of_getElem? (i := 64) rfl
theorem wd65 : (Jvm.Cond.methodLink "com/example/strict_absence/strictabsence/state/TristateOfNullablePinLaw" (39 : Nat) ({ cls := "java/lang/Integer", name := "intValue", desc := "()I" } : Jvm.MethodName)) ∈ tables_1 := List.mem_of_getElem? (i := 65) rfl
theorem wd66 : (Jvm.Cond.declares ({ cls := "java/lang/Integer", name := "intValue", desc := "()I" } : Jvm.MethodName)) ∈ tables_1 := List.mem_of_getElem? (i := 66) rfl
theorem wd67 : (Jvm.Cond.instanceMethod ({ cls := "java/lang/Integer", name := "intValue", desc := "()I" } : Jvm.MethodName)) ∈ tables_1 := List.mem_of_getElem? (i := 67) rfl
theorem wd68 : (Jvm.Cond.selects "java/lang/Integer" ({ cls := "java/lang/Integer", name := "intValue", desc := "()I" } : Jvm.MethodName) ({ cls := "java/lang/Integer", name := "intValue", desc := "()I" } : Jvm.MethodName)) ∈ tables_1 := List.mem_of_getElem? (i := 68) rfl
theorem wd69 : (Jvm.Cond.code ({ cls := "java/lang/Integer", name := "intValue", desc := "()I" } : Jvm.MethodName) jdk_33_method_27_code (1 : Nat) (Option.some Jvm.ClassFile.FieldType.int)) ∈ tables_1 := List.mem_of_getElem? (i := 69) rfl
theorem wd70 : (Jvm.Cond.fieldLink "java/lang/Integer" (191 : Nat) "java/lang/Integer$IntegerCache" "high" "I") ∈ tables_1 := List.mem_of_getElem? (i := 70) rfl
theorem wd71 : (Jvm.Cond.initialized "java/lang/Integer$IntegerCache") ∈ tables_1 := List.mem_of_getElem? (i := 71) rfl
theorem wd72 : (Jvm.Cond.fieldLink "java/lang/Integer" (195 : Nat) "java/lang/Integer$IntegerCache" "cache" "[Ljava/lang/Integer;") ∈ tables_1 := List.mem_of_getElem? (i := 72) rfl
theorem d1_0 : decode prog_47_method_5_code 0 = .ok (.aload_n 0, 1) := by decide +kernel
theorem d1_1 : decode prog_47_method_5_code 1 = .ok (.ifnonnull 10, 3) := by decide +kernel
theorem d1_4 : decode prog_47_method_5_code 4 = .ok (.invokestatic 39, 3) := by decide +kernel
theorem d1_7 : decode prog_47_method_5_code 7 = .ok (.astore_n 1, 1) := by decide +kernel
theorem d1_8 : decode prog_47_method_5_code 8 = .ok (.goto 8, 3) := by decide +kernel
theorem d1_11 : decode prog_47_method_5_code 11 = .ok (.aload_n 0, 1) := by decide +kernel
theorem d1_12 : decode prog_47_method_5_code 12 = .ok (.invokestatic 43, 3) := by decide +kernel
theorem d1_15 : decode prog_47_method_5_code 15 = .ok (.astore_n 1, 1) := by decide +kernel
theorem d1_16 : decode prog_47_method_5_code 16 = .ok (.aload_n 1, 1) := by decide +kernel
theorem d1_17 : decode prog_47_method_5_code 17 = .ok (.areturn, 1) := by decide +kernel
theorem d2_0 : decode prog_47_method_3_code 0 = .ok (.getstatic 21, 3) := by decide +kernel
theorem d2_3 : decode prog_47_method_3_code 3 = .ok (.astore_n 0, 1) := by decide +kernel
theorem d2_4 : decode prog_47_method_3_code 4 = .ok (.aload_n 0, 1) := by decide +kernel
theorem d2_5 : decode prog_47_method_3_code 5 = .ok (.areturn, 1) := by decide +kernel
theorem d3_0 : decode prog_47_method_6_code 0 = .ok (.aload_n 0, 1) := by decide +kernel
theorem d3_1 : decode prog_47_method_6_code 1 = .ok (.getfield 7, 3) := by decide +kernel
theorem d3_4 : decode prog_47_method_6_code 4 = .ok (.areturn, 1) := by decide +kernel
theorem d4_0 : decode prog_47_method_11_code 0 = .ok (.aload_n 0, 1) := by decide +kernel
theorem d4_1 : decode prog_47_method_11_code 1 = .ok (.getfield 13, 3) := by decide +kernel
theorem d4_4 : decode prog_47_method_11_code 4 = .ok (.areturn, 1) := by decide +kernel
theorem d5_0 : decode jdk_33_method_22_code 0 = .ok (.iload_n 0, 1) := by decide +kernel
theorem d5_1 : decode jdk_33_method_22_code 1 = .ok (.bipush (-128), 2) := by decide +kernel
theorem d5_3 : decode jdk_33_method_22_code 3 = .ok (.if_icmp .lt 20, 3) := by decide +kernel
theorem d5_6 : decode jdk_33_method_22_code 6 = .ok (.iload_n 0, 1) := by decide +kernel
theorem d5_7 : decode jdk_33_method_22_code 7 = .ok (.getstatic 191, 3) := by decide +kernel
theorem d5_10 : decode jdk_33_method_22_code 10 = .ok (.if_icmp .gt 13, 3) := by decide +kernel
theorem d5_13 : decode jdk_33_method_22_code 13 = .ok (.getstatic 195, 3) := by decide +kernel
theorem d5_16 : decode jdk_33_method_22_code 16 = .ok (.iload_n 0, 1) := by decide +kernel
theorem d5_17 : decode jdk_33_method_22_code 17 = .ok (.sipush 128, 3) := by decide +kernel
theorem d5_20 : decode jdk_33_method_22_code 20 = .ok (.iadd, 1) := by decide +kernel
theorem d5_21 : decode jdk_33_method_22_code 21 = .ok (.aaload, 1) := by decide +kernel
theorem d5_22 : decode jdk_33_method_22_code 22 = .ok (.areturn, 1) := by decide +kernel
theorem d5_23 : decode jdk_33_method_22_code 23 = .ok (.new 1, 3) := by decide +kernel
theorem d5_26 : decode jdk_33_method_22_code 26 = .ok (.dup, 1) := by decide +kernel
theorem d5_27 : decode jdk_33_method_22_code 27 = .ok (.iload_n 0, 1) := by decide +kernel
theorem d5_28 : decode jdk_33_method_22_code 28 = .ok (.invokespecial 199, 3) := by decide +kernel
theorem d5_31 : decode jdk_33_method_22_code 31 = .ok (.areturn, 1) := by decide +kernel
theorem d6_0 : decode jdk_33_method_23_code 0 = .ok (.aload_n 0, 1) := by decide +kernel
theorem d6_1 : decode jdk_33_method_23_code 1 = .ok (.invokespecial 202, 3) := by decide +kernel
theorem d6_4 : decode jdk_33_method_23_code 4 = .ok (.aload_n 0, 1) := by decide +kernel
theorem d6_5 : decode jdk_33_method_23_code 5 = .ok (.iload_n 1, 1) := by decide +kernel
theorem d6_6 : decode jdk_33_method_23_code 6 = .ok (.putfield 205, 3) := by decide +kernel
theorem d6_9 : decode jdk_33_method_23_code 9 = .ok (.return_, 1) := by decide +kernel
theorem d7_0 : decode jdk_18_method_1_code 0 = .ok (.aload_n 0, 1) := by decide +kernel
theorem d7_1 : decode jdk_18_method_1_code 1 = .ok (.invokespecial 1, 3) := by decide +kernel
theorem d7_4 : decode jdk_18_method_1_code 4 = .ok (.return_, 1) := by decide +kernel
theorem d9_0 : decode prog_47_method_4_code 0 = .ok (.aload_n 0, 1) := by decide +kernel
theorem d9_1 : decode prog_47_method_4_code 1 = .ok (.ifnonnull 13, 3) := by decide +kernel
theorem d9_14 : decode prog_47_method_4_code 14 = .ok (.new 8, 3) := by decide +kernel
theorem d9_17 : decode prog_47_method_4_code 17 = .ok (.dup, 1) := by decide +kernel
theorem d9_18 : decode prog_47_method_4_code 18 = .ok (.getstatic 31, 3) := by decide +kernel
theorem d9_21 : decode prog_47_method_4_code 21 = .ok (.aload_n 0, 1) := by decide +kernel
theorem d9_22 : decode prog_47_method_4_code 22 = .ok (.invokespecial 36, 3) := by decide +kernel
theorem d9_25 : decode prog_47_method_4_code 25 = .ok (.areturn, 1) := by decide +kernel
theorem d10_0 : decode prog_47_method_1_code 0 = .ok (.aload_n 0, 1) := by decide +kernel
theorem d10_1 : decode prog_47_method_1_code 1 = .ok (.invokespecial 1, 3) := by decide +kernel
theorem d10_4 : decode prog_47_method_1_code 4 = .ok (.aload_n 0, 1) := by decide +kernel
theorem d10_5 : decode prog_47_method_1_code 5 = .ok (.aload_n 1, 1) := by decide +kernel
theorem d10_6 : decode prog_47_method_1_code 6 = .ok (.putfield 7, 3) := by decide +kernel
theorem d10_9 : decode prog_47_method_1_code 9 = .ok (.aload_n 0, 1) := by decide +kernel
theorem d10_10 : decode prog_47_method_1_code 10 = .ok (.aload_n 2, 1) := by decide +kernel
theorem d10_11 : decode prog_47_method_1_code 11 = .ok (.putfield 13, 3) := by decide +kernel
theorem d10_14 : decode prog_47_method_1_code 14 = .ok (.return_, 1) := by decide +kernel
theorem d11_0 : decode prog_47_method_10_code 0 = .ok (.aload_n 0, 1) := by decide +kernel
theorem d11_1 : decode prog_47_method_10_code 1 = .ok (.getfield 7, 3) := by decide +kernel
theorem d11_4 : decode prog_47_method_10_code 4 = .ok (.getstatic 31, 3) := by decide +kernel
theorem d11_7 : decode prog_47_method_10_code 7 = .ok (.if_acmp .eq 23, 3) := by decide +kernel
theorem d11_30 : decode prog_47_method_10_code 30 = .ok (.aload_n 0, 1) := by decide +kernel
theorem d11_31 : decode prog_47_method_10_code 31 = .ok (.getfield 13, 3) := by decide +kernel
theorem d11_34 : decode prog_47_method_10_code 34 = .ok (.areturn, 1) := by decide +kernel
theorem d12_0 : decode jdk_33_method_27_code 0 = .ok (.aload_n 0, 1) := by decide +kernel
theorem d12_1 : decode jdk_33_method_27_code 1 = .ok (.getfield 205, 3) := by decide +kernel
theorem d12_4 : decode jdk_33_method_27_code 4 = .ok (.ireturn, 1) := by decide +kernel
theorem pd0 : parseMethodDescriptor "()V" = some ⟨[], none⟩ := by decide +kernel
theorem pd1 : parseMethodDescriptor "(I)V" = some ⟨[.int], none⟩ := by decide +kernel
theorem pd2 : parseMethodDescriptor "(I)Ljava/lang/Integer;" = some ⟨[.int], some (.object "java/lang/Integer")⟩ := by decide +kernel
theorem pd3 : parseMethodDescriptor "(Lcom/example/strict_absence/strictabsence/state/Tristate$State;Ljava/lang/Object;)V" = some ⟨[(.object "com/example/strict_absence/strictabsence/state/Tristate$State"), (.object "java/lang/Object")], none⟩ := by decide +kernel
theorem pd4 : parseMethodDescriptor "(Ljava/lang/Object;)Lcom/example/strict_absence/strictabsence/state/Tristate;" = some ⟨[(.object "java/lang/Object")], some (.object "com/example/strict_absence/strictabsence/state/Tristate")⟩ := by decide +kernel
theorem pd5 : parseMethodDescriptor "()Lcom/example/strict_absence/strictabsence/state/Tristate$State;" = some ⟨[], some (.object "com/example/strict_absence/strictabsence/state/Tristate$State")⟩ := by decide +kernel
theorem pd6 : parseMethodDescriptor "()Ljava/lang/Object;" = some ⟨[], some (.object "java/lang/Object")⟩ := by decide +kernel
theorem pd7 : parseMethodDescriptor "()I" = some ⟨[], some .int⟩ := by decide +kernel
theorem pd8 : parseMethodDescriptor "()Lcom/example/strict_absence/strictabsence/state/Tristate;" = some ⟨[], some (.object "com/example/strict_absence/strictabsence/state/Tristate")⟩ := by decide +kernel
theorem pn0 : plainName "com/example/strict_absence/strictabsence/state/TristateOfNullablePinLaw" = true := by first | (simp [plainName, overriddenIn]; done) | decide +kernel
theorem pn1 : plainName "com/example/strict_absence/strictabsence/state/Tristate" = true := by first | (simp [plainName, overriddenIn]; done) | decide +kernel
theorem pn10 : plainName "com/example/strict_absence/strictabsence/state/Tristate" = true := by first | (simp [plainName, overriddenIn]; done) | decide +kernel
theorem pn11 : plainName "com/example/strict_absence/strictabsence/state/Tristate" = true := by first | (simp [plainName, overriddenIn]; done) | decide +kernel
theorem pn12 : plainName "java/lang/Integer" = true := by first | (simp [plainName, overriddenIn]; done) | decide +kernel
theorem pn2 : plainName "com/example/strict_absence/strictabsence/state/Tristate" = true := by first | (simp [plainName, overriddenIn]; done) | decide +kernel
theorem pn3 : plainName "com/example/strict_absence/strictabsence/state/Tristate" = true := by first | (simp [plainName, overriddenIn]; done) | decide +kernel
theorem pn4 : plainName "com/example/strict_absence/strictabsence/state/Tristate" = true := by first | (simp [plainName, overriddenIn]; done) | decide +kernel
theorem pn5 : plainName "java/lang/Integer" = true := by first | (simp [plainName, overriddenIn]; done) | decide +kernel
theorem pn6 : plainName "java/lang/Integer" = true := by first | (simp [plainName, overriddenIn]; done) | decide +kernel
theorem pn7 : plainName "java/lang/Number" = true := by first | (simp [plainName, overriddenIn]; done) | decide +kernel
theorem pn9 : plainName "com/example/strict_absence/strictabsence/state/Tristate" = true := by first | (simp [plainName, overriddenIn]; done) | decide +kernel
def World (Z : State) (w_Tristate_NULL w_Tristate_State_NULL w_Tristate_State_VALUE w_cacheI : Addr) (cl_cacheI : Cell) : Prop :=
  Sta Z Z.heap "com/example/strict_absence/strictabsence/state/Tristate" "NULL" "Lcom/example/strict_absence/strictabsence/state/Tristate;" (.ref w_Tristate_NULL) ∧
  Exa Z Z.heap w_Tristate_NULL "com/example/strict_absence/strictabsence/state/Tristate" ∧
  Sta Z Z.heap "com/example/strict_absence/strictabsence/state/Tristate$State" "NULL" "Lcom/example/strict_absence/strictabsence/state/Tristate$State;" (.ref w_Tristate_State_NULL) ∧
  Exa Z Z.heap w_Tristate_State_NULL "com/example/strict_absence/strictabsence/state/Tristate$State" ∧
  Sta Z Z.heap "com/example/strict_absence/strictabsence/state/Tristate$State" "VALUE" "Lcom/example/strict_absence/strictabsence/state/Tristate$State;" (.ref w_Tristate_State_VALUE) ∧
  Exa Z Z.heap w_Tristate_State_VALUE "com/example/strict_absence/strictabsence/state/Tristate$State" ∧
  Fld Z Z.heap w_Tristate_NULL "com/example/strict_absence/strictabsence/state/Tristate" "state" "Lcom/example/strict_absence/strictabsence/state/Tristate$State;" (.ref w_Tristate_State_NULL) ∧
  Fld Z Z.heap w_Tristate_NULL "com/example/strict_absence/strictabsence/state/Tristate" "value" "Ljava/lang/Object;" .null ∧
  Sta Z Z.heap "java/lang/Integer$IntegerCache" "high" "I" (.int (127 : Int32)) ∧
  Sta Z Z.heap "java/lang/Integer$IntegerCache" "cache" "[Ljava/lang/Integer;" (.ref w_cacheI) ∧
  Bxs Z w_cacheI cl_cacheI "java/lang/Integer" "I" (256 : Int32) (fun j => .int (j - 128))
abbrev Bg (Z : State) (a0 : Array Value) (w_Tristate_NULL w_Tristate_State_NULL w_Tristate_State_VALUE w_cacheI : Addr) (cl_cacheI : Cell) : Prop := (∀ d ∈ tables_1, d.before a0 Z = true) ∧ World Z w_Tristate_NULL w_Tristate_State_NULL w_Tristate_State_VALUE w_cacheI cl_cacheI
abbrev yM2 : MethodName := ⟨"com/example/strict_absence/strictabsence/state/Tristate", "ofNull", "()Lcom/example/strict_absence/strictabsence/state/Tristate;"⟩
abbrev yM12 : MethodName := ⟨"java/lang/Integer", "intValue", "()I"⟩
abbrev yM4 : MethodName := ⟨"com/example/strict_absence/strictabsence/state/Tristate", "orNull", "()Ljava/lang/Object;"⟩
abbrev yM11 : MethodName := ⟨"com/example/strict_absence/strictabsence/state/Tristate", "value", "()Ljava/lang/Object;"⟩
abbrev yM3 : MethodName := ⟨"com/example/strict_absence/strictabsence/state/Tristate", "state", "()Lcom/example/strict_absence/strictabsence/state/Tristate$State;"⟩
abbrev yM1 : MethodName := ⟨"com/example/strict_absence/strictabsence/state/Tristate", "ofNullable", "(Ljava/lang/Object;)Lcom/example/strict_absence/strictabsence/state/Tristate;"⟩
abbrev yM9 : MethodName := ⟨"com/example/strict_absence/strictabsence/state/Tristate", "of", "(Ljava/lang/Object;)Lcom/example/strict_absence/strictabsence/state/Tristate;"⟩
abbrev yM10 : MethodName := ⟨"com/example/strict_absence/strictabsence/state/Tristate", "<init>", "(Lcom/example/strict_absence/strictabsence/state/Tristate$State;Ljava/lang/Object;)V"⟩
abbrev cs3 : String := "Ljava/lang/Object;"
abbrev cs2 : String := "Lcom/example/strict_absence/strictabsence/state/Tristate$State;"
abbrev cs1 : String := "com/example/strict_absence/strictabsence/state/Tristate"
abbrev yM6 : MethodName := ⟨"java/lang/Integer", "<init>", "(I)V"⟩
abbrev yM7 : MethodName := ⟨"java/lang/Number", "<init>", "()V"⟩
abbrev cs0 : String := "java/lang/Integer"
theorem extT {a b c : Heap} (x : Ext a b) (y : Ext b c) : Ext a c := ⟨Nat.le_trans x.1 y.1, fun q r s => y.2 q r (x.2 q r s)⟩
theorem extR (a : Heap) : Ext a a := ⟨Nat.le_refl _, fun _ _ q => q⟩
theorem extK {h0 h h' : Heap} {ws : List Addr} (O : Ext h0 h) (K : Keep h h' ws) (q : ∀ x ∈ ws, h0.size ≤ x) : Ext h0 h' := ⟨Nat.le_trans O.1 K.1, fun x c r => K.2.1 x c (O.2 x c r) fun z => absurd (Array.getElem?_eq_some_iff.mp r).1 (Nat.not_lt.mpr (q x z))⟩
theorem extW {h0 h h' : Heap} {a : Addr} {sl : Nat} {v : Value} (O : Ext h0 h) (W : Wr h h' a sl v) (q : h0.size ≤ a) : Ext h0 h' := extK O (Keep.of_wr W) (allS q all0)
theorem leW {h0 h h' : Heap} {a : Addr} {sl : Nat} {v : Value} (q : h0.size ≤ h.size) (W : Wr h h' a sl v) : h0.size ≤ h'.size := by rw [W.size]; exact q
theorem neB {a b : Addr} {h : Heap} (x : a < h.size) (y : h.size ≤ b) : a ≠ b := Nat.ne_of_lt (Nat.lt_of_lt_of_le x y)

theorem stoV {Z : State} {h : Heap} {a y : Addr} {k : ClassId} {ty : FieldType} {n : Int32} {vs : List Value} {d : Value} {C : String} (A : Arv Z h a k ty n vs d) (O : Ovr Z k C) (I : Ins Z h y C true) : Sto Z h a (.ref y) := by
  obtain ⟨c, Ar, q, -⟩ := A
  exact Sto.ofV Ar q O I

theorem box_in {x : Int32} (h1 : ¬ (x < (-128 : Int32))) (h2 : ¬ ((127 : Int32) < x)) {c : Cell} (S : c.slots.size = (256 : Int32).toNatClampNeg) : ¬ ((x + (128 : Int32)) < 0 ∨ c.slots.size ≤ (x + (128 : Int32)).toNatClampNeg) := by
  refine inb_of S ?_
  have h3 := c_iadd x (128 : Int32)
  have r := rng32 (x + (128 : Int32))
  have e1 : (128 : Int32).toInt = 128 := by decide
  have e2 : (-128 : Int32).toInt = -128 := by decide
  have e3 : (127 : Int32).toInt = 127 := by decide
  have e4 : (256 : Int32).toInt = 256 := by decide
  have e5 : (0 : Int32).toInt = 0 := by decide
  rw [Int32.lt_iff_toInt_lt] at h1 h2
  rw [Int32.lt_iff_toInt_lt, Int32.lt_iff_toInt_lt]
  omega
theorem box_v (x : Int32) : (x + (128 : Int32)) - 128 = x := by
  rw [← Int32.toInt_inj]
  have h3 := c_iadd x (128 : Int32)
  have h4 := c_isub (x + (128 : Int32)) 128
  have e1 : (128 : Int32).toInt = 128 := by decide
  have r := rng32 x
  have r2 := rng32 ((x + (128 : Int32)) - 128)
  rw [e1] at h3 h4
  omega
theorem boxL_r {x : Int64} (h1 : ¬ (x < (-128 : Int64))) (h2 : ¬ ((127 : Int64) < x)) : ¬ ((x.toInt32) < (-128 : Int32)) ∧ ¬ ((127 : Int32) < (x.toInt32)) ∧ (x.toInt32).toInt64 = x := by
  have h3 := c_l2i x
  have r := rng32 x.toInt32
  have e2 : (-128 : Int64).toInt = -128 := by decide
  have e3 : (127 : Int64).toInt = 127 := by decide
  have e4 : (-128 : Int32).toInt = -128 := by decide
  have e5 : (127 : Int32).toInt = 127 := by decide
  rw [Int64.lt_iff_toInt_lt] at h1 h2
  refine ⟨?_, ?_, ?_⟩
  · rw [Int32.lt_iff_toInt_lt]; omega
  · rw [Int32.lt_iff_toInt_lt]; omega
  · rw [← Int64.toInt_inj, c_i2l]; omega

theorem sn0 {Z : State} {a0 : Array Value} (hw : ∀ d ∈ tables_1, d.before a0 Z = true) : Jvm.RoadKit.slotOf Z "com/example/strict_absence/strictabsence/state/Tristate" "value" "Ljava/lang/Object;" ≠ Jvm.RoadKit.slotOf Z "com/example/strict_absence/strictabsence/state/Tristate" "state" "Lcom/example/strict_absence/strictabsence/state/Tristate$State;" := slot_ne (Or.inr (hw _ wd25)) (Or.inr (hw _ wd15)) (by decide) (t := (.object "java/lang/Object")) (t' := (.object "com/example/strict_absence/strictabsence/state/Tristate$State")) (by decide) (by decide)
theorem sn1 {Z : State} {a0 : Array Value} (hw : ∀ d ∈ tables_1, d.before a0 Z = true) : Jvm.RoadKit.slotOf Z "com/example/strict_absence/strictabsence/state/Tristate" "state" "Lcom/example/strict_absence/strictabsence/state/Tristate$State;" ≠ Jvm.RoadKit.slotOf Z "com/example/strict_absence/strictabsence/state/Tristate" "value" "Ljava/lang/Object;" := slot_ne (Or.inr (hw _ wd15)) (Or.inr (hw _ wd25)) (by decide) (t := (.object "com/example/strict_absence/strictabsence/state/Tristate$State")) (t' := (.object "java/lang/Object")) (by decide) (by decide)
section Walk
variable {l : Launch} {Z : State} {a0 : Array Value} {w_Tristate_NULL w_Tristate_State_NULL w_Tristate_State_VALUE w_cacheI : Addr} {cl_cacheI : Cell}
theorem rm5_7 (B : Bg Z a0 w_Tristate_NULL w_Tristate_State_NULL w_Tristate_State_VALUE w_cacheI cl_cacheI) (ro0 : Addr) (h : Heap) (O : Ext Z.heap h) :
    Con l Z yM7 jdk_18_method_1_code 1 none ({ frames := 1, cells := 0, slots := 0, locals := 12 } : Room) #[(.ref ro0)] h (fun v h' L => v = none ∧ h' = h ∧ L = []) := by
  have hw := B.1
  refine Con.of (plainFor_of_name pn7) (Ls := #[vR ro0]) (fun m => by first | rfl | (simp [entryFrame, mkF, argsToLocals, Value.category]; done)) ?_
  intro p e s m below meth c T0 X0 H hml hZ hown hnm hret hlk e0
  refine gAloadN X0 H d7_0 rfl rfl 1 rfl ?_
  refine gInitO X0 H hZ hown (hw _ wd42) (hw _ wd43) (hw _ wd44) e0 hml rfl (V := 0) (Nat.le_of_eq rfl) (by decide) (by decide) d7_1 4 rfl ?_
  intro T4 X4 e4
  exact gRetV X4 H hlk hret d7_4 e4 ⟨rfl, rfl, rfl⟩
theorem rm13_6 (B : Bg Z a0 w_Tristate_NULL w_Tristate_State_NULL w_Tristate_State_VALUE w_cacheI cl_cacheI) (ro0 : Addr) (vi1 : Int32) (h : Heap) (O : Ext Z.heap h) (hp8 : Exa Z h ro0 cs0) (hp9 : Fld Z h ro0 cs0 "value" "I" (.int 0)) (hp10 : Z.heap.size ≤ ro0) :
    Con l Z yM6 jdk_33_method_23_code 2 none ({ frames := 2, cells := 0, slots := 0, locals := 24 } : Room) #[(.ref ro0), (.int vi1)] h (fun v h' L => v = none ∧ Fr Z.heap.size L ∧ Keep h h' [ro0] ∧ Exa Z h' ro0 cs0 ∧ Fld Z h' ro0 cs0 "value" "I" (.int vi1)) := by
  have hw := B.1
  refine Con.of (plainFor_of_name pn6) (Ls := #[vR ro0, vI vi1]) (fun m => by first | rfl | (simp [entryFrame, mkF, argsToLocals, Value.category]; done)) ?_
  intro p e s m below meth c T0 X0 H hml hZ hown hnm hret hlk e0
  have N0 := Fr.nil Z.heap.size
  refine gAloadN X0 H d6_0 rfl rfl 1 rfl ?_
  refine gSpecial X0 H hZ hown rfl rfl (hw _ wd36) (hw _ wd37) (by decide) (hw _ wd41) (hw _ wd40) (rm5_7 B ro0 _ O) e0 hml rfl pd0 rfl (W := 0) (argsL := []) (rest := []) rfl rfl d6_1 4 rfl ?_
  intro v6 T6 L6 hq6 X6
  obtain ⟨rfl, e6, rfl⟩ := hq6
  have N6 := Fr.app N0 (Fr.nil _)
  show Go _ _ _ _ (State.setTop _ (mkF _ 4 _ []))
  refine gAloadN X6 H d6_4 rfl rfl 5 rfl ?_
  refine gIloadN X6 H d6_5 rfl 6 rfl ?_
  refine gPutF X6 H hZ hown (hw _ wd45) Via.refl e6 hp9 hp8 (Or.inr ⟨(hw _ wd46), rfl, hnm⟩) (hw _ wd31) (ty := .int) (by decide) (v' := (.int vi1)) rfl rfl d6_6 9 rfl ?_
  intro T7 h7 X7 e7 W7 F7
  have O7 := extW O W7 hp10
  have N7 := Fr.snoc X7 N6 hp10
  have c11 := (hp8.wr W7)
  have K_12 := (Keep.refl h [ro0]).wr W7 (Or.inl (List.mem_of_getElem? (i := 0) rfl))
  exact gRetV X7 H hlk hret d6_9 e7 ⟨rfl, N7, K_12, c11, F7⟩
theorem boxI (B : Bg Z a0 w_Tristate_NULL w_Tristate_State_NULL w_Tristate_State_VALUE w_cacheI cl_cacheI) (vi0 : Int32) (h : Heap) (O : Ext Z.heap h) :
    Con l Z (⟨"java/lang/Integer", "valueOf", "(I)Ljava/lang/Integer;"⟩ : MethodName) jdk_33_method_22_code 1 (some (.object "java/lang/Integer")) ({ frames := 3, cells := 1, slots := 1, locals := 38 } : Room) #[(.int vi0)] h (fun v h' L => ∃ (b : Addr), v = some (.ref b) ∧ Fr Z.heap.size L ∧ Keep h h' [] ∧ Exa Z h' b "java/lang/Integer" ∧ Fld Z h' b "java/lang/Integer" "value" "I" (.int vi0)) := by
  have hw := B.1
  obtain ⟨S_w_Tristate_NULL, E_w_Tristate_NULL, S_w_Tristate_State_NULL, E_w_Tristate_State_NULL, S_w_Tristate_State_VALUE, E_w_Tristate_State_VALUE, F_w_Tristate_NULL_state, F_w_Tristate_NULL_value, S_high, S_cacheI, B_cacheI⟩ := B.2
  refine Con.of (plainFor_of_name pn5) (Ls := #[vI vi0]) (fun m => by first | rfl | (simp [entryFrame, mkF, argsToLocals, Value.category]; done)) ?_
  intro p e s m below meth c T0 X0 H hml hZ hown hnm hret hlk e0
  have M0 := Nat.le_refl h.size
  have N0 := Fr.nil Z.heap.size
  refine gIloadN X0 H d5_0 rfl 1 rfl ?_
  refine gBipush X0 H d5_1 (z := (-128)) rfl 3 rfl ?_
  by_cases hc2 : vi0 < (-128 : Int32)
  · refine gCmpY X0 H d5_3 (tlt hc2).1 (by decide) 23 rfl ?_
    refine gNew X0 H hZ hown (hw _ wd30) (hw _ wd31) (hw _ wd28) e0 (by decide) (by decide) d5_23 26 rfl ?_
    intro T3 h3 b3 X3 e3 z3 E3 A3 D3
    have G_b3 := Nat.le_trans O.1 (Nat.le_of_eq z3)
    have sz_b3 := Nat.le_trans M0 (Nat.le_of_eq z3)
    have O3 := extT O E3
    have F3_value : Fld Z h3 b3 cs0 "value" "I" (.int 0) := D3 (Or.inr (hw _ wd46)) (ty := .int) (by decide)
    refine gDup X3 H d5_26 rfl 27 rfl ?_
    refine gIloadN X3 H d5_27 rfl 28 rfl ?_
    refine gSpecial X3 H hZ hown rfl rfl (hw _ wd32) (hw _ wd33) (by decide) (hw _ wd35) (hw _ wd28) (rm13_6 B b3 vi0 _ O3 A3 F3_value G_b3) e3 hml rfl pd1 rfl (W := 1) (argsL := [(.int vi0)]) (rest := [(.ref b3)]) rfl rfl d5_28 31 rfl ?_
    intro v14 T14 L14 hq14 X14
    obtain ⟨rfl, N14q, K14, f14_0, f14_1⟩ := hq14
    have O14 := extK O3 K14 (allS G_b3 all0)
    have N14 := Fr.app N0 N14q
    show Go _ _ _ _ (State.setTop _ (mkF _ 31 _ [(.ref b3)]))
    have K_15 := (Keep.refl h []).ext E3
    have K_16 := K_15.trans K14 (allS (Or.inr sz_b3) all0)
    exact gRetA X14 H hlk hret rfl rfl rfl d5_31 rfl ⟨b3, rfl, N14, K_16, f14_0, f14_1⟩
  · refine gCmpN X0 H d5_3 (flt hc2).1 6 rfl ?_
    refine gIloadN X0 H d5_6 rfl 7 rfl ?_
    refine gGetS X0 H hZ hown (hw _ wd70) e0 (S_high.ext O) d5_7 10 rfl ?_
    intro T17 X17 e17
    by_cases hc18 : (127 : Int32) < vi0
    · refine gCmpY X17 H d5_10 (tlt hc18).2.2.1 (by decide) 23 rfl ?_
      refine gNew X17 H hZ hown (hw _ wd30) (hw _ wd31) (hw _ wd28) e17 (by decide) (by decide) d5_23 26 rfl ?_
      intro T19 h19 b19 X19 e19 z19 E19 A19 D19
      have G_b19 := Nat.le_trans O.1 (Nat.le_of_eq z19)
      have sz_b19 := Nat.le_trans M0 (Nat.le_of_eq z19)
      have O19 := extT O E19
      have F19_value : Fld Z h19 b19 cs0 "value" "I" (.int 0) := D19 (Or.inr (hw _ wd46)) (ty := .int) (by decide)
      refine gDup X19 H d5_26 rfl 27 rfl ?_
      refine gIloadN X19 H d5_27 rfl 28 rfl ?_
      refine gSpecial X19 H hZ hown rfl rfl (hw _ wd32) (hw _ wd33) (by decide) (hw _ wd35) (hw _ wd28) (rm13_6 B b19 vi0 _ O19 A19 F19_value G_b19) e19 hml rfl pd1 rfl (W := 1) (argsL := [(.int vi0)]) (rest := [(.ref b19)]) rfl rfl d5_28 31 rfl ?_
      intro v20 T20 L20 hq20 X20
      obtain ⟨rfl, N20q, K20, f20_0, f20_1⟩ := hq20
      have O20 := extK O19 K20 (allS G_b19 all0)
      have N20 := Fr.app N0 N20q
      show Go _ _ _ _ (State.setTop _ (mkF _ 31 _ [(.ref b19)]))
      have K_21 := (Keep.refl h []).ext E19
      have K_22 := K_21.trans K20 (allS (Or.inr sz_b19) all0)
      exact gRetA X20 H hlk hret rfl rfl rfl d5_31 rfl ⟨b19, rfl, N20, K_22, f20_0, f20_1⟩
    · refine gCmpN X17 H d5_10 (flt hc18).2.2.1 13 rfl ?_
      refine gGetS X17 H hZ hown (hw _ wd72) e17 (S_cacheI.ext O) d5_13 16 rfl ?_
      intro T23 X23 e23
      refine gIloadN X23 H d5_16 rfl 17 rfl ?_
      refine gSipush X23 H d5_17 (z := 128) rfl 20 rfl ?_
      refine g_iadd X23 H d5_20 (z := (vi0 + (128 : Int32))) rfl 21 rfl ?_
      obtain ⟨b24, q24, A24, f24⟩ := B_cacheI.2.2.2 (vi0 + (128 : Int32)) (box_in hc2 hc18 B_cacheI.2.1)
      have F24 : Fld Z Z.heap b24 "java/lang/Integer" "value" "I" (.int vi0) := by have z := f24; simp only [box_v] at z; exact z
      refine gBoxload X23 H hZ e23 rfl (B_cacheI.1.ext O) (box_in hc2 hc18 B_cacheI.2.1) q24 d5_21 22 rfl ?_
      exact gRetA X23 H hlk hret rfl rfl rfl d5_22 e23 ⟨b24, rfl, N0, (Keep.refl h []), (A24.ext O), (F24.ext O)⟩
theorem rm41_10 (B : Bg Z a0 w_Tristate_NULL w_Tristate_State_NULL w_Tristate_State_VALUE w_cacheI cl_cacheI) (ro0 : Addr) (ro1 : Addr) (h : Heap) (O : Ext Z.heap h) (hp30 : Exa Z h ro0 cs1) (hp31 : Fld Z h ro0 cs1 "state" cs2 .null) (hp32 : Z.heap.size ≤ ro0) (hp35 : Fld Z h ro0 cs1 "value" cs3 .null) :
    Con l Z yM10 prog_47_method_1_code 3 none ({ frames := 1, cells := 0, slots := 0, locals := 12 } : Room) #[(.ref ro0), (.ref w_Tristate_State_VALUE), (.ref ro1)] h (fun v h' L => v = none ∧ Fr Z.heap.size L ∧ Keep h h' [ro0] ∧ Exa Z h' ro0 cs1 ∧ Fld Z h' ro0 cs1 "state" cs2 (.ref w_Tristate_State_VALUE) ∧ Fld Z h' ro0 cs1 "value" cs3 (.ref ro1)) := by
  have hw := B.1
  refine Con.of (plainFor_of_name pn10) (Ls := #[vR ro0, vR w_Tristate_State_VALUE, vR ro1]) (fun m => by first | rfl | (simp [entryFrame, mkF, argsToLocals, Value.category]; done)) ?_
  intro p e s m below meth c T0 X0 H hml hZ hown hnm hret hlk e0
  have N0 := Fr.nil Z.heap.size
  refine gAloadN X0 H d10_0 rfl rfl 1 rfl ?_
  refine gInitO X0 H hZ hown (hw _ wd57) (hw _ wd43) (hw _ wd44) e0 hml rfl (V := 0) (Nat.le_of_eq rfl) (by decide) (by decide) d10_1 4 rfl ?_
  intro T28 X28 e28
  refine gAloadN X28 H d10_4 rfl rfl 5 rfl ?_
  refine gAloadN X28 H d10_5 rfl rfl 6 rfl ?_
  refine gPutF X28 H hZ hown (hw _ wd14) Via.refl e28 hp31 hp30 (Or.inr ⟨(hw _ wd15), rfl, hnm⟩) (hw _ wd51) (ty := (.object "com/example/strict_absence/strictabsence/state/Tristate$State")) (by decide) (v' := (.ref w_Tristate_State_VALUE)) rfl rfl d10_6 9 rfl ?_
  intro T29 h29 X29 e29 W29 F29
  have O29 := extW O W29 hp32
  have N29 := Fr.snoc X29 N0 hp32
  refine gAloadN X29 H d10_9 rfl rfl 10 rfl ?_
  refine gAloadN X29 H d10_10 rfl rfl 11 rfl ?_
  have c34 := (hp30.wr W29)
  have c36 := (hp35.other W29 (Or.inr (sn0 hw)))
  refine gPutF X29 H hZ hown (hw _ wd24) Via.refl e29 c36 c34 (Or.inr ⟨(hw _ wd25), rfl, hnm⟩) (hw _ wd51) (ty := (.object "java/lang/Object")) (by decide) (v' := (.ref ro1)) rfl rfl d10_11 14 rfl ?_
  intro T33 h33 X33 e33 W33 F33
  have O33 := extW O29 W33 hp32
  have N33 := Fr.snoc X33 N29 hp32
  have c37 := (c34.wr W33)
  have c38 := (F29.other W33 (Or.inr (sn1 hw)))
  have K_39 := (Keep.refl h [ro0]).wr W29 (Or.inl (List.mem_of_getElem? (i := 0) rfl))
  have K_40 := K_39.wr W33 (Or.inl (List.mem_of_getElem? (i := 0) rfl))
  exact gRetV X33 H hlk hret d10_14 e33 ⟨rfl, N33, K_40, c37, c38, F33⟩
theorem rm45_9 (B : Bg Z a0 w_Tristate_NULL w_Tristate_State_NULL w_Tristate_State_VALUE w_cacheI cl_cacheI) (ro0 : Addr) (h : Heap) (O : Ext Z.heap h) :
    Con l Z yM9 prog_47_method_4_code 1 (some (.object "com/example/strict_absence/strictabsence/state/Tristate")) ({ frames := 2, cells := 1, slots := 2, locals := 27 } : Room) #[(.ref ro0)] h (fun v h' L => ∃ (b26 : Addr), v = some (.ref b26) ∧ Fr Z.heap.size L ∧ Keep h h' [] ∧ h.size ≤ b26 ∧ Exa Z h' b26 cs1 ∧ Fld Z h' b26 cs1 "state" cs2 (.ref w_Tristate_State_VALUE) ∧ Fld Z h' b26 cs1 "value" cs3 (.ref ro0)) := by
  have hw := B.1
  obtain ⟨S_w_Tristate_NULL, E_w_Tristate_NULL, S_w_Tristate_State_NULL, E_w_Tristate_State_NULL, S_w_Tristate_State_VALUE, E_w_Tristate_State_VALUE, F_w_Tristate_NULL_state, F_w_Tristate_NULL_value, S_high, S_cacheI, B_cacheI⟩ := B.2
  refine Con.of (plainFor_of_name pn9) (Ls := #[vR ro0]) (fun m => by first | rfl | (simp [entryFrame, mkF, argsToLocals, Value.category]; done)) ?_
  intro p e s m below meth c T0 X0 H hml hZ hown hnm hret hlk e0
  have M0 := Nat.le_refl h.size
  have N0 := Fr.nil Z.heap.size
  refine gAloadN X0 H d9_0 rfl rfl 1 rfl ?_
  refine gNonnullY X0 H d9_1 (by decide) 14 rfl ?_
  refine gNew X0 H hZ hown (hw _ wd50) (hw _ wd51) (hw _ wd2) e0 (by decide) (by decide) d9_14 17 rfl ?_
  intro T26 h26 b26 X26 e26 z26 E26 A26 D26
  have G_b26 := Nat.le_trans O.1 (Nat.le_of_eq z26)
  have sz_b26 := Nat.le_trans M0 (Nat.le_of_eq z26)
  have O26 := extT O E26
  have F26_state : Fld Z h26 b26 cs1 "state" cs2 .null := D26 (Or.inr (hw _ wd15)) (ty := (.object "com/example/strict_absence/strictabsence/state/Tristate$State")) (by decide)
  have F26_value : Fld Z h26 b26 cs1 "value" cs3 .null := D26 (Or.inr (hw _ wd25)) (ty := (.object "java/lang/Object")) (by decide)
  refine gDup X26 H d9_17 rfl 18 rfl ?_
  refine gGetS X26 H hZ hown (hw _ wd52) e26 (S_w_Tristate_State_VALUE.ext O26) d9_18 21 rfl ?_
  intro T27 X27 e27
  refine gAloadN X27 H d9_21 rfl rfl 22 rfl ?_
  refine gSpecial X27 H hZ hown rfl rfl (hw _ wd54) (hw _ wd55) (by decide) (hw _ wd56) (hw _ wd2) (rm41_10 B b26 ro0 _ O26 A26 F26_state G_b26 F26_value) e27 hml rfl pd3 rfl (W := 1) (argsL := [(.ref w_Tristate_State_VALUE), (.ref ro0)]) (rest := [(.ref b26)]) rfl rfl d9_22 25 rfl ?_
  intro v42 T42 L42 hq42 X42
  obtain ⟨rfl, N42q, K42, f42_0, f42_1, f42_2⟩ := hq42
  have O42 := extK O26 K42 (allS G_b26 all0)
  have N42 := Fr.app N0 N42q
  show Go _ _ _ _ (State.setTop _ (mkF _ 25 _ [(.ref b26)]))
  have K_43 := (Keep.refl h []).ext E26
  have K_44 := K_43.trans K42 (allS (Or.inr sz_b26) all0)
  exact gRetA X42 H hlk hret rfl rfl rfl d9_25 rfl ⟨b26, rfl, N42, K_44, sz_b26, f42_0, f42_1, f42_2⟩
theorem rm48_1 (B : Bg Z a0 w_Tristate_NULL w_Tristate_State_NULL w_Tristate_State_VALUE w_cacheI cl_cacheI) (ro0 : Addr) (h : Heap) (O : Ext Z.heap h) :
    Con l Z yM1 prog_47_method_5_code 2 (some (.object "com/example/strict_absence/strictabsence/state/Tristate")) ({ frames := 3, cells := 1, slots := 2, locals := 39 } : Room) #[(.ref ro0)] h (fun v h' L => ∃ (b46_0 : Addr), v = some (.ref b46_0) ∧ Fr Z.heap.size L ∧ Keep h h' [] ∧ h.size ≤ b46_0 ∧ Exa Z h' b46_0 cs1 ∧ Fld Z h' b46_0 cs1 "state" cs2 (.ref w_Tristate_State_VALUE) ∧ Fld Z h' b46_0 cs1 "value" cs3 (.ref ro0)) := by
  have hw := B.1
  refine Con.of (plainFor_of_name pn1) (Ls := #[vR ro0, .unset]) (fun m => by first | rfl | (simp [entryFrame, mkF, argsToLocals, Value.category]; done)) ?_
  intro p e s m below meth c T0 X0 H hml hZ hown hnm hret hlk e0
  have M0 := Nat.le_refl h.size
  have N0 := Fr.nil Z.heap.size
  refine gAloadN X0 H d1_0 rfl rfl 1 rfl ?_
  refine gNonnullY X0 H d1_1 (by decide) 11 rfl ?_
  refine gAloadN X0 H d1_11 rfl rfl 12 rfl ?_
  refine gStatic X0 H hZ hown (hw _ wd47) (hw _ wd48) (by decide) (hw _ wd49) (hw _ wd2) (rm45_9 B ro0 _ O) e0 hml rfl pd4 rfl (W := 0) (argsL := [(.ref ro0)]) (rest := []) rfl rfl d1_12 15 rfl ?_
  intro v46 T46 L46 hq46 X46
  obtain ⟨b46_0, rfl, N46q, K46, s46_0, f46_0, f46_1, f46_2⟩ := hq46
  have G_b46_0 := Nat.le_trans O.1 s46_0
  have sz_b46_0 := Nat.le_trans M0 s46_0
  have O46 := extK O K46 all0
  have N46 := Fr.app N0 N46q
  show Go _ _ _ _ (State.setTop _ (mkF _ 15 _ [(.ref b46_0)]))
  refine gAstoreN X46 H d1_15 rfl (Ls' := #[vR ro0, vR b46_0]) rfl 16 rfl ?_
  refine gAloadN X46 H d1_16 rfl rfl 17 rfl ?_
  have K_47 := (Keep.refl h []).trans K46 all0
  exact gRetA X46 H hlk hret rfl rfl rfl d1_17 rfl ⟨b46_0, rfl, N46, K_47, sz_b46_0, f46_0, f46_1, f46_2⟩
theorem rm53_3 (B : Bg Z a0 w_Tristate_NULL w_Tristate_State_NULL w_Tristate_State_VALUE w_cacheI cl_cacheI) (ro0 : Addr) (h : Heap) (O : Ext Z.heap h) (hp51 : Fld Z h ro0 cs1 "state" cs2 (.ref w_Tristate_State_VALUE)) :
    Con l Z yM3 prog_47_method_6_code 1 (some (.object "com/example/strict_absence/strictabsence/state/Tristate$State")) ({ frames := 0, cells := 0, slots := 0, locals := 0 } : Room) #[(.ref ro0)] h (fun v h' L => v = some (.ref w_Tristate_State_VALUE) ∧ h' = h ∧ L = []) := by
  have hw := B.1
  refine Con.of (plainFor_of_name pn3) (Ls := #[vR ro0]) (fun m => by first | rfl | (simp [entryFrame, mkF, argsToLocals, Value.category]; done)) ?_
  intro p e s m below meth c T0 X0 H hml hZ hown hnm hret hlk e0
  refine gAloadN X0 H d3_0 rfl rfl 1 rfl ?_
  refine gGetF X0 H hZ hown (hw _ wd14) Via.refl e0 hp51 d3_1 4 rfl ?_
  intro T52 X52 e52
  exact gRetA X52 H hlk hret rfl rfl rfl d3_4 e52 ⟨rfl, rfl, rfl⟩
theorem rm61_11 (B : Bg Z a0 w_Tristate_NULL w_Tristate_State_NULL w_Tristate_State_VALUE w_cacheI cl_cacheI) (ro0 : Addr) (ro1 : Addr) (h : Heap) (O : Ext Z.heap h) (hp56 : Fld Z h ro0 cs1 "state" cs2 (.ref w_Tristate_State_VALUE)) (hp59 : Fld Z h ro0 cs1 "value" cs3 (.ref ro1)) :
    Con l Z yM11 prog_47_method_10_code 1 (some (.object "java/lang/Object")) ({ frames := 0, cells := 0, slots := 0, locals := 0 } : Room) #[(.ref ro0)] h (fun v h' L => v = some (.ref ro1) ∧ h' = h ∧ L = []) := by
  have hw := B.1
  obtain ⟨S_w_Tristate_NULL, E_w_Tristate_NULL, S_w_Tristate_State_NULL, E_w_Tristate_State_NULL, S_w_Tristate_State_VALUE, E_w_Tristate_State_VALUE, F_w_Tristate_NULL_state, F_w_Tristate_NULL_value, S_high, S_cacheI, B_cacheI⟩ := B.2
  refine Con.of (plainFor_of_name pn11) (Ls := #[vR ro0]) (fun m => by first | rfl | (simp [entryFrame, mkF, argsToLocals, Value.category]; done)) ?_
  intro p e s m below meth c T0 X0 H hml hZ hown hnm hret hlk e0
  refine gAloadN X0 H d11_0 rfl rfl 1 rfl ?_
  refine gGetF X0 H hZ hown (hw _ wd14) Via.refl e0 hp56 d11_1 4 rfl ?_
  intro T57 X57 e57
  refine gGetS X57 H hZ hown (hw _ wd52) e57 (S_w_Tristate_State_VALUE.ext O) d11_4 7 rfl ?_
  intro T58 X58 e58
  refine gAcmp X58 H d11_7 rfl rfl (same := true) (decide_eq_true rfl) (by decide) 30 (by decide) ?_
  refine gAloadN X58 H d11_30 rfl rfl 31 rfl ?_
  refine gGetF X58 H hZ hown (hw _ wd24) Via.refl e58 hp59 d11_31 34 rfl ?_
  intro T60 X60 e60
  exact gRetA X60 H hlk hret rfl rfl rfl d11_34 e60 ⟨rfl, rfl, rfl⟩
theorem rm67_4 (B : Bg Z a0 w_Tristate_NULL w_Tristate_State_NULL w_Tristate_State_VALUE w_cacheI cl_cacheI) (ro0 : Addr) (ro1 : Addr) (h : Heap) (O : Ext Z.heap h) (hp65 : Fld Z h ro0 cs1 "value" cs3 (.ref ro1)) :
    Con l Z yM4 prog_47_method_11_code 1 (some (.object "java/lang/Object")) ({ frames := 0, cells := 0, slots := 0, locals := 0 } : Room) #[(.ref ro0)] h (fun v h' L => v = some (.ref ro1) ∧ h' = h ∧ L = []) := by
  have hw := B.1
  refine Con.of (plainFor_of_name pn4) (Ls := #[vR ro0]) (fun m => by first | rfl | (simp [entryFrame, mkF, argsToLocals, Value.category]; done)) ?_
  intro p e s m below meth c T0 X0 H hml hZ hown hnm hret hlk e0
  refine gAloadN X0 H d4_0 rfl rfl 1 rfl ?_
  refine gGetF X0 H hZ hown (hw _ wd24) Via.refl e0 hp65 d4_1 4 rfl ?_
  intro T66 X66 e66
  exact gRetA X66 H hlk hret rfl rfl rfl d4_4 e66 ⟨rfl, rfl, rfl⟩
theorem rm72_12 (B : Bg Z a0 w_Tristate_NULL w_Tristate_State_NULL w_Tristate_State_VALUE w_cacheI cl_cacheI) (ro0 : Addr) (vi1 : Int32) (h : Heap) (O : Ext Z.heap h) (hp70 : Fld Z h ro0 cs0 "value" "I" (.int vi1)) :
    Con l Z yM12 jdk_33_method_27_code 1 (some .int) ({ frames := 0, cells := 0, slots := 0, locals := 0 } : Room) #[(.ref ro0)] h (fun v h' L => v = some (.int vi1) ∧ h' = h ∧ L = []) := by
  have hw := B.1
  refine Con.of (plainFor_of_name pn12) (Ls := #[vR ro0]) (fun m => by first | rfl | (simp [entryFrame, mkF, argsToLocals, Value.category]; done)) ?_
  intro p e s m below meth c T0 X0 H hml hZ hown hnm hret hlk e0
  refine gAloadN X0 H d12_0 rfl rfl 1 rfl ?_
  refine gGetF X0 H hZ hown (hw _ wd45) Via.refl e0 hp70 d12_1 4 rfl ?_
  intro T71 X71 e71
  exact gRetI X71 H hlk hret d12_4 e71 ⟨rfl, rfl, rfl⟩
theorem rm76_2 (B : Bg Z a0 w_Tristate_NULL w_Tristate_State_NULL w_Tristate_State_VALUE w_cacheI cl_cacheI) (h : Heap) (O : Ext Z.heap h) :
    Con l Z yM2 prog_47_method_3_code 1 (some (.object "com/example/strict_absence/strictabsence/state/Tristate")) ({ frames := 0, cells := 0, slots := 0, locals := 0 } : Room) #[] h (fun v h' L => v = some (.ref w_Tristate_NULL) ∧ h' = h ∧ L = []) := by
  have hw := B.1
  obtain ⟨S_w_Tristate_NULL, E_w_Tristate_NULL, S_w_Tristate_State_NULL, E_w_Tristate_State_NULL, S_w_Tristate_State_VALUE, E_w_Tristate_State_VALUE, F_w_Tristate_NULL_state, F_w_Tristate_NULL_value, S_high, S_cacheI, B_cacheI⟩ := B.2
  refine Con.of (plainFor_of_name pn2) (Ls := #[.unset]) (fun m => by first | rfl | (simp [entryFrame, mkF, argsToLocals, Value.category]; done)) ?_
  intro p e s m below meth c T0 X0 H hml hZ hown hnm hret hlk e0
  refine gGetS X0 H hZ hown (hw _ wd7) e0 (S_w_Tristate_NULL.ext O) d2_0 3 rfl ?_
  intro T75 X75 e75
  refine gAstoreN X75 H d2_3 rfl (Ls' := #[vR w_Tristate_NULL]) rfl 4 rfl ?_
  refine gAloadN X75 H d2_4 rfl rfl 5 rfl ?_
  exact gRetA X75 H hlk hret rfl rfl rfl d2_5 e75 ⟨rfl, rfl, rfl⟩
theorem rm78_1 (B : Bg Z a0 w_Tristate_NULL w_Tristate_State_NULL w_Tristate_State_VALUE w_cacheI cl_cacheI) (h : Heap) (O : Ext Z.heap h) :
    Con l Z yM1 prog_47_method_5_code 2 (some (.object "com/example/strict_absence/strictabsence/state/Tristate")) ({ frames := 1, cells := 0, slots := 0, locals := 12 } : Room) #[.null] h (fun v h' L => v = some (.ref w_Tristate_NULL) ∧ h' = h ∧ L = []) := by
  have hw := B.1
  refine Con.of (plainFor_of_name pn1) (Ls := #[vN, .unset]) (fun m => by first | rfl | (simp [entryFrame, mkF, argsToLocals, Value.category]; done)) ?_
  intro p e s m below meth c T0 X0 H hml hZ hown hnm hret hlk e0
  have N0 := Fr.nil Z.heap.size
  refine gAloadN X0 H d1_0 rfl rfl 1 rfl ?_
  refine gNonnullN X0 H d1_1 4 rfl ?_
  refine gStatic X0 H hZ hown (hw _ wd4) (hw _ wd5) (by decide) (hw _ wd6) (hw _ wd2) (rm76_2 B _ O) e0 hml rfl pd8 rfl (W := 0) (argsL := []) (rest := []) rfl rfl d1_4 7 rfl ?_
  intro v77 T77 L77 hq77 X77
  obtain ⟨rfl, e77, rfl⟩ := hq77
  have N77 := Fr.app N0 (Fr.nil _)
  show Go _ _ _ _ (State.setTop _ (mkF _ 7 _ [(.ref w_Tristate_NULL)]))
  refine gAstoreN X77 H d1_7 rfl (Ls' := #[vN, vR w_Tristate_NULL]) rfl 8 rfl ?_
  refine gGoto X77 H d1_8 (by decide) 16 rfl ?_
  refine gAloadN X77 H d1_16 rfl rfl 17 rfl ?_
  exact gRetA X77 H hlk hret rfl rfl rfl d1_17 e77 ⟨rfl, rfl, rfl⟩
theorem rm81_3 (B : Bg Z a0 w_Tristate_NULL w_Tristate_State_NULL w_Tristate_State_VALUE w_cacheI cl_cacheI) (h : Heap) (O : Ext Z.heap h) :
    Con l Z yM3 prog_47_method_6_code 1 (some (.object "com/example/strict_absence/strictabsence/state/Tristate$State")) ({ frames := 0, cells := 0, slots := 0, locals := 0 } : Room) #[(.ref w_Tristate_NULL)] h (fun v h' L => v = some (.ref w_Tristate_State_NULL) ∧ h' = h ∧ L = []) := by
  have hw := B.1
  obtain ⟨S_w_Tristate_NULL, E_w_Tristate_NULL, S_w_Tristate_State_NULL, E_w_Tristate_State_NULL, S_w_Tristate_State_VALUE, E_w_Tristate_State_VALUE, F_w_Tristate_NULL_state, F_w_Tristate_NULL_value, S_high, S_cacheI, B_cacheI⟩ := B.2
  refine Con.of (plainFor_of_name pn3) (Ls := #[vR w_Tristate_NULL]) (fun m => by first | rfl | (simp [entryFrame, mkF, argsToLocals, Value.category]; done)) ?_
  intro p e s m below meth c T0 X0 H hml hZ hown hnm hret hlk e0
  refine gAloadN X0 H d3_0 rfl rfl 1 rfl ?_
  refine gGetF X0 H hZ hown (hw _ wd14) Via.refl e0 (F_w_Tristate_NULL_state.ext O) d3_1 4 rfl ?_
  intro T80 X80 e80
  exact gRetA X80 H hlk hret rfl rfl rfl d3_4 e80 ⟨rfl, rfl, rfl⟩
theorem rm85_4 (B : Bg Z a0 w_Tristate_NULL w_Tristate_State_NULL w_Tristate_State_VALUE w_cacheI cl_cacheI) (h : Heap) (O : Ext Z.heap h) :
    Con l Z yM4 prog_47_method_11_code 1 (some (.object "java/lang/Object")) ({ frames := 0, cells := 0, slots := 0, locals := 0 } : Room) #[(.ref w_Tristate_NULL)] h (fun v h' L => v = some .null ∧ h' = h ∧ L = []) := by
  have hw := B.1
  obtain ⟨S_w_Tristate_NULL, E_w_Tristate_NULL, S_w_Tristate_State_NULL, E_w_Tristate_State_NULL, S_w_Tristate_State_VALUE, E_w_Tristate_State_VALUE, F_w_Tristate_NULL_state, F_w_Tristate_NULL_value, S_high, S_cacheI, B_cacheI⟩ := B.2
  refine Con.of (plainFor_of_name pn4) (Ls := #[vR w_Tristate_NULL]) (fun m => by first | rfl | (simp [entryFrame, mkF, argsToLocals, Value.category]; done)) ?_
  intro p e s m below meth c T0 X0 H hml hZ hown hnm hret hlk e0
  refine gAloadN X0 H d4_0 rfl rfl 1 rfl ?_
  refine gGetF X0 H hZ hown (hw _ wd24) Via.refl e0 (F_w_Tristate_NULL_value.ext O) d4_1 4 rfl ?_
  intro T84 X84 e84
  exact gRetA X84 H hlk hret rfl rfl rfl d4_4 e84 ⟨rfl, rfl, rfl⟩
theorem lawAll (B : Bg Z a0 w_Tristate_NULL w_Tristate_State_NULL w_Tristate_State_VALUE w_cacheI cl_cacheI) (p0 : Int32) (p1 : Int32) :
    Con l Z x code maxLocals ret room_1 #[(.int p0), (.int p1)] Z.heap (fun v h' L => v = some (.int 1) ∧ Fr Z.heap.size L) := by
  have hw := B.1
  obtain ⟨S_w_Tristate_NULL, E_w_Tristate_NULL, S_w_Tristate_State_NULL, E_w_Tristate_State_NULL, S_w_Tristate_State_VALUE, E_w_Tristate_State_VALUE, F_w_Tristate_NULL_state, F_w_Tristate_NULL_value, S_high, S_cacheI, B_cacheI⟩ := B.2
  refine Con.of (plainFor_of_name pn0) (Ls := #[vI p0, vI p1, .unset, .unset, .unset, .unset, .unset, .unset]) (fun m => by first | rfl | (simp [entryFrame, mkF, argsToLocals, Value.category, maxLocals]; done)) ?_
  intro p e s m below meth c T0 X0 H hml hZ hown hnm hret hlk e0
  have O0 := extR Z.heap
  have M0 := Nat.le_refl Z.heap.size
  have N0 := Fr.nil Z.heap.size
  refine gIloadN X0 H at_0 rfl 1 rfl ?_
  refine gIconst X0 H at_1 (z := 1) rfl 2 rfl ?_
  refine g_iand X0 H at_2 (z := (p1 &&& (1 : Int32))) rfl 3 rfl ?_
  by_cases hc1 : (p1 &&& (1 : Int32)) = (0 : Int32)
  · refine gIfY X0 H at_3 ((if0 _ _).trans (teq hc1).1) (by decide) 10 rfl ?_
    refine gIconst X0 H at_10 (z := 0) rfl 11 rfl ?_
    refine gIstoreN X0 H at_11 (Ls' := #[vI p0, vI p1, vI 0, .unset, .unset, .unset, .unset, .unset]) rfl 12 rfl ?_
    refine gIloadN X0 H at_12 rfl 13 rfl ?_
    refine gIfY X0 H at_13 (by decide) (by decide) 20 rfl ?_
    refine gIloadN X0 H at_20 rfl 21 rfl ?_
    refine gStatic X0 H hZ hown (hw _ wd26) (hw _ wd27) (by decide) (hw _ wd29) (hw _ wd28) (boxI B p0 _ O0) e0 hml rfl pd2 rfl (W := 0) (argsL := [(.int p0)]) (rest := []) rfl rfl at_21 24 rfl ?_
    intro v25 T25 L25 hq25 X25
    obtain ⟨b25, rfl, N25q, K25, f25_0, f25_1⟩ := hq25
    have O25 := extK O0 K25 all0
    have N25 := Fr.app N0 N25q
    show Go _ _ _ _ (State.setTop _ (mkF _ 24 _ [(.ref b25)]))
    refine gAstoreN X25 H at_24 rfl (Ls' := #[vI p0, vI p1, vI 0, vR b25, .unset, .unset, .unset, .unset]) rfl 25 rfl ?_
    refine gAloadN X25 H at_25 rfl rfl 26 rfl ?_
    refine gStatic X25 H hZ hown (hw _ wd0) (hw _ wd1) (by decide) (hw _ wd3) (hw _ wd2) (rm48_1 B b25 _ O25) rfl hml rfl pd4 rfl (W := 0) (argsL := [(.ref b25)]) (rest := []) rfl rfl at_26 29 rfl ?_
    intro v49 T49 L49 hq49 X49
    obtain ⟨b49_0, rfl, N49q, K49, s49_0, f49_0, f49_1, f49_2⟩ := hq49
    have M50 := (Nat.le_trans M0 K25.1)
    have G_b49_0 := Nat.le_trans O25.1 s49_0
    have sz_b49_0 := Nat.le_trans M50 s49_0
    have ne_b25_b49_0 : b25 ≠ b49_0 := neB f25_0.lt s49_0
    have O49 := extK O25 K49 all0
    have N49 := Fr.app N25 N49q
    show Go _ _ _ _ (State.setTop _ (mkF _ 29 _ [(.ref b49_0)]))
    refine gAstore X49 H at_29 rfl (Ls' := #[vI p0, vI p1, vI 0, vR b25, vR b49_0, .unset, .unset, .unset]) rfl 31 rfl ?_
    refine gAload X49 H at_31 rfl rfl 33 rfl ?_
    refine gVirt X49 H hZ hown (hw _ wd9) (hw _ wd10) (hw _ wd12) (hw _ wd11) (by decide) f49_0 (hw _ wd13) (hw _ wd2) (rm53_3 B b49_0 _ O49 f49_1) rfl hml rfl pd5 rfl (W := 0) (argsL := []) (rest := []) rfl rfl at_33 36 rfl ?_
    intro v54 T54 L54 hq54 X54
    obtain ⟨rfl, e54, rfl⟩ := hq54
    have N54 := Fr.app N49 (Fr.nil _)
    show Go _ _ _ _ (State.setTop _ (mkF _ 36 _ [(.ref w_Tristate_State_VALUE)]))
    refine gAstore X54 H at_36 rfl (Ls' := #[vI p0, vI p1, vI 0, vR b25, vR b49_0, vR w_Tristate_State_VALUE, .unset, .unset]) rfl 38 rfl ?_
    refine gIloadN X54 H at_38 rfl 39 rfl ?_
    refine gIfY X54 H at_39 (by decide) (by decide) 64 rfl ?_
    refine gAload X54 H at_64 rfl rfl 66 rfl ?_
    refine gGetS X54 H hZ hown (hw _ wd58) e54 (S_w_Tristate_State_VALUE.ext O49) at_66 69 rfl ?_
    intro T55 X55 e55
    refine gAcmp X55 H at_69 rfl rfl (same := true) (decide_eq_true rfl) (by decide) 74 (by decide) ?_
    refine gAload X55 H at_74 rfl rfl 76 rfl ?_
    refine gVirt X55 H hZ hown (hw _ wd59) (hw _ wd60) (hw _ wd62) (hw _ wd61) (by decide) f49_0 (hw _ wd63) (hw _ wd2) (rm61_11 B b49_0 b25 _ O49 f49_1 f49_2) e55 hml rfl pd6 rfl (W := 0) (argsL := []) (rest := []) rfl rfl at_76 79 rfl ?_
    intro v62 T62 L62 hq62 X62
    obtain ⟨rfl, e62, rfl⟩ := hq62
    have N62 := Fr.app N54 (Fr.nil _)
    show Go _ _ _ _ (State.setTop _ (mkF _ 79 _ [(.ref b25)]))
    have c64 := (f25_0.keep K49)
    refine gCastY X62 H hZ hown (hw _ wd64) e62 (Ins.self c64) at_79 82 rfl ?_
    intro T63 X63 e63
    refine gAstore X63 H at_82 rfl (Ls' := #[vI p0, vI p1, vI 0, vR b25, vR b49_0, vR w_Tristate_State_VALUE, vR b25, .unset]) rfl 84 rfl ?_
    refine gAload X63 H at_84 rfl rfl 86 rfl ?_
    refine gVirt X63 H hZ hown (hw _ wd19) (hw _ wd20) (hw _ wd22) (hw _ wd21) (by decide) f49_0 (hw _ wd23) (hw _ wd2) (rm67_4 B b49_0 b25 _ O49 f49_2) e63 hml rfl pd6 rfl (W := 0) (argsL := []) (rest := []) rfl rfl at_86 89 rfl ?_
    intro v68 T68 L68 hq68 X68
    obtain ⟨rfl, e68, rfl⟩ := hq68
    have N68 := Fr.app N62 (Fr.nil _)
    show Go _ _ _ _ (State.setTop _ (mkF _ 89 _ [(.ref b25)]))
    refine gCastY X68 H hZ hown (hw _ wd64) e68 (Ins.self c64) at_89 92 rfl ?_
    intro T69 X69 e69
    refine gAstore X69 H at_92 rfl (Ls' := #[vI p0, vI p1, vI 0, vR b25, vR b49_0, vR w_Tristate_State_VALUE, vR b25, vR b25]) rfl 94 rfl ?_
    refine gAload X69 H at_94 rfl rfl 96 rfl ?_
    refine gAloadN X69 H at_96 rfl rfl 97 rfl ?_
    refine gAcmp X69 H at_97 rfl rfl (same := true) (decide_eq_true rfl) (by decide) 100 (by decide) ?_
    refine gAload X69 H at_100 rfl rfl 102 rfl ?_
    refine gAloadN X69 H at_102 rfl rfl 103 rfl ?_
    refine gAcmp X69 H at_103 rfl rfl (same := true) (decide_eq_true rfl) (by decide) 106 (by decide) ?_
    refine gAload X69 H at_106 rfl rfl 108 rfl ?_
    have c73 := (f25_1.keep K49 nin0)
    refine gVirt X69 H hZ hown (hw _ wd65) (hw _ wd66) (hw _ wd68) (hw _ wd67) (by decide) c64 (hw _ wd69) (hw _ wd28) (rm72_12 B b25 p0 _ O49 c73) e69 hml rfl pd7 rfl (W := 0) (argsL := []) (rest := []) rfl rfl at_108 111 rfl ?_
    intro v74 T74 L74 hq74 X74
    obtain ⟨rfl, e74, rfl⟩ := hq74
    have N74 := Fr.app N68 (Fr.nil _)
    show Go _ _ _ _ (State.setTop _ (mkF _ 111 _ [(.int p0)]))
    refine gIloadN X74 H at_111 rfl 112 rfl ?_
    refine gCmpN X74 H at_112 (teq rfl).2 115 rfl ?_
    refine gIconst X74 H at_115 (z := 1) rfl 116 rfl ?_
    refine gGoto X74 H at_116 (by decide) 120 rfl ?_
    exact gRetN X74 H hlk hret (t := .boolean) (by simp) at_120 e74 ⟨rfl, N74⟩
  · refine gIfN X0 H at_3 ((if0 _ _).trans (feq hc1).1) 6 rfl ?_
    refine gIconst X0 H at_6 (z := 1) rfl 7 rfl ?_
    refine gGoto X0 H at_7 (by decide) 11 rfl ?_
    refine gIstoreN X0 H at_11 (Ls' := #[vI p0, vI p1, vI 1, .unset, .unset, .unset, .unset, .unset]) rfl 12 rfl ?_
    refine gIloadN X0 H at_12 rfl 13 rfl ?_
    refine gIfN X0 H at_13 (by decide) 16 rfl ?_
    refine gNull X0 H at_16 17 rfl ?_
    refine gGoto X0 H at_17 (by decide) 24 rfl ?_
    refine gAstoreN X0 H at_24 rfl (Ls' := #[vI p0, vI p1, vI 1, vN, .unset, .unset, .unset, .unset]) rfl 25 rfl ?_
    refine gAloadN X0 H at_25 rfl rfl 26 rfl ?_
    refine gStatic X0 H hZ hown (hw _ wd0) (hw _ wd1) (by decide) (hw _ wd3) (hw _ wd2) (rm78_1 B _ O0) e0 hml rfl pd4 rfl (W := 0) (argsL := [.null]) (rest := []) rfl rfl at_26 29 rfl ?_
    intro v79 T79 L79 hq79 X79
    obtain ⟨rfl, e79, rfl⟩ := hq79
    have N79 := Fr.app N0 (Fr.nil _)
    show Go _ _ _ _ (State.setTop _ (mkF _ 29 _ [(.ref w_Tristate_NULL)]))
    refine gAstore X79 H at_29 rfl (Ls' := #[vI p0, vI p1, vI 1, vN, vR w_Tristate_NULL, .unset, .unset, .unset]) rfl 31 rfl ?_
    refine gAload X79 H at_31 rfl rfl 33 rfl ?_
    refine gVirt X79 H hZ hown (hw _ wd9) (hw _ wd10) (hw _ wd12) (hw _ wd11) (by decide) E_w_Tristate_NULL (hw _ wd13) (hw _ wd2) (rm81_3 B _ O0) e79 hml rfl pd5 rfl (W := 0) (argsL := []) (rest := []) rfl rfl at_33 36 rfl ?_
    intro v82 T82 L82 hq82 X82
    obtain ⟨rfl, e82, rfl⟩ := hq82
    have N82 := Fr.app N79 (Fr.nil _)
    show Go _ _ _ _ (State.setTop _ (mkF _ 36 _ [(.ref w_Tristate_State_NULL)]))
    refine gAstore X82 H at_36 rfl (Ls' := #[vI p0, vI p1, vI 1, vN, vR w_Tristate_NULL, vR w_Tristate_State_NULL, .unset, .unset]) rfl 38 rfl ?_
    refine gIloadN X82 H at_38 rfl 39 rfl ?_
    refine gIfN X82 H at_39 (by decide) 42 rfl ?_
    refine gAload X82 H at_42 rfl rfl 44 rfl ?_
    refine gGetS X82 H hZ hown (hw _ wd18) e82 S_w_Tristate_State_NULL at_44 47 rfl ?_
    intro T83 X83 e83
    refine gAcmp X83 H at_47 rfl rfl (same := true) (decide_eq_true rfl) (by decide) 50 (by decide) ?_
    refine gAload X83 H at_50 rfl rfl 52 rfl ?_
    refine gVirt X83 H hZ hown (hw _ wd19) (hw _ wd20) (hw _ wd22) (hw _ wd21) (by decide) E_w_Tristate_NULL (hw _ wd23) (hw _ wd2) (rm85_4 B _ O0) e83 hml rfl pd6 rfl (W := 0) (argsL := []) (rest := []) rfl rfl at_52 55 rfl ?_
    intro v86 T86 L86 hq86 X86
    obtain ⟨rfl, e86, rfl⟩ := hq86
    have N86 := Fr.app N82 (Fr.nil _)
    show Go _ _ _ _ (State.setTop _ (mkF _ 55 _ [.null]))
    refine gNonnullN X86 H at_55 58 rfl ?_
    refine gIconst X86 H at_58 (z := 1) rfl 59 rfl ?_
    refine gGoto X86 H at_59 (by decide) 63 rfl ?_
    exact gRetN X86 H hlk hret (t := .boolean) (by simp) at_63 e86 ⟨rfl, N86⟩
end Walk
set_option maxHeartbeats 4000000 in
theorem comes_1 {Post : Tables → Env → Array Value → State → Outcome → State → Prop} (hpost : ∀ tb e args s v u, (limb_1_1.after args s (.returned v) u = true ∧ limb_1_2.after args s (.returned v) u = true ∧ True) → FrameEnd s (.returned v) u (Jvm.fieldLocs frame_1_writes args s ++ Jvm.arrayLocs frame_1_arrays args s ++ Jvm.staticLocs frame_1_statics s) 16 128 → Post tb e args s (.returned v) u) :
    ArmFor flags0 classFile x code maxLocals ret World_1 tables_1 room_1 Calls_1 rest_1 Pre_1 Post := by
  intro l hfl _ _ p e ha hc hk s m args below hf hA hF happ hP
  obtain ⟨hcalls, hrest, hpre⟩ := hP
  obtain ⟨-, -, -, hnamed, -, -, -, hat⟩ := (Spec.applies_iff hf).mp happ
  obtain ⟨hg, hn⟩ := and_e (Cond.before_iff.mp (show (Jvm.Cond.and given_1 narrow_1).before args s = true from hpre))
  obtain ⟨n1, n2⟩ := and_e hg
  obtain ⟨n3, n4⟩ := and_e n2
  obtain ⟨w0, w1, rfl⟩ : ∃ w0 w1 : Value, args = #[w0, w1] := by
    have hs : args.size = 2 := by simpa [Cond.value, given_1] using n1
    obtain ⟨L⟩ := args
    match L, hs with
    | [w0, w1], _ => exact ⟨w0, w1, rfl⟩
  obtain ⟨hsets, hown0⟩ := atoms_of _ (rest_1_c_eq ▸ (show rest_1_c.before _ s = true from hrest))
  have hfit : Fit s := fun {y c} hc i hi => by
    obtain ⟨ha, rfl⟩ := Array.getElem?_eq_some_iff.mp hc
    have q := List.all_eq_true.mp ((Array.all_eq_true_iff_forall_mem.mp hF) _ (Array.getElem_mem ha)) i (List.mem_range.mpr hi)
    simpa [Array.getElem?_eq_getElem hi] using q
  have hw := fun d (hd : d ∈ tables_1) => atoms_spec (ws := Jvm.Cond.code x code maxLocals ret :: tables_1) hat d (List.mem_cons_of_mem _ hd)
  obtain ⟨i0, ei0⟩ := is_v n3
  obtain rfl : w0 = (.int i0) := Option.some.inj ei0
  obtain ⟨i1, ei1⟩ := is_v n4
  obtain rfl : w1 = (.int i1) := Option.some.inj ei1
  obtain ⟨n5, n6⟩ := and_e hn
  obtain ⟨n7, n8⟩ := and_e n6
  obtain ⟨n9, n10⟩ := and_e n8
  obtain ⟨n11, n12⟩ := and_e n10
  obtain ⟨w_Tristate_NULL, ev_w_Tristate_NULL⟩ := exa_v n5
  obtain ⟨w_Tristate_State_NULL, ev_w_Tristate_State_NULL⟩ := exa_v n7
  obtain ⟨w_Tristate_State_VALUE, ev_w_Tristate_State_VALUE⟩ := exa_v n12
  obtain ⟨w_cacheI, ev_w_cacheI⟩ := arr_v (Cond.before_iff.mp (hsets _ (List.mem_of_getElem? (i := 4) rfl)))
  obtain ⟨cl_cacheI, Ar_w_cacheI⟩ := Arr.start ev_w_cacheI (Cond.before_iff.mp (hsets _ (List.mem_of_getElem? (i := 4) rfl)))
  obtain ⟨ln_w_cacheI, le_w_cacheI⟩ := Jvm.Free.IntBox.length_fwd (hsets _ (List.mem_of_getElem? (i := 6) rfl)) ev_w_cacheI Ar_w_cacheI.1 Ar_w_cacheI.2.1 Ar_w_cacheI.2.2
  have W : World s w_Tristate_NULL w_Tristate_State_NULL w_Tristate_State_VALUE w_cacheI cl_cacheI := ⟨Sta.start ev_w_Tristate_NULL (Or.inr ⟨(hw _ wd2), (hw _ wd8)⟩), Exa.start ev_w_Tristate_NULL n5, Sta.start ev_w_Tristate_State_NULL (Or.inr ⟨(hw _ wd16), (hw _ wd17)⟩), Exa.start ev_w_Tristate_State_NULL n7, Sta.start ev_w_Tristate_State_VALUE (Or.inr ⟨(hw _ wd16), (hw _ wd53)⟩), Exa.start ev_w_Tristate_State_VALUE n12, eqR ev_w_Tristate_NULL ev_w_Tristate_State_NULL n9, eqN ev_w_Tristate_NULL n11, Sta.start (eqv_i (Term.int_eval 127) (Cond.before_iff.mp (hsets _ (List.mem_of_getElem? (i := 3) rfl)))) (Or.inl (hsets _ (List.mem_of_getElem? (i := 1) rfl))), Sta.start ev_w_cacheI (Or.inr ⟨(hw _ wd71), (hsets _ (List.mem_of_getElem? (i := 2) rfl))⟩), Bxs.start (fun _ => ev_w_cacheI) Ar_w_cacheI ln_w_cacheI le_w_cacheI (by decide) (Cond.before_iff.mp (hsets _ (List.mem_of_getElem? (i := 7) rfl))) (fun X j nn q => eqv_i (by simp [Term.eval, (back32 nn).1]) q)⟩
  have B : Bg s _ w_Tristate_NULL w_Tristate_State_NULL w_Tristate_State_VALUE w_cacheI cl_cacheI := ⟨hw, W⟩
  obtain ⟨n, o, h1, h2, h3, _, L, rfl, ⟨rfl, N⟩, hq⟩ := (lawAll (l := l) B i0 i1) tables_1 p e ha hc hk s m _ below hf ((Spec.applies_iff_loose hf).mp happ).1 ⟨rfl, State.Warmed39.refl s, rfl⟩ trivial
  refine ⟨n, _, h1, h2, h3, hpost _ _ _ _ _ _ ⟨Cond.after_iff.mpr rfl, Cond.after_iff.mpr (eq_i res_at (Term.int_eval (1)) rfl), trivial⟩ ⟨hq.1, hq.2.1, (hq.2.2.sift fun y hy => Or.inr (N y hy)).mono (by decide) (by decide)⟩⟩
theorem main_1_1 : Claimed_1_1 := comes_1 fun _ _ _ _ _ _ h hF => ⟨h.1, hF⟩
theorem main_1_2 : Claimed_1_2 := comes_1 fun _ _ _ _ _ _ h hF => ⟨h.2.1, hF⟩
end Jvm.Pilot.@@N@@
namespace Jvm.Pilot.@@N@@
open Jvm Jvm.ClassFile Sem Op Lib Jvm.Free Jvm.Stand Jvm.Pilot.@@N@@.Jvm.D
/-! MADE BY PROGRAM (witnessworld.py) out of the Statement's table words and the real class files: 18 classes; the members and pool entries that the words name. The judged class is class 1, her method 1. -/
namespace start1
open Jvm.ClassFile
def u (s : String) : CpInfo := .utf8 (stringToUtf16 s)
/-- a pool by its gaps: so many unusable entries, then the entry; so many at the end -/
def gap : Nat → List CpInfo → List CpInfo
  | 0, r => r
  | n + 1, r => .unusable :: gap n r
def poolList (es : List (Nat × CpInfo)) (last : Nat) : List CpInfo := es.foldr (fun e r => gap e.1 (e.2 :: r)) (gap last [])
def pool (es : List (Nat × CpInfo)) (last : Nat) : Array CpInfo := ⟨poolList es last⟩
def fileOf (pool : Array CpInfo) (this : Nat) (attrs : Array Attribute := #[]) (ms : Array MethodInfo := #[]) (fl : Nat := 33) (sup : Nat := 0) (ifs : Array Nat := #[]) (fds : Array FieldInfo := #[]) : ClassFile where
  minorVersion := 0
  majorVersion := 65
  constantPool := pool
  accessFlags := fl
  thisClass := this
  superClass := sup
  interfaces := ifs
  fields := fds
  methods := ms
  attributes := attrs
def plain (name : String) (sup : Option ClassId) : Class where
  name := name
  kind := .ordinary
  loader := none
  accessFlags := 33
  super := sup
  interfaces := #[]
  cf := none
  fields := #[]
  methods := #[]
  instanceTypes := #[]
  staticTypes := #[]
  resolved := #[]
  callSites := []
  init := .initialized
  statics := none
  mirror := none

def pool0 : Array CpInfo := pool [(5, u "<init>"), (0, u "()V"), (1, .class_ 10), (1, u "java/lang/Object")] 113

def k0c0 : Code := { maxStack := 0, maxLocals := 1, code := object_method_1_code, exceptionTable := #[], attributes := #[] }
def k0m0 : Method := { name := "<init>", desc := "()V", sig := { parameters := [], returnType := none }, accessFlags := 1, code := some k0c0 }
/-- java/lang/Object -/
def k0 : Class := { plain "java/lang/Object" none with
  accessFlags := 33
  interfaces := #[]
  cf := some (fileOf pool0 8 #[] #[{ accessFlags := 1, nameIndex := 5, descriptorIndex := 6, attributes := #[] }] 33 0 #[] #[])
  fields := #[]
  methods := #[k0m0]
  instanceTypes := #[]
  staticTypes := #[]
  resolved := Array.replicate 124 none
  statics := none }

def pool1 : Array CpInfo := pool [(2, .class_ 4), (1, u "java/lang/Object"), (0, u "<init>"), (0, u "()V"), (0, .methodref 8 9), (0, .class_ 10), (0, .nameAndType 11 12), (0, u "java/lang/Integer"), (0, u "valueOf"), (0, u "(I)Ljava/lang/Integer;"), (0, .methodref 14 15), (0, .class_ 16), (0, .nameAndType 17 18), (0, u "com/example/strict_absence/strictabsence/state/Tristate"), (0, u "ofNullable"), (0, u "(Ljava/lang/Object;)Lcom/example/strict_absence/strictabsence/state/Tristate;"), (0, .methodref 14 20), (0, .nameAndType 21 22), (0, u "state"), (0, u "()Lcom/example/strict_absence/strictabsence/state/Tristate$State;"), (0, .fieldref 24 25), (0, .class_ 26), (0, .nameAndType 27 28), (0, u "com/example/strict_absence/strictabsence/state/Tristate$State"), (0, u "NULL"), (0, u "Lcom/example/strict_absence/strictabsence/state/Tristate$State;"), (0, .methodref 14 30), (0, .nameAndType 31 32), (0, u "orNull"), (0, u "()Ljava/lang/Object;"), (0, .fieldref 24 34), (0, .nameAndType 35 28), (0, u "VALUE"), (0, .methodref 14 37), (0, .nameAndType 38 32), (0, u "value"), (0, .methodref 8 40), (0, .nameAndType 41 42), (0, u "intValue"), (0, u "()I"), (0, .class_ 44), (0, u "com/example/strict_absence/strictabsence/state/TristateOfNullablePinLaw"), (2, u "law"), (0, u "(II)Z")] 5

def k1m0 : Method := { name := "<init>", desc := "()V", sig := { parameters := [], returnType := none }, accessFlags := 1, code := none }
def k1c1 : Code := { maxStack := 2, maxLocals := 8, code := code, exceptionTable := #[], attributes := #[] }
def k1m1 : Method := { name := "law", desc := "(II)Z", sig := { parameters := [.int, .int], returnType := some .boolean }, accessFlags := 9, code := some k1c1 }
/-- com/example/strict_absence/strictabsence/state/TristateOfNullablePinLaw -/
def k1 : Class := { plain "com/example/strict_absence/strictabsence/state/TristateOfNullablePinLaw" (some 0) with
  accessFlags := 49
  interfaces := #[]
  cf := some (fileOf pool1 43 #[] #[{ accessFlags := 1, nameIndex := 5, descriptorIndex := 6, attributes := #[] }, { accessFlags := 9, nameIndex := 47, descriptorIndex := 48, attributes := #[] }] 49 2 #[] #[])
  fields := #[]
  methods := #[k1m0, k1m1]
  instanceTypes := #[]
  staticTypes := #[]
  resolved := Array.replicate 54 none
  statics := none }

def pool2 : Array CpInfo := pool [(1, .methodref 2 3), (0, .class_ 4), (0, .nameAndType 5 6), (0, u "java/lang/Object"), (0, u "<init>"), (0, u "()V"), (0, .fieldref 8 9), (0, .class_ 10), (0, .nameAndType 11 12), (0, u "com/example/strict_absence/strictabsence/state/Tristate"), (0, u "state"), (0, u "Lcom/example/strict_absence/strictabsence/state/Tristate$State;"), (0, .fieldref 8 14), (0, .nameAndType 15 16), (0, u "value"), (0, u "Ljava/lang/Object;"), (2, u "ABSENT"), (0, u "Lcom/example/strict_absence/strictabsence/state/Tristate;"), (0, .fieldref 8 22), (0, .nameAndType 23 20), (0, u "NULL"), (7, .fieldref 32 33), (0, .class_ 34), (0, .nameAndType 35 12), (0, u "com/example/strict_absence/strictabsence/state/Tristate$State"), (0, u "VALUE"), (0, .methodref 8 37), (0, .nameAndType 5 38), (0, u "(Lcom/example/strict_absence/strictabsence/state/Tristate$State;Ljava/lang/Object;)V"), (0, .methodref 8 40), (0, .nameAndType 41 42), (0, u "ofNull"), (0, u "()Lcom/example/strict_absence/strictabsence/state/Tristate;"), (0, .methodref 8 44), (0, .nameAndType 45 46), (0, u "of"), (0, u "(Ljava/lang/Object;)Lcom/example/strict_absence/strictabsence/state/Tristate;"), (42, u "ofNullable"), (0, u "()Lcom/example/strict_absence/strictabsence/state/Tristate$State;"), (4, u "()Ljava/lang/Object;"), (1, u "orNull")] 27

def k2c0 : Code := { maxStack := 2, maxLocals := 3, code := prog_47_method_1_code, exceptionTable := #[], attributes := #[] }
def k2m0 : Method := { name := "<init>", desc := "(Lcom/example/strict_absence/strictabsence/state/Tristate$State;Ljava/lang/Object;)V", sig := { parameters := [(.object "com/example/strict_absence/strictabsence/state/Tristate$State"), (.object "java/lang/Object")], returnType := none }, accessFlags := 2, code := some k2c0 }
def k2c1 : Code := { maxStack := 1, maxLocals := 1, code := prog_47_method_3_code, exceptionTable := #[], attributes := #[] }
def k2m1 : Method := { name := "ofNull", desc := "()Lcom/example/strict_absence/strictabsence/state/Tristate;", sig := { parameters := [], returnType := some (.object "com/example/strict_absence/strictabsence/state/Tristate") }, accessFlags := 9, code := some k2c1 }
def k2c2 : Code := { maxStack := 4, maxLocals := 1, code := prog_47_method_4_code, exceptionTable := #[], attributes := #[] }
def k2m2 : Method := { name := "of", desc := "(Ljava/lang/Object;)Lcom/example/strict_absence/strictabsence/state/Tristate;", sig := { parameters := [(.object "java/lang/Object")], returnType := some (.object "com/example/strict_absence/strictabsence/state/Tristate") }, accessFlags := 9, code := some k2c2 }
def k2c3 : Code := { maxStack := 1, maxLocals := 2, code := prog_47_method_5_code, exceptionTable := #[], attributes := #[] }
def k2m3 : Method := { name := "ofNullable", desc := "(Ljava/lang/Object;)Lcom/example/strict_absence/strictabsence/state/Tristate;", sig := { parameters := [(.object "java/lang/Object")], returnType := some (.object "com/example/strict_absence/strictabsence/state/Tristate") }, accessFlags := 9, code := some k2c3 }
def k2c4 : Code := { maxStack := 1, maxLocals := 1, code := prog_47_method_6_code, exceptionTable := #[], attributes := #[] }
def k2m4 : Method := { name := "state", desc := "()Lcom/example/strict_absence/strictabsence/state/Tristate$State;", sig := { parameters := [], returnType := some (.object "com/example/strict_absence/strictabsence/state/Tristate$State") }, accessFlags := 1, code := some k2c4 }
def k2c5 : Code := { maxStack := 3, maxLocals := 1, code := prog_47_method_10_code, exceptionTable := #[], attributes := #[] }
def k2m5 : Method := { name := "value", desc := "()Ljava/lang/Object;", sig := { parameters := [], returnType := some (.object "java/lang/Object") }, accessFlags := 1, code := some k2c5 }
def k2c6 : Code := { maxStack := 1, maxLocals := 1, code := prog_47_method_11_code, exceptionTable := #[], attributes := #[] }
def k2m6 : Method := { name := "orNull", desc := "()Ljava/lang/Object;", sig := { parameters := [], returnType := some (.object "java/lang/Object") }, accessFlags := 1, code := some k2c6 }
/-- com/example/strict_absence/strictabsence/state/Tristate -/
def k2 : Class := { plain "com/example/strict_absence/strictabsence/state/Tristate" (some 0) with
  accessFlags := 49
  interfaces := #[]
  cf := some (fileOf pool2 8 #[.nestMembers #[32]] #[{ accessFlags := 2, nameIndex := 5, descriptorIndex := 38, attributes := #[] }, { accessFlags := 9, nameIndex := 41, descriptorIndex := 42, attributes := #[] }, { accessFlags := 9, nameIndex := 45, descriptorIndex := 46, attributes := #[] }, { accessFlags := 9, nameIndex := 89, descriptorIndex := 46, attributes := #[] }, { accessFlags := 1, nameIndex := 11, descriptorIndex := 90, attributes := #[] }, { accessFlags := 1, nameIndex := 15, descriptorIndex := 95, attributes := #[] }, { accessFlags := 1, nameIndex := 97, descriptorIndex := 95, attributes := #[] }] 49 2 #[] #[{ accessFlags := 26, nameIndex := 19, descriptorIndex := 20, attributes := #[] }, { accessFlags := 26, nameIndex := 23, descriptorIndex := 20, attributes := #[] }, { accessFlags := 18, nameIndex := 11, descriptorIndex := 12, attributes := #[] }, { accessFlags := 18, nameIndex := 15, descriptorIndex := 16, attributes := #[] }])
  fields := #[{ name := "ABSENT", type := (.object "com/example/strict_absence/strictabsence/state/Tristate"), accessFlags := 26, slot := 0, constantValue := 0 }, { name := "NULL", type := (.object "com/example/strict_absence/strictabsence/state/Tristate"), accessFlags := 26, slot := 1, constantValue := 0 }, { name := "state", type := (.object "com/example/strict_absence/strictabsence/state/Tristate$State"), accessFlags := 18, slot := 0, constantValue := 0 }, { name := "value", type := (.object "java/lang/Object"), accessFlags := 18, slot := 1, constantValue := 0 }]
  methods := #[k2m0, k2m1, k2m2, k2m3, k2m4, k2m5, k2m6]
  instanceTypes := #[(.object "com/example/strict_absence/strictabsence/state/Tristate$State"), (.object "java/lang/Object")]
  staticTypes := #[(.object "com/example/strict_absence/strictabsence/state/Tristate"), (.object "com/example/strict_absence/strictabsence/state/Tristate")]
  resolved := Array.replicate 125 none
  statics := some 0 }

def pool3 : Array CpInfo := pool [(1, .class_ 2), (0, u "java/lang/constant/Constable"), (0, .class_ 4), (0, u "java/lang/Object")] 6

/-- java/lang/constant/Constable -/
def k3 : Class := { plain "java/lang/constant/Constable" (some 0) with
  accessFlags := 1537
  interfaces := #[]
  cf := some (fileOf pool3 1 #[] #[] 1537 3 #[] #[])
  fields := #[]
  methods := #[]
  instanceTypes := #[]
  staticTypes := #[]
  resolved := Array.replicate 11 none
  statics := none }

def pool4 : Array CpInfo := pool [(1, .class_ 2), (0, u "java/lang/Comparable"), (0, .class_ 4), (0, u "java/lang/Object")] 7

/-- java/lang/Comparable -/
def k4 : Class := { plain "java/lang/Comparable" (some 0) with
  accessFlags := 1537
  interfaces := #[]
  cf := some (fileOf pool4 1 #[] #[] 1537 3 #[] #[])
  fields := #[]
  methods := #[]
  instanceTypes := #[]
  staticTypes := #[]
  resolved := Array.replicate 12 none
  statics := none }

def pool5 : Array CpInfo := pool [(1, .class_ 2), (0, u "java/io/Serializable"), (0, .class_ 4), (0, u "java/lang/Object")] 2

/-- java/io/Serializable -/
def k5 : Class := { plain "java/io/Serializable" (some 0) with
  accessFlags := 1537
  interfaces := #[]
  cf := some (fileOf pool5 1 #[] #[] 1537 3 #[] #[])
  fields := #[]
  methods := #[]
  instanceTypes := #[]
  staticTypes := #[]
  resolved := Array.replicate 7 none
  statics := none }

def pool6 : Array CpInfo := pool [(2, .class_ 4), (1, u "java/lang/Enum"), (0, u "name"), (0, u "Ljava/lang/String;"), (2, u "ordinal"), (0, u "I"), (1, .class_ 14), (1, u "java/lang/Object"), (4, u "hash"), (86, .class_ 108), (1, u "java/lang/Enum$EnumDesc"), (2, .class_ 112), (0, u "java/lang/constant/Constable"), (0, .class_ 114), (0, u "java/lang/Comparable"), (0, .class_ 116), (0, u "java/io/Serializable")] 87

/-- java/lang/Enum -/
def k6 : Class := { plain "java/lang/Enum" (some 0) with
  accessFlags := 1057
  interfaces := #[3, 4, 5]
  cf := some (fileOf pool6 2 #[.nestMembers #[106]] #[] 1057 12 #[111, 113, 115] #[{ accessFlags := 18, nameIndex := 5, descriptorIndex := 6, attributes := #[] }, { accessFlags := 18, nameIndex := 9, descriptorIndex := 10, attributes := #[] }, { accessFlags := 2, nameIndex := 19, descriptorIndex := 10, attributes := #[] }])
  fields := #[{ name := "name", type := (.object "java/lang/String"), accessFlags := 18, slot := 0, constantValue := 0 }, { name := "ordinal", type := .int, accessFlags := 18, slot := 1, constantValue := 0 }, { name := "hash", type := .int, accessFlags := 2, slot := 2, constantValue := 0 }]
  methods := #[]
  instanceTypes := #[(.object "java/lang/String"), .int, .int]
  staticTypes := #[]
  resolved := Array.replicate 204 none
  statics := none }

def pool7 : Array CpInfo := pool [(1, .class_ 2), (0, u "com/example/strict_absence/strictabsence/state/Tristate$State"), (2, u "ABSENT"), (0, u "Lcom/example/strict_absence/strictabsence/state/Tristate$State;"), (2, u "NULL"), (2, u "VALUE"), (2, u "$VALUES"), (0, u "[Lcom/example/strict_absence/strictabsence/state/Tristate$State;"), (6, .class_ 25), (1, u "java/lang/Enum"), (26, .class_ 53), (0, u "com/example/strict_absence/strictabsence/state/Tristate")] 2

/-- com/example/strict_absence/strictabsence/state/Tristate$State -/
def k7 : Class := { plain "com/example/strict_absence/strictabsence/state/Tristate$State" (some 6) with
  accessFlags := 16433
  interfaces := #[]
  cf := some (fileOf pool7 1 #[.nestHost 52] #[] 16433 23 #[] #[{ accessFlags := 16409, nameIndex := 5, descriptorIndex := 6, attributes := #[] }, { accessFlags := 16409, nameIndex := 9, descriptorIndex := 6, attributes := #[] }, { accessFlags := 16409, nameIndex := 12, descriptorIndex := 6, attributes := #[] }, { accessFlags := 4122, nameIndex := 15, descriptorIndex := 16, attributes := #[] }])
  fields := #[{ name := "ABSENT", type := (.object "com/example/strict_absence/strictabsence/state/Tristate$State"), accessFlags := 16409, slot := 0, constantValue := 0 }, { name := "NULL", type := (.object "com/example/strict_absence/strictabsence/state/Tristate$State"), accessFlags := 16409, slot := 1, constantValue := 0 }, { name := "VALUE", type := (.object "com/example/strict_absence/strictabsence/state/Tristate$State"), accessFlags := 16409, slot := 2, constantValue := 0 }, { name := "$VALUES", type := (.array (.object "com/example/strict_absence/strictabsence/state/Tristate$State")), accessFlags := 4122, slot := 3, constantValue := 0 }]
  methods := #[]
  instanceTypes := #[(.object "java/lang/String"), .int, .int]
  staticTypes := #[(.object "com/example/strict_absence/strictabsence/state/Tristate$State"), (.object "com/example/strict_absence/strictabsence/state/Tristate$State"), (.object "com/example/strict_absence/strictabsence/state/Tristate$State"), (.array (.object "com/example/strict_absence/strictabsence/state/Tristate$State"))]
  resolved := Array.replicate 56 none
  statics := some 1 }

def pool8 : Array CpInfo := pool [(1, .methodref 2 3), (0, .class_ 4), (0, .nameAndType 5 6), (0, u "java/lang/Object"), (0, u "<init>"), (0, u "()V"), (1, .class_ 10), (1, u "java/lang/Number"), (2, .class_ 14), (0, u "java/io/Serializable"), (0, u "serialVersionUID"), (0, u "J")] 20

def k8c0 : Code := { maxStack := 1, maxLocals := 1, code := jdk_18_method_1_code, exceptionTable := #[], attributes := #[] }
def k8m0 : Method := { name := "<init>", desc := "()V", sig := { parameters := [], returnType := none }, accessFlags := 1, code := some k8c0 }
/-- java/lang/Number -/
def k8 : Class := { plain "java/lang/Number" (some 0) with
  accessFlags := 1057
  interfaces := #[5]
  cf := some (fileOf pool8 8 #[] #[{ accessFlags := 1, nameIndex := 5, descriptorIndex := 6, attributes := #[] }] 1057 2 #[13] #[{ accessFlags := 26, nameIndex := 15, descriptorIndex := 16, attributes := #[] }])
  fields := #[{ name := "serialVersionUID", type := .long, accessFlags := 26, slot := 0, constantValue := 0 }]
  methods := #[k8m0]
  instanceTypes := #[]
  staticTypes := #[.long]
  resolved := Array.replicate 37 none
  statics := none }

def pool9 : Array CpInfo := pool [(1, .class_ 2), (0, u "java/lang/constant/ConstantDesc"), (0, .class_ 4), (0, u "java/lang/Object")] 32

/-- java/lang/constant/ConstantDesc -/
def k9 : Class := { plain "java/lang/constant/ConstantDesc" (some 0) with
  accessFlags := 1537
  interfaces := #[]
  cf := some (fileOf pool9 1 #[] #[] 1537 3 #[] #[])
  fields := #[]
  methods := #[]
  instanceTypes := #[]
  staticTypes := #[]
  resolved := Array.replicate 37 none
  statics := none }

def pool10 : Array CpInfo := pool [(1, .class_ 2), (0, u "java/lang/Integer"), (16, u "digits"), (0, u "[C"), (46, u "<init>"), (17, u "DigitOnes"), (0, u "[B"), (2, u "DigitTens"), (10, .nameAndType 67 101), (0, u "()V"), (19, u "()I"), (65, u "valueOf"), (0, u "(I)Ljava/lang/Integer;"), (0, .class_ 190), (0, u "java/lang/Integer$IntegerCache"), (0, .fieldref 189 192), (0, .nameAndType 193 194), (0, u "high"), (0, u "I"), (0, .fieldref 189 196), (0, .nameAndType 197 198), (0, u "cache"), (0, u "[Ljava/lang/Integer;"), (0, .methodref 1 200), (0, .nameAndType 67 201), (0, u "(I)V"), (0, .methodref 203 100), (0, .class_ 204), (0, u "java/lang/Number"), (0, .fieldref 1 206), (0, .nameAndType 207 194), (0, u "value"), (5, u "intValue"), (88, u "TYPE"), (0, u "Ljava/lang/Class;"), (0, .class_ 305), (0, u "java/lang/Comparable"), (0, .class_ 307), (0, u "java/lang/constant/Constable"), (0, .class_ 309), (0, u "java/lang/constant/ConstantDesc"), (0, u "MIN_VALUE"), (1, u "MAX_VALUE"), (3, u "SIZE"), (1, u "BYTES"), (1, u "serialVersionUID"), (0, u "J")] 131

def k10c0 : Code := { maxStack := 3, maxLocals := 1, code := jdk_33_method_22_code, exceptionTable := #[], attributes := #[] }
def k10m0 : Method := { name := "valueOf", desc := "(I)Ljava/lang/Integer;", sig := { parameters := [.int], returnType := some (.object "java/lang/Integer") }, accessFlags := 9, code := some k10c0 }
def k10c1 : Code := { maxStack := 2, maxLocals := 2, code := jdk_33_method_23_code, exceptionTable := #[], attributes := #[] }
def k10m1 : Method := { name := "<init>", desc := "(I)V", sig := { parameters := [.int], returnType := none }, accessFlags := 1, code := some k10c1 }
def k10c2 : Code := { maxStack := 1, maxLocals := 1, code := jdk_33_method_27_code, exceptionTable := #[], attributes := #[] }
def k10m2 : Method := { name := "intValue", desc := "()I", sig := { parameters := [], returnType := some .int }, accessFlags := 1, code := some k10c2 }
/-- java/lang/Integer -/
def k10 : Class := { plain "java/lang/Integer" (some 8) with
  accessFlags := 49
  interfaces := #[4, 3, 9]
  cf := some (fileOf pool10 1 #[.nestMembers #[189]] #[{ accessFlags := 9, nameIndex := 187, descriptorIndex := 188, attributes := #[] }, { accessFlags := 1, nameIndex := 67, descriptorIndex := 201, attributes := #[] }, { accessFlags := 1, nameIndex := 213, descriptorIndex := 121, attributes := #[] }] 49 203 #[304, 306, 308] #[{ accessFlags := 25, nameIndex := 310, descriptorIndex := 194, attributes := #[] }, { accessFlags := 25, nameIndex := 312, descriptorIndex := 194, attributes := #[] }, { accessFlags := 25, nameIndex := 302, descriptorIndex := 303, attributes := #[] }, { accessFlags := 24, nameIndex := 19, descriptorIndex := 20, attributes := #[] }, { accessFlags := 24, nameIndex := 89, descriptorIndex := 86, attributes := #[] }, { accessFlags := 24, nameIndex := 85, descriptorIndex := 86, attributes := #[] }, { accessFlags := 18, nameIndex := 207, descriptorIndex := 194, attributes := #[] }, { accessFlags := 25, nameIndex := 316, descriptorIndex := 194, attributes := #[] }, { accessFlags := 25, nameIndex := 318, descriptorIndex := 194, attributes := #[] }, { accessFlags := 26, nameIndex := 320, descriptorIndex := 321, attributes := #[] }])
  fields := #[{ name := "MIN_VALUE", type := .int, accessFlags := 25, slot := 0, constantValue := 0 }, { name := "MAX_VALUE", type := .int, accessFlags := 25, slot := 1, constantValue := 0 }, { name := "TYPE", type := (.object "java/lang/Class"), accessFlags := 25, slot := 2, constantValue := 0 }, { name := "digits", type := (.array .char), accessFlags := 24, slot := 3, constantValue := 0 }, { name := "DigitTens", type := (.array .byte), accessFlags := 24, slot := 4, constantValue := 0 }, { name := "DigitOnes", type := (.array .byte), accessFlags := 24, slot := 5, constantValue := 0 }, { name := "value", type := .int, accessFlags := 18, slot := 0, constantValue := 0 }, { name := "SIZE", type := .int, accessFlags := 25, slot := 6, constantValue := 0 }, { name := "BYTES", type := .int, accessFlags := 25, slot := 7, constantValue := 0 }, { name := "serialVersionUID", type := .long, accessFlags := 26, slot := 8, constantValue := 0 }]
  methods := #[k10m0, k10m1, k10m2]
  instanceTypes := #[.int]
  staticTypes := #[.int, .int, (.object "java/lang/Class"), (.array .char), (.array .byte), (.array .byte), .int, .int, .long]
  resolved := Array.replicate 453 none
  statics := none }

def pool11 : Array CpInfo := pool [(2, .class_ 4), (1, u "java/lang/Object"), (0, u "<init>"), (0, u "()V"), (0, .class_ 8), (0, u "java/lang/Integer"), (7, .class_ 18), (1, u "java/lang/Integer$IntegerCache"), (0, u "$assertionsDisabled"), (0, u "Z"), (26, u "high"), (0, u "I"), (8, u "archivedCache"), (0, u "[Ljava/lang/Integer;"), (12, u "cache"), (0, u "low")] 27

def k11m0 : Method := { name := "<init>", desc := "()V", sig := { parameters := [], returnType := none }, accessFlags := 2, code := none }
/-- java/lang/Integer$IntegerCache -/
def k11 : Class := { plain "java/lang/Integer$IntegerCache" (some 0) with
  accessFlags := 48
  interfaces := #[]
  cf := some (fileOf pool11 16 #[.nestHost 7] #[{ accessFlags := 2, nameIndex := 5, descriptorIndex := 6, attributes := #[] }] 48 2 #[] #[{ accessFlags := 24, nameIndex := 72, descriptorIndex := 48, attributes := #[] }, { accessFlags := 24, nameIndex := 47, descriptorIndex := 48, attributes := #[] }, { accessFlags := 24, nameIndex := 71, descriptorIndex := 58, attributes := #[] }, { accessFlags := 8, nameIndex := 57, descriptorIndex := 58, attributes := #[] }, { accessFlags := 4120, nameIndex := 19, descriptorIndex := 20, attributes := #[] }])
  fields := #[{ name := "low", type := .int, accessFlags := 24, slot := 0, constantValue := 0 }, { name := "high", type := .int, accessFlags := 24, slot := 1, constantValue := 0 }, { name := "cache", type := (.array (.object "java/lang/Integer")), accessFlags := 24, slot := 2, constantValue := 0 }, { name := "archivedCache", type := (.array (.object "java/lang/Integer")), accessFlags := 8, slot := 3, constantValue := 0 }, { name := "$assertionsDisabled", type := .boolean, accessFlags := 4120, slot := 4, constantValue := 0 }]
  methods := #[k11m0]
  instanceTypes := #[]
  staticTypes := #[.int, .int, (.array (.object "java/lang/Integer")), (.array (.object "java/lang/Integer")), .boolean]
  resolved := Array.replicate 100 none
  statics := some 2 }

def pool12 : Array CpInfo := pool [(1, u "java/lang/Cloneable"), (0, .class_ 1), (0, u "java/lang/Object"), (0, .class_ 3)] 3

/-- java/lang/Cloneable -/
def k12 : Class := { plain "java/lang/Cloneable" (some 0) with
  accessFlags := 1537
  interfaces := #[]
  cf := some (fileOf pool12 2 #[] #[] 1537 4 #[] #[])
  fields := #[]
  methods := #[]
  instanceTypes := #[]
  staticTypes := #[]
  resolved := Array.replicate 8 none
  statics := none }

/-- the primitive byte -/
def k13 : Class := { plain "byte" none with kind := .primitive 'B', accessFlags := 0x411 }
/-- [B -/
def k14 : Class := { plain "[B" (some 0) with kind := .array 13 .byte, interfaces := #[12, 5], accessFlags := 1041 }

/-- the primitive int -/
def k15 : Class := { plain "int" none with kind := .primitive 'I', accessFlags := 0x411 }
/-- [I -/
def k16 : Class := { plain "[I" (some 0) with kind := .array 15 .int, interfaces := #[12, 5], accessFlags := 1041 }

/-- [Ljava/lang/Integer; -/
def k17 : Class := { plain "[Ljava/lang/Integer;" (some 0) with kind := .array 10 (.object "java/lang/Integer"), interfaces := #[12, 5], accessFlags := 1041 }

def heap : Heap := #[{ cls := 2, slots := #[.null, .ref 4], vm := .statics 2 },
  { cls := 7, slots := #[.null, .ref 5, .ref 6, .null], vm := .statics 7 },
  { cls := 11, slots := #[.int 0, .int 127, .ref 3, .null, .int 0], vm := .statics 11 },
  { cls := 17, slots := #[.ref 7, .ref 8, .ref 9, .ref 10, .ref 11, .ref 12, .ref 13, .ref 14, .ref 15, .ref 16, .ref 17, .ref 18, .ref 19, .ref 20, .ref 21, .ref 22, .ref 23, .ref 24, .ref 25, .ref 26, .ref 27, .ref 28, .ref 29, .ref 30, .ref 31, .ref 32, .ref 33, .ref 34, .ref 35, .ref 36, .ref 37, .ref 38, .ref 39, .ref 40, .ref 41, .ref 42, .ref 43, .ref 44, .ref 45, .ref 46, .ref 47, .ref 48, .ref 49, .ref 50, .ref 51, .ref 52, .ref 53, .ref 54, .ref 55, .ref 56, .ref 57, .ref 58, .ref 59, .ref 60, .ref 61, .ref 62, .ref 63, .ref 64, .ref 65, .ref 66, .ref 67, .ref 68, .ref 69, .ref 70, .ref 71, .ref 72, .ref 73, .ref 74, .ref 75, .ref 76, .ref 77, .ref 78, .ref 79, .ref 80, .ref 81, .ref 82, .ref 83, .ref 84, .ref 85, .ref 86, .ref 87, .ref 88, .ref 89, .ref 90, .ref 91, .ref 92, .ref 93, .ref 94, .ref 95, .ref 96, .ref 97, .ref 98, .ref 99, .ref 100, .ref 101, .ref 102, .ref 103, .ref 104, .ref 105, .ref 106, .ref 107, .ref 108, .ref 109, .ref 110, .ref 111, .ref 112, .ref 113, .ref 114, .ref 115, .ref 116, .ref 117, .ref 118, .ref 119, .ref 120, .ref 121, .ref 122, .ref 123, .ref 124, .ref 125, .ref 126, .ref 127, .ref 128, .ref 129, .ref 130, .ref 131, .ref 132, .ref 133, .ref 134, .ref 135, .ref 136, .ref 137, .ref 138, .ref 139, .ref 140, .ref 141, .ref 142, .ref 143, .ref 144, .ref 145, .ref 146, .ref 147, .ref 148, .ref 149, .ref 150, .ref 151, .ref 152, .ref 153, .ref 154, .ref 155, .ref 156, .ref 157, .ref 158, .ref 159, .ref 160, .ref 161, .ref 162, .ref 163, .ref 164, .ref 165, .ref 166, .ref 167, .ref 168, .ref 169, .ref 170, .ref 171, .ref 172, .ref 173, .ref 174, .ref 175, .ref 176, .ref 177, .ref 178, .ref 179, .ref 180, .ref 181, .ref 182, .ref 183, .ref 184, .ref 185, .ref 186, .ref 187, .ref 188, .ref 189, .ref 190, .ref 191, .ref 192, .ref 193, .ref 194, .ref 195, .ref 196, .ref 197, .ref 198, .ref 199, .ref 200, .ref 201, .ref 202, .ref 203, .ref 204, .ref 205, .ref 206, .ref 207, .ref 208, .ref 209, .ref 210, .ref 211, .ref 212, .ref 213, .ref 214, .ref 215, .ref 216, .ref 217, .ref 218, .ref 219, .ref 220, .ref 221, .ref 222, .ref 223, .ref 224, .ref 225, .ref 226, .ref 227, .ref 228, .ref 229, .ref 230, .ref 231, .ref 232, .ref 233, .ref 234, .ref 235, .ref 236, .ref 237, .ref 238, .ref 239, .ref 240, .ref 241, .ref 242, .ref 243, .ref 244, .ref 245, .ref 246, .ref 247, .ref 248, .ref 249, .ref 250, .ref 251, .ref 252, .ref 253, .ref 254, .ref 255, .ref 256, .ref 257, .ref 258, .ref 259, .ref 260, .ref 261, .ref 262], vm := .none },
  { cls := 2, slots := #[.ref 5, .null], vm := .none },
  { cls := 7, slots := #[.null, .int 0, .int 0], vm := .none },
  { cls := 7, slots := #[.null, .int 0, .int 0], vm := .none },
  { cls := 10, slots := #[.int (-128)], vm := .none },
  { cls := 10, slots := #[.int (-127)], vm := .none },
  { cls := 10, slots := #[.int (-126)], vm := .none },
  { cls := 10, slots := #[.int (-125)], vm := .none },
  { cls := 10, slots := #[.int (-124)], vm := .none },
  { cls := 10, slots := #[.int (-123)], vm := .none },
  { cls := 10, slots := #[.int (-122)], vm := .none },
  { cls := 10, slots := #[.int (-121)], vm := .none },
  { cls := 10, slots := #[.int (-120)], vm := .none },
  { cls := 10, slots := #[.int (-119)], vm := .none },
  { cls := 10, slots := #[.int (-118)], vm := .none },
  { cls := 10, slots := #[.int (-117)], vm := .none },
  { cls := 10, slots := #[.int (-116)], vm := .none },
  { cls := 10, slots := #[.int (-115)], vm := .none },
  { cls := 10, slots := #[.int (-114)], vm := .none },
  { cls := 10, slots := #[.int (-113)], vm := .none },
  { cls := 10, slots := #[.int (-112)], vm := .none },
  { cls := 10, slots := #[.int (-111)], vm := .none },
  { cls := 10, slots := #[.int (-110)], vm := .none },
  { cls := 10, slots := #[.int (-109)], vm := .none },
  { cls := 10, slots := #[.int (-108)], vm := .none },
  { cls := 10, slots := #[.int (-107)], vm := .none },
  { cls := 10, slots := #[.int (-106)], vm := .none },
  { cls := 10, slots := #[.int (-105)], vm := .none },
  { cls := 10, slots := #[.int (-104)], vm := .none },
  { cls := 10, slots := #[.int (-103)], vm := .none },
  { cls := 10, slots := #[.int (-102)], vm := .none },
  { cls := 10, slots := #[.int (-101)], vm := .none },
  { cls := 10, slots := #[.int (-100)], vm := .none },
  { cls := 10, slots := #[.int (-99)], vm := .none },
  { cls := 10, slots := #[.int (-98)], vm := .none },
  { cls := 10, slots := #[.int (-97)], vm := .none },
  { cls := 10, slots := #[.int (-96)], vm := .none },
  { cls := 10, slots := #[.int (-95)], vm := .none },
  { cls := 10, slots := #[.int (-94)], vm := .none },
  { cls := 10, slots := #[.int (-93)], vm := .none },
  { cls := 10, slots := #[.int (-92)], vm := .none },
  { cls := 10, slots := #[.int (-91)], vm := .none },
  { cls := 10, slots := #[.int (-90)], vm := .none },
  { cls := 10, slots := #[.int (-89)], vm := .none },
  { cls := 10, slots := #[.int (-88)], vm := .none },
  { cls := 10, slots := #[.int (-87)], vm := .none },
  { cls := 10, slots := #[.int (-86)], vm := .none },
  { cls := 10, slots := #[.int (-85)], vm := .none },
  { cls := 10, slots := #[.int (-84)], vm := .none },
  { cls := 10, slots := #[.int (-83)], vm := .none },
  { cls := 10, slots := #[.int (-82)], vm := .none },
  { cls := 10, slots := #[.int (-81)], vm := .none },
  { cls := 10, slots := #[.int (-80)], vm := .none },
  { cls := 10, slots := #[.int (-79)], vm := .none },
  { cls := 10, slots := #[.int (-78)], vm := .none },
  { cls := 10, slots := #[.int (-77)], vm := .none },
  { cls := 10, slots := #[.int (-76)], vm := .none },
  { cls := 10, slots := #[.int (-75)], vm := .none },
  { cls := 10, slots := #[.int (-74)], vm := .none },
  { cls := 10, slots := #[.int (-73)], vm := .none },
  { cls := 10, slots := #[.int (-72)], vm := .none },
  { cls := 10, slots := #[.int (-71)], vm := .none },
  { cls := 10, slots := #[.int (-70)], vm := .none },
  { cls := 10, slots := #[.int (-69)], vm := .none },
  { cls := 10, slots := #[.int (-68)], vm := .none },
  { cls := 10, slots := #[.int (-67)], vm := .none },
  { cls := 10, slots := #[.int (-66)], vm := .none },
  { cls := 10, slots := #[.int (-65)], vm := .none },
  { cls := 10, slots := #[.int (-64)], vm := .none },
  { cls := 10, slots := #[.int (-63)], vm := .none },
  { cls := 10, slots := #[.int (-62)], vm := .none },
  { cls := 10, slots := #[.int (-61)], vm := .none },
  { cls := 10, slots := #[.int (-60)], vm := .none },
  { cls := 10, slots := #[.int (-59)], vm := .none },
  { cls := 10, slots := #[.int (-58)], vm := .none },
  { cls := 10, slots := #[.int (-57)], vm := .none },
  { cls := 10, slots := #[.int (-56)], vm := .none },
  { cls := 10, slots := #[.int (-55)], vm := .none },
  { cls := 10, slots := #[.int (-54)], vm := .none },
  { cls := 10, slots := #[.int (-53)], vm := .none },
  { cls := 10, slots := #[.int (-52)], vm := .none },
  { cls := 10, slots := #[.int (-51)], vm := .none },
  { cls := 10, slots := #[.int (-50)], vm := .none },
  { cls := 10, slots := #[.int (-49)], vm := .none },
  { cls := 10, slots := #[.int (-48)], vm := .none },
  { cls := 10, slots := #[.int (-47)], vm := .none },
  { cls := 10, slots := #[.int (-46)], vm := .none },
  { cls := 10, slots := #[.int (-45)], vm := .none },
  { cls := 10, slots := #[.int (-44)], vm := .none },
  { cls := 10, slots := #[.int (-43)], vm := .none },
  { cls := 10, slots := #[.int (-42)], vm := .none },
  { cls := 10, slots := #[.int (-41)], vm := .none },
  { cls := 10, slots := #[.int (-40)], vm := .none },
  { cls := 10, slots := #[.int (-39)], vm := .none },
  { cls := 10, slots := #[.int (-38)], vm := .none },
  { cls := 10, slots := #[.int (-37)], vm := .none },
  { cls := 10, slots := #[.int (-36)], vm := .none },
  { cls := 10, slots := #[.int (-35)], vm := .none },
  { cls := 10, slots := #[.int (-34)], vm := .none },
  { cls := 10, slots := #[.int (-33)], vm := .none },
  { cls := 10, slots := #[.int (-32)], vm := .none },
  { cls := 10, slots := #[.int (-31)], vm := .none },
  { cls := 10, slots := #[.int (-30)], vm := .none },
  { cls := 10, slots := #[.int (-29)], vm := .none },
  { cls := 10, slots := #[.int (-28)], vm := .none },
  { cls := 10, slots := #[.int (-27)], vm := .none },
  { cls := 10, slots := #[.int (-26)], vm := .none },
  { cls := 10, slots := #[.int (-25)], vm := .none },
  { cls := 10, slots := #[.int (-24)], vm := .none },
  { cls := 10, slots := #[.int (-23)], vm := .none },
  { cls := 10, slots := #[.int (-22)], vm := .none },
  { cls := 10, slots := #[.int (-21)], vm := .none },
  { cls := 10, slots := #[.int (-20)], vm := .none },
  { cls := 10, slots := #[.int (-19)], vm := .none },
  { cls := 10, slots := #[.int (-18)], vm := .none },
  { cls := 10, slots := #[.int (-17)], vm := .none },
  { cls := 10, slots := #[.int (-16)], vm := .none },
  { cls := 10, slots := #[.int (-15)], vm := .none },
  { cls := 10, slots := #[.int (-14)], vm := .none },
  { cls := 10, slots := #[.int (-13)], vm := .none },
  { cls := 10, slots := #[.int (-12)], vm := .none },
  { cls := 10, slots := #[.int (-11)], vm := .none },
  { cls := 10, slots := #[.int (-10)], vm := .none },
  { cls := 10, slots := #[.int (-9)], vm := .none },
  { cls := 10, slots := #[.int (-8)], vm := .none },
  { cls := 10, slots := #[.int (-7)], vm := .none },
  { cls := 10, slots := #[.int (-6)], vm := .none },
  { cls := 10, slots := #[.int (-5)], vm := .none },
  { cls := 10, slots := #[.int (-4)], vm := .none },
  { cls := 10, slots := #[.int (-3)], vm := .none },
  { cls := 10, slots := #[.int (-2)], vm := .none },
  { cls := 10, slots := #[.int (-1)], vm := .none },
  { cls := 10, slots := #[.int 0], vm := .none },
  { cls := 10, slots := #[.int 1], vm := .none },
  { cls := 10, slots := #[.int 2], vm := .none },
  { cls := 10, slots := #[.int 3], vm := .none },
  { cls := 10, slots := #[.int 4], vm := .none },
  { cls := 10, slots := #[.int 5], vm := .none },
  { cls := 10, slots := #[.int 6], vm := .none },
  { cls := 10, slots := #[.int 7], vm := .none },
  { cls := 10, slots := #[.int 8], vm := .none },
  { cls := 10, slots := #[.int 9], vm := .none },
  { cls := 10, slots := #[.int 10], vm := .none },
  { cls := 10, slots := #[.int 11], vm := .none },
  { cls := 10, slots := #[.int 12], vm := .none },
  { cls := 10, slots := #[.int 13], vm := .none },
  { cls := 10, slots := #[.int 14], vm := .none },
  { cls := 10, slots := #[.int 15], vm := .none },
  { cls := 10, slots := #[.int 16], vm := .none },
  { cls := 10, slots := #[.int 17], vm := .none },
  { cls := 10, slots := #[.int 18], vm := .none },
  { cls := 10, slots := #[.int 19], vm := .none },
  { cls := 10, slots := #[.int 20], vm := .none },
  { cls := 10, slots := #[.int 21], vm := .none },
  { cls := 10, slots := #[.int 22], vm := .none },
  { cls := 10, slots := #[.int 23], vm := .none },
  { cls := 10, slots := #[.int 24], vm := .none },
  { cls := 10, slots := #[.int 25], vm := .none },
  { cls := 10, slots := #[.int 26], vm := .none },
  { cls := 10, slots := #[.int 27], vm := .none },
  { cls := 10, slots := #[.int 28], vm := .none },
  { cls := 10, slots := #[.int 29], vm := .none },
  { cls := 10, slots := #[.int 30], vm := .none },
  { cls := 10, slots := #[.int 31], vm := .none },
  { cls := 10, slots := #[.int 32], vm := .none },
  { cls := 10, slots := #[.int 33], vm := .none },
  { cls := 10, slots := #[.int 34], vm := .none },
  { cls := 10, slots := #[.int 35], vm := .none },
  { cls := 10, slots := #[.int 36], vm := .none },
  { cls := 10, slots := #[.int 37], vm := .none },
  { cls := 10, slots := #[.int 38], vm := .none },
  { cls := 10, slots := #[.int 39], vm := .none },
  { cls := 10, slots := #[.int 40], vm := .none },
  { cls := 10, slots := #[.int 41], vm := .none },
  { cls := 10, slots := #[.int 42], vm := .none },
  { cls := 10, slots := #[.int 43], vm := .none },
  { cls := 10, slots := #[.int 44], vm := .none },
  { cls := 10, slots := #[.int 45], vm := .none },
  { cls := 10, slots := #[.int 46], vm := .none },
  { cls := 10, slots := #[.int 47], vm := .none },
  { cls := 10, slots := #[.int 48], vm := .none },
  { cls := 10, slots := #[.int 49], vm := .none },
  { cls := 10, slots := #[.int 50], vm := .none },
  { cls := 10, slots := #[.int 51], vm := .none },
  { cls := 10, slots := #[.int 52], vm := .none },
  { cls := 10, slots := #[.int 53], vm := .none },
  { cls := 10, slots := #[.int 54], vm := .none },
  { cls := 10, slots := #[.int 55], vm := .none },
  { cls := 10, slots := #[.int 56], vm := .none },
  { cls := 10, slots := #[.int 57], vm := .none },
  { cls := 10, slots := #[.int 58], vm := .none },
  { cls := 10, slots := #[.int 59], vm := .none },
  { cls := 10, slots := #[.int 60], vm := .none },
  { cls := 10, slots := #[.int 61], vm := .none },
  { cls := 10, slots := #[.int 62], vm := .none },
  { cls := 10, slots := #[.int 63], vm := .none },
  { cls := 10, slots := #[.int 64], vm := .none },
  { cls := 10, slots := #[.int 65], vm := .none },
  { cls := 10, slots := #[.int 66], vm := .none },
  { cls := 10, slots := #[.int 67], vm := .none },
  { cls := 10, slots := #[.int 68], vm := .none },
  { cls := 10, slots := #[.int 69], vm := .none },
  { cls := 10, slots := #[.int 70], vm := .none },
  { cls := 10, slots := #[.int 71], vm := .none },
  { cls := 10, slots := #[.int 72], vm := .none },
  { cls := 10, slots := #[.int 73], vm := .none },
  { cls := 10, slots := #[.int 74], vm := .none },
  { cls := 10, slots := #[.int 75], vm := .none },
  { cls := 10, slots := #[.int 76], vm := .none },
  { cls := 10, slots := #[.int 77], vm := .none },
  { cls := 10, slots := #[.int 78], vm := .none },
  { cls := 10, slots := #[.int 79], vm := .none },
  { cls := 10, slots := #[.int 80], vm := .none },
  { cls := 10, slots := #[.int 81], vm := .none },
  { cls := 10, slots := #[.int 82], vm := .none },
  { cls := 10, slots := #[.int 83], vm := .none },
  { cls := 10, slots := #[.int 84], vm := .none },
  { cls := 10, slots := #[.int 85], vm := .none },
  { cls := 10, slots := #[.int 86], vm := .none },
  { cls := 10, slots := #[.int 87], vm := .none },
  { cls := 10, slots := #[.int 88], vm := .none },
  { cls := 10, slots := #[.int 89], vm := .none },
  { cls := 10, slots := #[.int 90], vm := .none },
  { cls := 10, slots := #[.int 91], vm := .none },
  { cls := 10, slots := #[.int 92], vm := .none },
  { cls := 10, slots := #[.int 93], vm := .none },
  { cls := 10, slots := #[.int 94], vm := .none },
  { cls := 10, slots := #[.int 95], vm := .none },
  { cls := 10, slots := #[.int 96], vm := .none },
  { cls := 10, slots := #[.int 97], vm := .none },
  { cls := 10, slots := #[.int 98], vm := .none },
  { cls := 10, slots := #[.int 99], vm := .none },
  { cls := 10, slots := #[.int 100], vm := .none },
  { cls := 10, slots := #[.int 101], vm := .none },
  { cls := 10, slots := #[.int 102], vm := .none },
  { cls := 10, slots := #[.int 103], vm := .none },
  { cls := 10, slots := #[.int 104], vm := .none },
  { cls := 10, slots := #[.int 105], vm := .none },
  { cls := 10, slots := #[.int 106], vm := .none },
  { cls := 10, slots := #[.int 107], vm := .none },
  { cls := 10, slots := #[.int 108], vm := .none },
  { cls := 10, slots := #[.int 109], vm := .none },
  { cls := 10, slots := #[.int 110], vm := .none },
  { cls := 10, slots := #[.int 111], vm := .none },
  { cls := 10, slots := #[.int 112], vm := .none },
  { cls := 10, slots := #[.int 113], vm := .none },
  { cls := 10, slots := #[.int 114], vm := .none },
  { cls := 10, slots := #[.int 115], vm := .none },
  { cls := 10, slots := #[.int 116], vm := .none },
  { cls := 10, slots := #[.int 117], vm := .none },
  { cls := 10, slots := #[.int 118], vm := .none },
  { cls := 10, slots := #[.int 119], vm := .none },
  { cls := 10, slots := #[.int 120], vm := .none },
  { cls := 10, slots := #[.int 121], vm := .none },
  { cls := 10, slots := #[.int 122], vm := .none },
  { cls := 10, slots := #[.int 123], vm := .none },
  { cls := 10, slots := #[.int 124], vm := .none },
  { cls := 10, slots := #[.int 125], vm := .none },
  { cls := 10, slots := #[.int 126], vm := .none },
  { cls := 10, slots := #[.int 127], vm := .none }]
def classes : Array Class := #[k0, k1, k2, k3, k4, k5, k6, k7, k8, k9, k10, k11, k12, k13, k14, k15, k16, k17]
def interned : List (Array UInt16 × Addr) := []
def slotsUsed : Nat := 531
def theMethod : MethodId := ⟨1, 1⟩
def args0 : Array Value := #[.int 5, .int 5]
def aboutOver (below : List Frame) : State where
  vm := { classes := classes, interned := interned.toArray }
  heap := heap
  slotsUsed := slotsUsed
  threads := #[{ frames := .invoking theMethod args0 :: below }]
def below0 : List Frame := [.native { method := ⟨0, 0⟩, args := #[] }]
def about1 : State := aboutOver below0
def p0 : Program := .bare "" "" ""
def e0 : Env := launch0.env 0 0 0
theorem w_frames : about1.frames = Frame.invoking theMethod args0 :: below0 := rfl
set_option maxRecDepth 65536 in
theorem w_args : argsFit about1.vm theMethod args0 = true := by decide +kernel
set_option maxRecDepth 65536 in
theorem w_heap : heapFits about1 = true := by decide +kernel
set_option maxRecDepth 65536 in
theorem w_runnable : about1.curStatus? = some .runnable := by decide +kernel
set_option maxRecDepth 65536 in
theorem w_alone : about1.alone = true := by decide +kernel
set_option maxRecDepth 65536 in
theorem w_named : about1.methodNamed? x = some theMethod := by decide +kernel
set_option maxRecDepth 65536 in
theorem w_hears : about1.hears theMethod below0 = true := by decide +kernel
set_option maxRecDepth 65536 in
theorem w_ripe : about1.ripe theMethod args0 below0 = true := by decide +kernel
theorem w_running : about1.status = .running := rfl
set_option maxRecDepth 65536 in
theorem w_room : about1.hasRoom e0.platform room_1 = true :=
  launch0.hasRoom_least _ room_1 (by decide +kernel) (by decide +kernel) (by decide +kernel) (by decide +kernel) (by decide +kernel) (by decide +kernel)
theorem allAtoms_all (ts : List Jvm.Cond) (a : Array Jvm.Value) (st : Jvm.State) : (allAtoms ts).before a st = ts.all (fun c => c.before a st) := by
  induction ts with
  | nil => rfl
  | cons c t ih =>
    show (Jvm.Cond.and c (allAtoms t)).before a st = _
    rw [Jvm.Cond.before_and, ih, List.all_cons]
def words1 : List Jvm.Cond := Jvm.Cond.code x code maxLocals ret :: tables_1
/-- a 'code' word, met by the world's own term for the bytes: nothing is compared byte by byte -/
theorem code_word {y : MethodName} {bytes : ByteArray} {mx : Nat} {rt : Option FieldType} {a : Array Value} {s : State} {m : MethodId} {meth : Method} {c : Code} (h1 : s.methodNamed? y = some m) (h2 : s.vm.method? m = some meth) (h3 : meth.code = some c) (h4 : c.code = bytes)
    (h5 : (c.maxLocals == mx && c.exceptionTable.isEmpty && decide (c.maxStack ≤ mostOperands) && decide (meth.sig.returnType = rt) && !meth.locks && decide (parseMethodDescriptor y.desc = some meth.sig)) = true) : (Jvm.Cond.code y bytes mx rt).before a s = true := by
  simp only [Bool.and_eq_true, beq_iff_eq, Bool.not_eq_true', decide_eq_true_eq] at h5
  obtain ⟨⟨⟨⟨⟨g1, g2⟩, g3⟩, g4⟩, g5⟩, g6⟩ := h5
  simp [Cond.before, Cond.holds, Cond.value, h1, h2, h3, h4, g1, g2, g3, g4, g5, g6]
def isCode : Jvm.Cond → Bool
  | .code _ _ _ _ => true
  | _ => false
theorem all_split {L : List Jvm.Cond} {P : Jvm.Cond → Bool} (h1 : L.all (fun c => isCode c || P c) = true) (h2 : ∀ c ∈ L.filter isCode, P c = true) : L.all P = true := by
  refine List.all_eq_true.mpr fun c hc => ?_
  have h := List.all_eq_true.mp h1 c hc
  rcases Bool.eq_false_or_eq_true (isCode c) with hi | hi
  · exact h2 c (List.mem_filter.mpr ⟨hc, hi⟩)
  · simpa [hi] using h
set_option maxRecDepth 65536 in
theorem w_c0 : (Jvm.Cond.code x code maxLocals ret).before args0 about1 = true := code_word (m := ⟨1, 1⟩) (meth := k1m1) (c := k1c1) (by decide +kernel) rfl rfl rfl (by decide +kernel)
set_option maxRecDepth 65536 in
theorem w_c1 : (Jvm.Cond.code ({ cls := "com/example/strict_absence/strictabsence/state/Tristate", name := "ofNullable", desc := "(Ljava/lang/Object;)Lcom/example/strict_absence/strictabsence/state/Tristate;" } : Jvm.MethodName) prog_47_method_5_code (2 : Nat) (Option.some (Jvm.ClassFile.FieldType.object "com/example/strict_absence/strictabsence/state/Tristate"))).before args0 about1 = true := code_word (m := ⟨2, 3⟩) (meth := k2m3) (c := k2c3) (by decide +kernel) rfl rfl rfl (by decide +kernel)
set_option maxRecDepth 65536 in
theorem w_c2 : (Jvm.Cond.code ({ cls := "com/example/strict_absence/strictabsence/state/Tristate", name := "ofNull", desc := "()Lcom/example/strict_absence/strictabsence/state/Tristate;" } : Jvm.MethodName) prog_47_method_3_code (1 : Nat) (Option.some (Jvm.ClassFile.FieldType.object "com/example/strict_absence/strictabsence/state/Tristate"))).before args0 about1 = true := code_word (m := ⟨2, 1⟩) (meth := k2m1) (c := k2c1) (by decide +kernel) rfl rfl rfl (by decide +kernel)
set_option maxRecDepth 65536 in
theorem w_c3 : (Jvm.Cond.code ({ cls := "com/example/strict_absence/strictabsence/state/Tristate", name := "state", desc := "()Lcom/example/strict_absence/strictabsence/state/Tristate$State;" } : Jvm.MethodName) prog_47_method_6_code (1 : Nat) (Option.some (Jvm.ClassFile.FieldType.object "com/example/strict_absence/strictabsence/state/Tristate$State"))).before args0 about1 = true := code_word (m := ⟨2, 4⟩) (meth := k2m4) (c := k2c4) (by decide +kernel) rfl rfl rfl (by decide +kernel)
set_option maxRecDepth 65536 in
theorem w_c4 : (Jvm.Cond.code ({ cls := "com/example/strict_absence/strictabsence/state/Tristate", name := "orNull", desc := "()Ljava/lang/Object;" } : Jvm.MethodName) prog_47_method_11_code (1 : Nat) (Option.some (Jvm.ClassFile.FieldType.object "java/lang/Object"))).before args0 about1 = true := code_word (m := ⟨2, 6⟩) (meth := k2m6) (c := k2c6) (by decide +kernel) rfl rfl rfl (by decide +kernel)
set_option maxRecDepth 65536 in
theorem w_c5 : (Jvm.Cond.code ({ cls := "java/lang/Integer", name := "valueOf", desc := "(I)Ljava/lang/Integer;" } : Jvm.MethodName) jdk_33_method_22_code (1 : Nat) (Option.some (Jvm.ClassFile.FieldType.object "java/lang/Integer"))).before args0 about1 = true := code_word (m := ⟨10, 0⟩) (meth := k10m0) (c := k10c0) (by decide +kernel) rfl rfl rfl (by decide +kernel)
set_option maxRecDepth 65536 in
theorem w_c6 : (Jvm.Cond.code ({ cls := "java/lang/Integer", name := "<init>", desc := "(I)V" } : Jvm.MethodName) jdk_33_method_23_code (2 : Nat) (Option.none : Option Jvm.ClassFile.FieldType)).before args0 about1 = true := code_word (m := ⟨10, 1⟩) (meth := k10m1) (c := k10c1) (by decide +kernel) rfl rfl rfl (by decide +kernel)
set_option maxRecDepth 65536 in
theorem w_c7 : (Jvm.Cond.code ({ cls := "java/lang/Number", name := "<init>", desc := "()V" } : Jvm.MethodName) jdk_18_method_1_code (1 : Nat) (Option.none : Option Jvm.ClassFile.FieldType)).before args0 about1 = true := code_word (m := ⟨8, 0⟩) (meth := k8m0) (c := k8c0) (by decide +kernel) rfl rfl rfl (by decide +kernel)
set_option maxRecDepth 65536 in
theorem w_c8 : (Jvm.Cond.code ({ cls := "java/lang/Object", name := "<init>", desc := "()V" } : Jvm.MethodName) object_method_1_code (1 : Nat) (Option.none : Option Jvm.ClassFile.FieldType)).before args0 about1 = true := code_word (m := ⟨0, 0⟩) (meth := k0m0) (c := k0c0) (by decide +kernel) rfl rfl rfl (by decide +kernel)
set_option maxRecDepth 65536 in
theorem w_c9 : (Jvm.Cond.code ({ cls := "com/example/strict_absence/strictabsence/state/Tristate", name := "of", desc := "(Ljava/lang/Object;)Lcom/example/strict_absence/strictabsence/state/Tristate;" } : Jvm.MethodName) prog_47_method_4_code (1 : Nat) (Option.some (Jvm.ClassFile.FieldType.object "com/example/strict_absence/strictabsence/state/Tristate"))).before args0 about1 = true := code_word (m := ⟨2, 2⟩) (meth := k2m2) (c := k2c2) (by decide +kernel) rfl rfl rfl (by decide +kernel)
set_option maxRecDepth 65536 in
theorem w_c10 : (Jvm.Cond.code ({ cls := "com/example/strict_absence/strictabsence/state/Tristate", name := "<init>", desc := "(Lcom/example/strict_absence/strictabsence/state/Tristate$State;Ljava/lang/Object;)V" } : Jvm.MethodName) prog_47_method_1_code (3 : Nat) (Option.none : Option Jvm.ClassFile.FieldType)).before args0 about1 = true := code_word (m := ⟨2, 0⟩) (meth := k2m0) (c := k2c0) (by decide +kernel) rfl rfl rfl (by decide +kernel)
set_option maxRecDepth 65536 in
theorem w_c11 : (Jvm.Cond.code ({ cls := "com/example/strict_absence/strictabsence/state/Tristate", name := "value", desc := "()Ljava/lang/Object;" } : Jvm.MethodName) prog_47_method_10_code (1 : Nat) (Option.some (Jvm.ClassFile.FieldType.object "java/lang/Object"))).before args0 about1 = true := code_word (m := ⟨2, 5⟩) (meth := k2m5) (c := k2c5) (by decide +kernel) rfl rfl rfl (by decide +kernel)
set_option maxRecDepth 65536 in
theorem w_c12 : (Jvm.Cond.code ({ cls := "java/lang/Integer", name := "intValue", desc := "()I" } : Jvm.MethodName) jdk_33_method_27_code (1 : Nat) (Option.some Jvm.ClassFile.FieldType.int)).before args0 about1 = true := code_word (m := ⟨10, 2⟩) (meth := k10m2) (c := k10c2) (by decide +kernel) rfl rfl rfl (by decide +kernel)
def codes1 : List Jvm.Cond := [Jvm.Cond.code x code maxLocals ret, Jvm.Cond.code ({ cls := "com/example/strict_absence/strictabsence/state/Tristate", name := "ofNullable", desc := "(Ljava/lang/Object;)Lcom/example/strict_absence/strictabsence/state/Tristate;" } : Jvm.MethodName) prog_47_method_5_code (2 : Nat) (Option.some (Jvm.ClassFile.FieldType.object "com/example/strict_absence/strictabsence/state/Tristate")), Jvm.Cond.code ({ cls := "com/example/strict_absence/strictabsence/state/Tristate", name := "ofNull", desc := "()Lcom/example/strict_absence/strictabsence/state/Tristate;" } : Jvm.MethodName) prog_47_method_3_code (1 : Nat) (Option.some (Jvm.ClassFile.FieldType.object "com/example/strict_absence/strictabsence/state/Tristate")), Jvm.Cond.code ({ cls := "com/example/strict_absence/strictabsence/state/Tristate", name := "state", desc := "()Lcom/example/strict_absence/strictabsence/state/Tristate$State;" } : Jvm.MethodName) prog_47_method_6_code (1 : Nat) (Option.some (Jvm.ClassFile.FieldType.object "com/example/strict_absence/strictabsence/state/Tristate$State")), Jvm.Cond.code ({ cls := "com/example/strict_absence/strictabsence/state/Tristate", name := "orNull", desc := "()Ljava/lang/Object;" } : Jvm.MethodName) prog_47_method_11_code (1 : Nat) (Option.some (Jvm.ClassFile.FieldType.object "java/lang/Object")), Jvm.Cond.code ({ cls := "java/lang/Integer", name := "valueOf", desc := "(I)Ljava/lang/Integer;" } : Jvm.MethodName) jdk_33_method_22_code (1 : Nat) (Option.some (Jvm.ClassFile.FieldType.object "java/lang/Integer")), Jvm.Cond.code ({ cls := "java/lang/Integer", name := "<init>", desc := "(I)V" } : Jvm.MethodName) jdk_33_method_23_code (2 : Nat) (Option.none : Option Jvm.ClassFile.FieldType), Jvm.Cond.code ({ cls := "java/lang/Number", name := "<init>", desc := "()V" } : Jvm.MethodName) jdk_18_method_1_code (1 : Nat) (Option.none : Option Jvm.ClassFile.FieldType), Jvm.Cond.code ({ cls := "java/lang/Object", name := "<init>", desc := "()V" } : Jvm.MethodName) object_method_1_code (1 : Nat) (Option.none : Option Jvm.ClassFile.FieldType), Jvm.Cond.code ({ cls := "com/example/strict_absence/strictabsence/state/Tristate", name := "of", desc := "(Ljava/lang/Object;)Lcom/example/strict_absence/strictabsence/state/Tristate;" } : Jvm.MethodName) prog_47_method_4_code (1 : Nat) (Option.some (Jvm.ClassFile.FieldType.object "com/example/strict_absence/strictabsence/state/Tristate")), Jvm.Cond.code ({ cls := "com/example/strict_absence/strictabsence/state/Tristate", name := "<init>", desc := "(Lcom/example/strict_absence/strictabsence/state/Tristate$State;Ljava/lang/Object;)V" } : Jvm.MethodName) prog_47_method_1_code (3 : Nat) (Option.none : Option Jvm.ClassFile.FieldType), Jvm.Cond.code ({ cls := "com/example/strict_absence/strictabsence/state/Tristate", name := "value", desc := "()Ljava/lang/Object;" } : Jvm.MethodName) prog_47_method_10_code (1 : Nat) (Option.some (Jvm.ClassFile.FieldType.object "java/lang/Object")), Jvm.Cond.code ({ cls := "java/lang/Integer", name := "intValue", desc := "()I" } : Jvm.MethodName) jdk_33_method_27_code (1 : Nat) (Option.some Jvm.ClassFile.FieldType.int)]
set_option maxRecDepth 65536 in
theorem codes_eq : words1.filter isCode = codes1 := rfl
theorem w_codes : ∀ c ∈ words1.filter isCode, c.before args0 about1 = true := by
  rw [codes_eq]
  intro c hc
  simp only [codes1, List.mem_cons, List.not_mem_nil, or_false] at hc
  rcases hc with rfl | rfl | rfl | rfl | rfl | rfl | rfl | rfl | rfl | rfl | rfl | rfl | rfl
  · exact w_c0
  · exact w_c1
  · exact w_c2
  · exact w_c3
  · exact w_c4
  · exact w_c5
  · exact w_c6
  · exact w_c7
  · exact w_c8
  · exact w_c9
  · exact w_c10
  · exact w_c11
  · exact w_c12
set_option maxRecDepth 65536 in
theorem w_t1 : (words1.take 24).all (fun c => isCode c || c.before args0 about1) = true := by decide +kernel
set_option maxRecDepth 65536 in
theorem w_t2 : ((words1.drop 24).take 24).all (fun c => isCode c || c.before args0 about1) = true := by decide +kernel
set_option maxRecDepth 65536 in
theorem w_t3 : (((words1.drop 24).drop 24).take 24).all (fun c => isCode c || c.before args0 about1) = true := by decide +kernel
set_option maxRecDepth 65536 in
theorem w_t4 : (((words1.drop 24).drop 24).drop 24).all (fun c => isCode c || c.before args0 about1) = true := by decide +kernel
theorem w_tables : (allAtoms (Jvm.Cond.code x code maxLocals ret :: tables_1)).before args0 about1 = true := by
  rw [allAtoms_all]
  show words1.all (fun c => c.before args0 about1) = true
  refine all_split ?_ w_codes
  rw [← List.take_append_drop 24 words1, List.all_append, w_t1, ← List.take_append_drop 24 (words1.drop 24), List.all_append, w_t2, ← List.take_append_drop 24 ((words1.drop 24).drop 24), List.all_append, w_t3, w_t4]
  rfl
set_option maxRecDepth 65536 in
theorem w_rest : rest_1_c.before args0 about1 = true := by decide +kernel
set_option maxRecDepth 65536 in
theorem w_case : (Jvm.Cond.and given_1 narrow_1).before args0 about1 = true := by decide +kernel
theorem w_applies : (headSpec (Jvm.Cond.code x code maxLocals ret :: tables_1) room_1).applies x e0.platform about1 = true :=
  (Spec.applies_iff w_frames).mpr ⟨w_running, w_runnable, w_alone, w_named, w_hears, w_ripe, w_room, w_tables⟩
theorem atStart : AtStart classFile x code maxLocals ret World_1 tables_1 room_1 Calls_1 rest_1 Pre_1 launch0 p0 e0 about1 theMethod args0 below0 :=
  ⟨lists_1, trivial, launch0.admits_env _ _ _, launch0.least_env, fairChoices_fair.cas, fairChoices_fair.clock, w_frames, w_args, w_heap, w_applies, trivial, w_rest, w_case⟩
end start1
theorem witness_1 : WitnessClaimed_1 := ⟨start1.p0, start1.e0, start1.about1, start1.theMethod, start1.args0, start1.below0, start1.atStart⟩
end Jvm.Pilot.@@N@@
