import JvmDerived
import JvmDerived.Pilot.@@N@@Statement
import JvmDerived.Pilot.@@N@@Code
set_option linter.unusedVariables false
set_option linter.unusedSimpArgs false
set_option maxRecDepth 65536
set_option maxHeartbeats 8000000
namespace Jvm.Pilot.@@N@@
open Jvm Jvm.ClassFile Sem Op Lib Jvm.Free Jvm.Stand Jvm.LawKit Jvm.RoadKit Bundle Jvm.Pilot.@@N@@.Jvm.D
abbrev vI (x : Int32) : Slot := .val (.int x)
abbrev vJ (x : Int64) : Slot := .val (.long x)
abbrev vR (x : Addr) : Slot := .val (.ref x)
abbrev vN : Slot := .val .null
/-- the run from S comes to an end at which K holds -/
def Go (p : Program) (e : Env) (below : List Frame) (K : State → Outcome → Prop) (S : State) : Prop := ∃ t o, Steps p.tables e below S t ∧ K t o
theorem Go.via {p : Program} {e : Env} {below : List Frame} {K : State → Outcome → Prop} {A B : State} (h : ∀ t, Steps p.tables e below B t → Steps p.tables e below A t) (g : Go p e below K B) : Go p e below K A := by
  obtain ⟨t, o, h1, h2⟩ := g; exact ⟨t, o, h t h1, h2⟩
/-- a method's end: what it returned, the heap and the places written answer Q -/
def EndK (s : State) (below : List Frame) (Q : Option Value → Heap → List Loc → Prop) (C S : Nat) (t : State) (o : Outcome) : Prop := t.status = .running ∧ Ended t below o ∧ ∃ v L, o = .returned v ∧ Q v t.heap L ∧ FrameEnd s o t L C S
/-- a method's contract -/
def Con (l : Launch) (Z : State) (y : MethodName) (bytes : ByteArray) (maxL : Nat) (ret : Option FieldType) (rm : Room) (as : Array Value) (h : Heap) (Q : Option Value → Heap → List Loc → Prop) : Prop :=
  ∀ ws, MetFree l y (head1 (Jvm.Cond.code y bytes maxL ret :: ws) rm) (fun a U => a = as ∧ Z.Warmed39 U.vm ∧ U.heap = h) (fun _ _ _ _ _ => True) (fun _ U o U' => ∃ v L, o = .returned v ∧ Q v U'.heap L ∧ FrameEnd U o U' L rm.cells rm.slots)
theorem Con.of {l : Launch} {Z : State} {y : MethodName} {bytes : ByteArray} {maxL : Nat} {ret : Option FieldType} {rm : Room} {as : Array Value} {h : Heap} {Q : Option Value → Heap → List Loc → Prop} {Ls : Array Slot} (hp : plainFor y = true) (hfr : ∀ m, entryFrame m as maxL = mkF m 0 Ls [])
    (body : ∀ (p : Program) (e : Env) (s : State) (m : MethodId) (below : List Frame) (meth : Method) (c : Code) (T : State), Stand p l e rm s m as below meth c T [] 0 0 → p.tables.exec = Jvm.exec ∧ c.code = bytes → c.maxLocals = maxL → Z.Warmed39 s.vm → s.vm.findClass y.cls = some m.cls → meth.name = y.name → meth.sig.returnType = ret → meth.locks = false → T.heap = h → Go p e below (EndK s below Q rm.cells rm.slots) (T.setTop (mkF m 0 Ls []))) :
    Con l Z y bytes maxL ret rm as h Q := by
  intro ws
  refine MetFree.of_bodySF hp hisR ?_
  intro p e s m args below meth c s₁ Bd hml hP hK
  obtain ⟨rfl, hZ, hh⟩ := hP
  have e0 : s₁.heap = h := by rw [← hh, Bd.state]; rfl
  obtain ⟨t, o, h1, h2⟩ := body p e s m below meth c s₁ (Stand.of_body Bd) ⟨Bd.exec, Bd.bytes⟩ hml hZ (findClass_of_methodNamed Bd.named) (name_of_methodNamed Bd.named Bd.method).1 Bd.returns Bd.notSynchronized e0
  exact ⟨t, o, castTop (hfr m) h1, h2⟩
section Steps
variable {p : Program} {l : Launch} {e : Env} {R : Room} {s : State} {m : MethodId} {args : Array Value} {below : List Frame} {meth : Method} {c : Code} {T : State} {locs : List Loc} {cells slots : Nat} {K : State → Outcome → Prop} {Z : State} {a0 : Array Value} {h : Heap} {bs : ByteArray} {Ls Ls' : Array Slot} {st : List Value} {pc pc' : Nat}

theorem gIloadN (X : Stand p l e R s m args below meth c T locs cells slots) (H : p.tables.exec = Jvm.exec ∧ c.code = bs) {k : Fin 4} {v : Int32} (hd : decode bs pc = .ok (.iload_n k, 1)) (hl : Ls[k.val]? = some (.val (.int v))) (pc' : Nat) (hp : pc + 1 = pc') (g : Go p e below K (T.setTop (mkF m pc' Ls (.int v :: st)))) : Go p e below K (T.setTop (mkF m pc Ls (st))) := by
  subst hp
  exact Go.via (fun t k => XS.iloadN (g := mkF m pc Ls (st)) X.here H.1 rfl (hb H.2 hd) hl k) g

theorem gAloadN (X : Stand p l e R s m args below meth c T locs cells slots) (H : p.tables.exec = Jvm.exec ∧ c.code = bs) {k : Fin 4} {v : Value} (hd : decode bs pc = .ok (.aload_n k, 1)) (hl : Ls[k.val]? = some (.val v)) (hv : v.isRef = true) (pc' : Nat) (hp : pc + 1 = pc') (g : Go p e below K (T.setTop (mkF m pc' Ls (v :: st)))) : Go p e below K (T.setTop (mkF m pc Ls (st))) := by
  subst hp
  exact Go.via (fun t k => XS.aloadN (g := mkF m pc Ls (st)) X.here H.1 rfl (hb H.2 hd) hl hv k) g

theorem gIstoreN (X : Stand p l e R s m args below meth c T locs cells slots) (H : p.tables.exec = Jvm.exec ∧ c.code = bs) {k : Fin 4} {v : Int32} (hd : decode bs pc = .ok (.istore_n k, 1)) (hl : storeLocals Ls k.val (.int v) = some Ls') (pc' : Nat) (hp : pc + 1 = pc') (g : Go p e below K (T.setTop (mkF m pc' Ls' (st)))) : Go p e below K (T.setTop (mkF m pc Ls (.int v :: st))) := by
  subst hp
  exact Go.via (fun t k => XS.istoreN (g := mkF m pc Ls (.int v :: st)) X.here H.1 rfl (hb H.2 hd) rfl hl k) g

theorem gAload (X : Stand p l e R s m args below meth c T locs cells slots) (H : p.tables.exec = Jvm.exec ∧ c.code = bs) {k : Nat} {v : Value} (hd : decode bs pc = .ok (.aload k, 2)) (hl : Ls[k]? = some (.val v)) (hv : v.isRef = true) (pc' : Nat) (hp : pc + 2 = pc') (g : Go p e below K (T.setTop (mkF m pc' Ls (v :: st)))) : Go p e below K (T.setTop (mkF m pc Ls (st))) := by
  subst hp
  exact Go.via (fun t k => XS.aload (g := mkF m pc Ls (st)) X.here H.1 rfl (hb H.2 hd) hl hv k) g

theorem gAstore (X : Stand p l e R s m args below meth c T locs cells slots) (H : p.tables.exec = Jvm.exec ∧ c.code = bs) {k : Nat} {v : Value} (hd : decode bs pc = .ok (.astore k, 2)) (hv : v.isRef = true) (hl : storeLocals Ls k v = some Ls') (pc' : Nat) (hp : pc + 2 = pc') (g : Go p e below K (T.setTop (mkF m pc' Ls' (st)))) : Go p e below K (T.setTop (mkF m pc Ls (v :: st))) := by
  subst hp
  exact Go.via (fun t k => XS.astore (g := mkF m pc Ls (v :: st)) X.here H.1 rfl (hb H.2 hd) rfl hv hl k) g

theorem gIconst (X : Stand p l e R s m args below meth c T locs cells slots) (H : p.tables.exec = Jvm.exec ∧ c.code = bs) {i : Int} {z : Int32} (hd : decode bs pc = .ok (.iconst i, 1)) (hz : Int32.ofInt i = z) (pc' : Nat) (hp : pc + 1 = pc') (g : Go p e below K (T.setTop (mkF m pc' Ls (.int z :: st)))) : Go p e below K (T.setTop (mkF m pc Ls (st))) := by
  subst hp hz
  exact Go.via (fun t k => XS.iconst (g := mkF m pc Ls (st)) X.here H.1 rfl (hb H.2 hd) k) g

theorem gBipush (X : Stand p l e R s m args below meth c T locs cells slots) (H : p.tables.exec = Jvm.exec ∧ c.code = bs) {i : Int} {z : Int32} (hd : decode bs pc = .ok (.bipush i, 2)) (hz : (Int8.ofInt i).toInt32 = z) (pc' : Nat) (hp : pc + 2 = pc') (g : Go p e below K (T.setTop (mkF m pc' Ls (.int z :: st)))) : Go p e below K (T.setTop (mkF m pc Ls (st))) := by
  subst hp hz
  exact Go.via (fun t k => XS.bipush (g := mkF m pc Ls (st)) X.here H.1 rfl (hb H.2 hd) k) g

theorem gSipush (X : Stand p l e R s m args below meth c T locs cells slots) (H : p.tables.exec = Jvm.exec ∧ c.code = bs) {i : Int} {z : Int32} (hd : decode bs pc = .ok (.sipush i, 3)) (hz : (Int16.ofInt i).toInt32 = z) (pc' : Nat) (hp : pc + 3 = pc') (g : Go p e below K (T.setTop (mkF m pc' Ls (.int z :: st)))) : Go p e below K (T.setTop (mkF m pc Ls (st))) := by
  subst hp hz
  exact Go.via (fun t k => XS.sipush (g := mkF m pc Ls (st)) X.here H.1 rfl (hb H.2 hd) k) g

theorem gNull (X : Stand p l e R s m args below meth c T locs cells slots) (H : p.tables.exec = Jvm.exec ∧ c.code = bs)  (hd : decode bs pc = .ok (.aconst_null, 1)) (pc' : Nat) (hp : pc + 1 = pc') (g : Go p e below K (T.setTop (mkF m pc' Ls (.null :: st)))) : Go p e below K (T.setTop (mkF m pc Ls (st))) := by
  subst hp
  exact Go.via (fun t k => XS.aconstNull (g := mkF m pc Ls (st)) X.here H.1 rfl (hb H.2 hd) k) g

theorem g_iadd (X : Stand p l e R s m args below meth c T locs cells slots) (H : p.tables.exec = Jvm.exec ∧ c.code = bs) {x y z : Int32} (hd : decode bs pc = .ok (.iadd, 1)) (hz : x + y = z) (pc' : Nat) (hp : pc + 1 = pc') (g : Go p e below K (T.setTop (mkF m pc' Ls (.int z :: st)))) : Go p e below K (T.setTop (mkF m pc Ls (.int y :: .int x :: st))) := by
  subst hp hz
  exact Go.via (fun t k => XS.iadd (g := mkF m pc Ls (.int y :: .int x :: st)) X.here H.1 rfl (hb H.2 hd) rfl k) g

theorem g_iand (X : Stand p l e R s m args below meth c T locs cells slots) (H : p.tables.exec = Jvm.exec ∧ c.code = bs) {x y z : Int32} (hd : decode bs pc = .ok (.iand, 1)) (hz : x &&& y = z) (pc' : Nat) (hp : pc + 1 = pc') (g : Go p e below K (T.setTop (mkF m pc' Ls (.int z :: st)))) : Go p e below K (T.setTop (mkF m pc Ls (.int y :: .int x :: st))) := by
  subst hp hz
  exact Go.via (fun t k => XS.iand (g := mkF m pc Ls (.int y :: .int x :: st)) X.here H.1 rfl (hb H.2 hd) rfl k) g

theorem gDup (X : Stand p l e R s m args below meth c T locs cells slots) (H : p.tables.exec = Jvm.exec ∧ c.code = bs) {v : Value} (hd : decode bs pc = .ok (.dup, 1)) (hc : v.category = 1) (pc' : Nat) (hp : pc + 1 = pc') (g : Go p e below K (T.setTop (mkF m pc' Ls (v :: v :: st)))) : Go p e below K (T.setTop (mkF m pc Ls (v :: st))) := by
  subst hp
  exact Go.via (fun t k => XS.dup (g := mkF m pc Ls (v :: st)) X.here H.1 rfl (hb H.2 hd) rfl hc k) g

theorem gGoto (X : Stand p l e R s m args below meth c T locs cells slots) (H : p.tables.exec = Jvm.exec ∧ c.code = bs)  {o : Int} (hd : decode bs pc = .ok (.goto o, 3)) (ho : 0 ≤ (pc : Int) + o) (pc' : Nat) (hp : ((pc : Int) + o).toNat = pc') (g : Go p e below K (T.setTop (mkF m pc' Ls (st)))) : Go p e below K (T.setTop (mkF m pc Ls (st))) :=
  Go.via (fun t k => XS.goto (g := mkF m pc Ls (st)) X.here H.1 rfl rfl (hb H.2 hd) ho hp k) g

theorem gIfY (X : Stand p l e R s m args below meth c T locs cells slots) (H : p.tables.exec = Jvm.exec ∧ c.code = bs) {cd : ClassFile.Cond} {x : Int32} {o : Int} (hd : decode bs pc = .ok (.ifCond cd o, 3)) (hc : ifCond.holds cd x = true) (ho : 0 ≤ (pc : Int) + o) (pc' : Nat) (hp : ((pc : Int) + o).toNat = pc') (g : Go p e below K (T.setTop (mkF m pc' Ls (st)))) : Go p e below K (T.setTop (mkF m pc Ls (.int x :: st))) :=
  Go.via (fun t k => XS.ifYes (g := mkF m pc Ls (.int x :: st)) X.here H.1 rfl rfl (hb H.2 hd) rfl hc ho hp k) g

theorem gCmpY (X : Stand p l e R s m args below meth c T locs cells slots) (H : p.tables.exec = Jvm.exec ∧ c.code = bs) {cd : ClassFile.Cond} {x y : Int32} {o : Int} (hd : decode bs pc = .ok (.if_icmp cd o, 3)) (hc : if_icmp.holds cd x y = true) (ho : 0 ≤ (pc : Int) + o) (pc' : Nat) (hp : ((pc : Int) + o).toNat = pc') (g : Go p e below K (T.setTop (mkF m pc' Ls (st)))) : Go p e below K (T.setTop (mkF m pc Ls (.int y :: .int x :: st))) :=
  Go.via (fun t k => XS.icmpYes (g := mkF m pc Ls (.int y :: .int x :: st)) X.here H.1 rfl rfl (hb H.2 hd) rfl hc ho hp k) g

theorem gNullY (X : Stand p l e R s m args below meth c T locs cells slots) (H : p.tables.exec = Jvm.exec ∧ c.code = bs)  {o : Int} (hd : decode bs pc = .ok (.ifnull o, 3)) (ho : 0 ≤ (pc : Int) + o) (pc' : Nat) (hp : ((pc : Int) + o).toNat = pc') (g : Go p e below K (T.setTop (mkF m pc' Ls (st)))) : Go p e below K (T.setTop (mkF m pc Ls (.null :: st))) :=
  Go.via (fun t k => XS.ifnullYes (g := mkF m pc Ls (.null :: st)) X.here H.1 rfl rfl (hb H.2 hd) rfl ho hp k) g

theorem gIfN (X : Stand p l e R s m args below meth c T locs cells slots) (H : p.tables.exec = Jvm.exec ∧ c.code = bs) {o : Int} {cd : ClassFile.Cond} {x : Int32} (hd : decode bs pc = .ok (.ifCond cd o, 3)) (hc : ifCond.holds cd x = false) (pc' : Nat) (hp : pc + 3 = pc') (g : Go p e below K (T.setTop (mkF m pc' Ls (st)))) : Go p e below K (T.setTop (mkF m pc Ls (.int x :: st))) := by
  subst hp
  exact Go.via (fun t k => XS.ifNo (g := mkF m pc Ls (.int x :: st)) X.here H.1 rfl (hb H.2 hd) rfl hc k) g

theorem gCmpN (X : Stand p l e R s m args below meth c T locs cells slots) (H : p.tables.exec = Jvm.exec ∧ c.code = bs) {o : Int} {cd : ClassFile.Cond} {x y : Int32} (hd : decode bs pc = .ok (.if_icmp cd o, 3)) (hc : if_icmp.holds cd x y = false) (pc' : Nat) (hp : pc + 3 = pc') (g : Go p e below K (T.setTop (mkF m pc' Ls (st)))) : Go p e below K (T.setTop (mkF m pc Ls (.int y :: .int x :: st))) := by
  subst hp
  exact Go.via (fun t k => XS.icmpNo (g := mkF m pc Ls (.int y :: .int x :: st)) X.here H.1 rfl (hb H.2 hd) rfl hc k) g

theorem gNullN (X : Stand p l e R s m args below meth c T locs cells slots) (H : p.tables.exec = Jvm.exec ∧ c.code = bs) {o : Int} {b : Addr} (hd : decode bs pc = .ok (.ifnull o, 3)) (pc' : Nat) (hp : pc + 3 = pc') (g : Go p e below K (T.setTop (mkF m pc' Ls (st)))) : Go p e below K (T.setTop (mkF m pc Ls (.ref b :: st))) := by
  subst hp
  exact Go.via (fun t k => XS.ifnullNo (g := mkF m pc Ls (.ref b :: st)) X.here H.1 rfl (hb H.2 hd) rfl k) g

theorem gGetS (X : Stand p l e R s m args below meth c T locs cells slots) (H : p.tables.exec = Jvm.exec ∧ c.code = bs) (hZ : Z.Warmed39 s.vm) {own : String} {index : Nat} (hown : s.vm.findClass own = some m.cls) {O n d : String} {v : Value} (w : (Cond.fieldLink own index O n d).before a0 Z = true) (eT : T.heap = h) (F : Sta Z h O n d v) (hd : decode bs pc = .ok (.getstatic index, 3)) (pc' : Nat) (hp : pc + 3 = pc') (g : ∀ T', Stand p l e R s m args below meth c T' locs cells slots → T'.heap = h → Go p e below K (T'.setTop (mkF m pc' Ls (v :: st)))) : Go p e below K (T.setTop (mkF m pc Ls (st))) := by
  subst hp
  obtain ⟨T', X', e', k⟩ := getS2 X H.1 hZ hown (host := "") (Or.inl w) Via.refl eT F (g := mkF m pc Ls st) rfl (hb H.2 hd)
  exact Go.via k (g T' X' e')

theorem gGetF (X : Stand p l e R s m args below meth c T locs cells slots) (H : p.tables.exec = Jvm.exec ∧ c.code = bs) (hZ : Z.Warmed39 s.vm) {own : String} {index : Nat} (hown : s.vm.findClass own = some m.cls) {R0 O n d : String} {a : Addr} {v : Value} (w : (Cond.fieldLink own index R0 n d).before a0 Z = true) (via : Via Z R0 O n d) (eT : T.heap = h) (F : Fld Z h a O n d v) (hd : decode bs pc = .ok (.getfield index, 3)) (pc' : Nat) (hp : pc + 3 = pc') (g : ∀ T', Stand p l e R s m args below meth c T' locs cells slots → T'.heap = h → Go p e below K (T'.setTop (mkF m pc' Ls (v :: st)))) : Go p e below K (T.setTop (mkF m pc Ls (.ref a :: st))) := by
  subst hp
  obtain ⟨T', X', e', k⟩ := getF X H.1 hZ hown (host := "") (Or.inl w) via eT F (g := mkF m pc Ls (.ref a :: st)) rfl rfl (hb H.2 hd)
  exact Go.via k (g T' X' e')

theorem gStatic (X : Stand p l e R s m args below meth c T locs cells slots) (H : p.tables.exec = Jvm.exec ∧ c.code = bs) (hZ : Z.Warmed39 s.vm) {own : String} {index : Nat} (hown : s.vm.findClass own = some m.cls) {y : MethodName} {bytes : ByteArray} {maxL : Nat} {ret : Option FieldType} {rm : Room} {as : Array Value} {Q : Option Value → Heap → List Loc → Prop} {W maxO : Nat} {argsL rest : List Value} {ps : List FieldType} {r : Option FieldType} (wl : (Cond.methodLink own index y).before a0 Z = true) (wst : (Cond.static y).before a0 Z = true) (hy : y.cls ≠ "java/lang/invoke/MethodHandle" ∧ y.cls ≠ "java/lang/invoke/VarHandle") (wc : (Cond.code y bytes maxL ret).before a0 Z = true) (wz : (Cond.initialized (y).cls).before a0 Z = true) (M : Con l Z y bytes maxL ret rm as h Q) (eT : T.heap = h) (hml : c.maxLocals = maxO) (hs : Ls.size = maxO) (hpd : parseMethodDescriptor y.desc = some ⟨ps, r⟩) (hlen : argsL.length = ps.length) (hstack : st = argsL.reverse ++ rest) (has : argsL.toArray = as) (hd : decode bs pc = .ok (.invokestatic index, 3)) (pc' : Nat) (hp : pc + 3 = pc')
    (g : ∀ v T' L, Q v T'.heap L → Stand p l e R s m args below meth c T' (locs ++ L) (cells + rm.cells) (slots + rm.slots) → Go p e below K (T'.setTop (mkF m pc' Ls (v.toList ++ rest)))) (hW : (rest.map fun v => v.category).sum ≤ W := by exact Nat.le_of_eq rfl) (hf : rm.frames + 1 ≤ R.frames := by decide) (hl : W + (maxL + 11) + rm.locals ≤ R.locals := by decide) (hc : cells + rm.cells ≤ R.cells := by decide) (hsl : slots + rm.slots ≤ R.slots := by decide) : Go p e below K (T.setTop (mkF m pc Ls (st))) := by
  subst hp has
  obtain ⟨v, _, ⟨T', L', k', n'⟩, -, X', ⟨L, hQ, l', y', z'⟩, k⟩ := Jvm.LawKit.callS X H.1 (y := y) hown (mvT hZ wl) (mvT hZ wst) (mvT hZ wz) (mvT hZ wc) hy (backOf (W := W) (M []) hZ wc wz hf hl) (g := mkF m pc Ls st) rfl (hs.trans hml.symm) (argsL := argsL) (rest := rest) (lenOf hpd hlen) hstack (by show 2 * 0 + _ ≤ _; omega) (hb H.2 hd) (fun _ _ => ⟨rfl, eT, hc, hsl⟩)
  dsimp only [Pt.U, Pt.locs, Pt.cells, Pt.slots] at X' l' y' z' k hQ
  subst l' y' z'
  exact Go.via k (g v T' L hQ X')

theorem gSpecial (X : Stand p l e R s m args below meth c T locs cells slots) (H : p.tables.exec = Jvm.exec ∧ c.code = bs) (hZ : Z.Warmed39 s.vm) {own : String} {index : Nat} (hown : s.vm.findClass own = some m.cls) {y : MethodName} {bytes : ByteArray} {maxL : Nat} {ret : Option FieldType} {rm : Room} {as : Array Value} {Q : Option Value → Heap → List Loc → Prop} {W maxO : Nat} {argsL rest : List Value} {ps : List FieldType} {r : Option FieldType} (hin : y.name = "<init>") (hrn : ret = none) (wl : (Cond.methodLink own index y).before a0 Z = true) (wi : (Cond.instanceMethod y).before a0 Z = true) (hy : y.cls ≠ "java/lang/invoke/MethodHandle" ∧ y.cls ≠ "java/lang/invoke/VarHandle") {b : Addr} (wc : (Cond.code y bytes maxL ret).before a0 Z = true) (wz : (Cond.initialized (y).cls).before a0 Z = true) (M : Con l Z y bytes maxL ret rm as h Q) (eT : T.heap = h) (hml : c.maxLocals = maxO) (hs : Ls.size = maxO) (hpd : parseMethodDescriptor y.desc = some ⟨ps, r⟩) (hlen : argsL.length = ps.length) (hstack : st = argsL.reverse ++ .ref b :: rest) (has : (.ref b :: argsL).toArray = as) (hd : decode bs pc = .ok (.invokespecial index, 3)) (pc' : Nat) (hp : pc + 3 = pc')
    (g : ∀ v T' L, Q v T'.heap L → Stand p l e R s m args below meth c T' (locs ++ L) (cells + rm.cells) (slots + rm.slots) → Go p e below K (T'.setTop (mkF m pc' Ls (v.toList ++ rest)))) (hW : (rest.map fun v => v.category).sum ≤ W := by exact Nat.le_of_eq rfl) (hf : rm.frames + 1 ≤ R.frames := by decide) (hl : W + (maxL + 11) + rm.locals ≤ R.locals := by decide) (hc : cells + rm.cells ≤ R.cells := by decide) (hsl : slots + rm.slots ≤ R.slots := by decide) : Go p e below K (T.setTop (mkF m pc Ls (st))) := by
  subst hp has
  subst hrn
  obtain ⟨v, _, ⟨T', L', k', n'⟩, -, X', ⟨L, hQ, l', y', z'⟩, k⟩ := X.specialBack H.1 (y := y) hin hown (mvT hZ wl) (mvT hZ wi) (mvT hZ wc) hy (backOf (W := W) (M []) hZ wc wz hf hl) (g := mkF m pc Ls st) rfl (hs.trans hml.symm) (Steps.refl _) (a := b) (argsL := argsL) (rest := rest) (lenOf hpd hlen) hstack (by show 2 * 0 + _ ≤ _; omega) (hb H.2 hd) (fun _ _ => ⟨rfl, eT, hc, hsl⟩)
  dsimp only [Pt.U, Pt.locs, Pt.cells, Pt.slots] at X' l' y' z' k hQ
  subst l' y' z'
  exact Go.via (fun t q => k.trans q) (g v T' L hQ X')

theorem gRetN (X : Stand p l e R s m args below meth c T locs cells slots) (H : p.tables.exec = Jvm.exec ∧ c.code = bs) (hlk : meth.locks = false) {Q : Option Value → Heap → List Loc → Prop} {C S : Nat} {t : FieldType} {z : Int32} (hret : meth.sig.returnType = some t) (ht : t = .boolean ∨ t = .byte ∨ t = .char ∨ t = .short) (hd : decode bs pc = .ok (.ireturn, 1)) (eT : T.heap = h) (q : Q (some (.int (nar t z))) h locs) (hC : cells ≤ C := by decide) (hS : slots ≤ S := by decide) : Go p e below (EndK s below Q C S) (T.setTop (mkF m pc Ls (.int z :: st))) := by
  subst eT
  obtain ⟨fs, hr, hrun, hended, hW, hsame⟩ := X.leave (v := (some (.int (nar t z)))) (fun h => by rw [hret] at h; cases h) hlk
  exact ⟨_, _, retN X H.1 hret ht (hb H.2 hd) hr, hrun, hended, _, _, rfl, q, ⟨_, rfl⟩, hW, hsame.mono hC hS⟩

theorem gRetA (X : Stand p l e R s m args below meth c T locs cells slots) (H : p.tables.exec = Jvm.exec ∧ c.code = bs) (hlk : meth.locks = false) {Q : Option Value → Heap → List Loc → Prop} {C S : Nat} {w : Value} {t : FieldType} (hret : meth.sig.returnType = some t) (hn : narrow t w = w) (ht : t.isReference = true) (hv : w.isRef = true) (hd : decode bs pc = .ok (.areturn, 1)) (eT : T.heap = h) (q : Q (some w) h locs) (hC : cells ≤ C := by decide) (hS : slots ≤ S := by decide) : Go p e below (EndK s below Q C S) (T.setTop (mkF m pc Ls (w :: st))) := by
  subst eT
  obtain ⟨fs, hr, hrun, hended, hW, hsame⟩ := X.leave (v := (some w)) (fun h => by rw [hret] at h; cases h) hlk
  exact ⟨_, _, retOut X H.1 hret hn (Or.inr (Or.inr (Or.inr (Or.inr ⟨rfl, ht, hv⟩)))) (hb H.2 hd) hr, hrun, hended, _, _, rfl, q, ⟨_, rfl⟩, hW, hsame.mono hC hS⟩

theorem gRetV (X : Stand p l e R s m args below meth c T locs cells slots) (H : p.tables.exec = Jvm.exec ∧ c.code = bs) (hlk : meth.locks = false) {Q : Option Value → Heap → List Loc → Prop} {C S : Nat}  (hret : meth.sig.returnType = none) (hd : decode bs pc = .ok (.return_, 1)) (eT : T.heap = h) (q : Q none h locs) (hC : cells ≤ C := by decide) (hS : slots ≤ S := by decide) : Go p e below (EndK s below Q C S) (T.setTop (mkF m pc Ls ([]))) := by
  subst eT
  obtain ⟨fs, hr, hrun, hended, hW, hsame⟩ := X.leave (v := none) (fun _ => rfl) hlk
  exact ⟨_, _, X.returnOut H.1 hret (hb H.2 hd) hr, hrun, hended, _, _, rfl, q, ⟨_, rfl⟩, hW, hsame.mono hC hS⟩

theorem gNew (X : Stand p l e R s m args below meth c T locs cells slots) (H : p.tables.exec = Jvm.exec ∧ c.code = bs) (hZ : Z.Warmed39 s.vm) {own : String} {index : Nat} (hown : s.vm.findClass own = some m.cls) {C : String} {n : Nat} (w : (Cond.classLink own index C).before a0 Z = true) (wi : (Cond.instantiable C n).before a0 Z = true) (wz : (Cond.initialized C).before a0 Z = true) (eT : T.heap = h) (hc : cells + 1 ≤ R.cells) (hsl : slots + n ≤ R.slots) (hd : decode bs pc = .ok (.new index, 3)) (pc' : Nat) (hp : pc + 3 = pc')
    (g : ∀ T' h' b, Stand p l e R s m args below meth c T' locs (cells + 1) (slots + n) → T'.heap = h' → h.size = b → Ext h h' → Exa Z h' b C → (∀ {O nm d : String} {ty : FieldType}, Laid Z a0 C O nm d → parseFieldDescriptor d = some ty → Fld Z h' b O nm d (defaultValue ty)) → Go p e below K (T'.setTop (mkF m pc' Ls (.ref b :: st)))) : Go p e below K (T.setTop (mkF m pc Ls (st))) := by
  subst hp
  obtain ⟨T', h', X', e', E', A', D', -, k⟩ := newO X H.1 hZ hown w wi wz eT (g := mkF m pc Ls st) rfl (hb H.2 hd) hc hsl
  exact Go.via k (g T' h' _ X' e' rfl E' A' D')

theorem gInitO (X : Stand p l e R s m args below meth c T locs cells slots) (H : p.tables.exec = Jvm.exec ∧ c.code = bs) (hZ : Z.Warmed39 s.vm) {own : String} {index : Nat} (hown : s.vm.findClass own = some m.cls) (w1 : (Cond.methodLink own index Lib.objectInit).before a0 Z = true) (w2 : (Cond.instanceMethod Lib.objectInit).before a0 Z = true) (w3 : (Cond.code Lib.objectInit ⟨#[0xb1]⟩ 1 none).before a0 Z = true) (eT : T.heap = h) {a : Addr} {V maxO : Nat} (hml : c.maxLocals = maxO) (hs : Ls.size = maxO) (hW : (st.map fun v => v.category).sum ≤ V) (hf : 1 ≤ R.frames) (hl : V + 12 ≤ R.locals) (hd : decode bs pc = .ok (.invokespecial index, 3)) (pc' : Nat) (hp : pc + 3 = pc')
    (g : ∀ T', Stand p l e R s m args below meth c T' locs cells slots → T'.heap = h → Go p e below K (T'.setTop (mkF m pc' Ls st))) : Go p e below K (T.setTop (mkF m pc Ls (.ref a :: st))) := by
  subst hp
  obtain ⟨T', X', e', k⟩ := initO X H.1 hZ hown w1 w2 w3 eT (g := mkF m pc Ls (.ref a :: st)) rfl (hs.trans hml.symm) rfl (hb H.2 hd) hf (W := V) (by show 2 * 0 + _ ≤ _; omega) hl
  exact Go.via k (g T' X' e')

theorem gPutF (X : Stand p l e R s m args below meth c T locs cells slots) (H : p.tables.exec = Jvm.exec ∧ c.code = bs) (hZ : Z.Warmed39 s.vm) {own : String} {index : Nat} (hown : s.vm.findClass own = some m.cls) {R0 O n d C : String} {kk : Nat} {ty : FieldType} (w : (Cond.fieldLink own index R0 n d).before a0 Z = true) (via : Via Z R0 O n d) (eT : T.heap = h) {a : Addr} {v v' old : Value} (F : Fld Z h a O n d old) (E : Exa Z h a C) (L : (Cond.lays C O n d).before a0 Z = true ∨ ((Cond.laysFinal C O n d).before a0 Z = true ∧ own = O ∧ meth.name = "<init>")) (wi : (Cond.instantiable C kk).before a0 Z = true) (hty : parseFieldDescriptor d = some ty) (hn : narrow ty v = v') (hf : fits ty v' = true) (hd : decode bs pc = .ok (.putfield index, 3)) (pc' : Nat) (hp : pc + 3 = pc')
    (g : ∀ T' h', Stand p l e R s m args below meth c T' (locs ++ [⟨a, Jvm.RoadKit.slotOf Z O n d⟩]) cells slots → T'.heap = h' → Wr h h' a (Jvm.RoadKit.slotOf Z O n d) v' → Fld Z h' a O n d v' → Go p e below K (T'.setTop (mkF m pc' Ls st))) : Go p e below K (T.setTop (mkF m pc Ls (v :: .ref a :: st))) := by
  subst hp
  obtain ⟨T', h', X', e', W', k⟩ := putFN X H.1 hZ hown w via eT F E L wi hty hn hf (g := mkF m pc Ls (v :: .ref a :: st)) rfl rfl (hb H.2 hd)
  exact Go.via k (g T' h' X' e' W' (F.same W'))

theorem gVirt (X : Stand p l e R s m args below meth c T locs cells slots) (H : p.tables.exec = Jvm.exec ∧ c.code = bs) (hZ : Z.Warmed39 s.vm) {own : String} {index : Nat} (hown : s.vm.findClass own = some m.cls) {C : String} {y : MethodName} {bytes : ByteArray} {maxL : Nat} {ret : Option FieldType} {rm : Room} {as : Array Value} {Q : Option Value → Heap → List Loc → Prop} {W maxO : Nat} {argsL rest : List Value} {ps : List FieldType} {r : Option FieldType} (wl : (Cond.methodLink own index y).before a0 Z = true) (wd : (Cond.declares y).before a0 Z = true) (wse : (Cond.selects C y y).before a0 Z = true) (wi : (Cond.instanceMethod y).before a0 Z = true) (hy : y.cls ≠ "java/lang/invoke/MethodHandle" ∧ y.cls ≠ "java/lang/invoke/VarHandle") {b : Addr} (E : Exa Z h b C) (wc : (Cond.code y bytes maxL ret).before a0 Z = true) (wz : (Cond.initialized (y).cls).before a0 Z = true) (M : Con l Z y bytes maxL ret rm as h Q) (eT : T.heap = h) (hml : c.maxLocals = maxO) (hs : Ls.size = maxO) (hpd : parseMethodDescriptor y.desc = some ⟨ps, r⟩) (hlen : argsL.length = ps.length) (hstack : st = argsL.reverse ++ .ref b :: rest) (has : (.ref b :: argsL).toArray = as) (hd : decode bs pc = .ok (.invokevirtual index, 3)) (pc' : Nat) (hp : pc + 3 = pc')
    (g : ∀ v T' L, Q v T'.heap L → Stand p l e R s m args below meth c T' (locs ++ L) (cells + rm.cells) (slots + rm.slots) → Go p e below K (T'.setTop (mkF m pc' Ls (v.toList ++ rest)))) (hW : (rest.map fun v => v.category).sum ≤ W := by exact Nat.le_of_eq rfl) (hf : rm.frames + 1 ≤ R.frames := by decide) (hl : W + (maxL + 11) + rm.locals ≤ R.locals := by decide) (hc : cells + rm.cells ≤ R.cells := by decide) (hsl : slots + rm.slots ≤ R.slots := by decide) : Go p e below K (T.setTop (mkF m pc Ls (st))) := by
  subst hp has
  obtain ⟨cB, kB, q1, q2, q3⟩ := isOf hZ eT E
  obtain ⟨v, _, ⟨T', L', k', n'⟩, -, X', ⟨L, hQ, l', y', z'⟩, k⟩ := X.virtualBack H.1 (y := y) (z := y) hown (mvT hZ wl) (mvT hZ wd) (notFace_of_selects (args := #[]) (mvT hZ wse)) (mvT hZ wse) (mvT hZ wi) hy (backOf (W := W) (M []) hZ wc wz hf hl) q1 q3 (g := mkF m pc Ls st) rfl (hs.trans hml.symm) (Steps.refl _) (argsL := argsL) (rest := rest) (lenOf hpd hlen) hstack (by show 2 * 0 + _ ≤ _; omega) (hb H.2 hd) (fun _ _ => ⟨rfl, eT, hc, hsl⟩)
  dsimp only [Pt.U, Pt.locs, Pt.cells, Pt.slots] at X' l' y' z' k hQ
  subst l' y' z'
  exact Go.via (fun t q => k.trans q) (g v T' L hQ X')

theorem gBoxload (X : Stand p l e R s m args below meth c T locs cells slots) (H : p.tables.exec = Jvm.exec ∧ c.code = bs) (hZ : Z.Warmed39 s.vm) (eT : T.heap = h) {a b : Addr} {cl : Cell} {ty : FieldType} {j : Int32} (hty : ty.isReference = true) (A : Arr Z h a cl ty) (hin : ¬ (j < 0 ∨ cl.slots.size ≤ j.toNatClampNeg)) (hv : cl.slots[j.toNatClampNeg]? = some (.ref b)) (hd : decode bs pc = .ok (.aaload, 1)) (pc' : Nat) (hp : pc + 1 = pc') (g : Go p e below K (T.setTop (mkF m pc' Ls (.ref b :: st)))) : Go p e below K (T.setTop (mkF m pc Ls (.int j :: .ref a :: st))) := by
  subst hp
  exact Go.via (X.aaload H.1 (j := j) (v := .ref b) (by rw [eT]; exact A.1) (State.isArrayOf_alike hZ.alike A.2.1) hty A.2.2 hin hv (g := mkF m pc Ls (.int j :: .ref a :: st)) rfl rfl (hb H.2 hd)) g

end Steps
theorem eqI {args : Array Value} {s : State} {t : Term} {w : Addr} {C n d : String} {k : Int32} (ev : t.eval args s none [] s = some (.ref w)) (q : (Jvm.Cond.eq (.field t C n d) (.int k)).value args s none s [] = some true) : Fld s s.heap w C n d (.int k) := by
  refine Fld.start ?_
  rw [← fld_at (args := args) (first := s) (o := none) (idx := []) ev]
  obtain ⟨x, y, h1, h2, k1, k2⟩ := cmp_v (Or.inl q)
  obtain rfl : y = .int k := (Option.some.inj ((Term.int_eval k).symm.trans h2)).symm
  obtain ⟨z, rfl⟩ := k2
  simp [Cond.value, h1, h2] at q
  rw [h1, q]
theorem eqR {args : Array Value} {s : State} {t t' : Term} {w w' : Addr} {C n d : String} (ev : t.eval args s none [] s = some (.ref w)) (ev' : t'.eval args s none [] s = some (.ref w')) (q : (Jvm.Cond.eq (.field t C n d) t').value args s none s [] = some true) : Fld s s.heap w C n d (.ref w') := by
  refine Fld.start ?_
  rw [← fld_at (args := args) (first := s) (o := none) (idx := []) ev]
  obtain ⟨x, y, h1, h2, k1, k2⟩ := cmp_v (Or.inl q)
  obtain rfl : y = .ref w' := (Option.some.inj (ev'.symm.trans h2)).symm
  have hx : x.isRef = true := k2.2
  have := gotT (eq_R h1 h2 hx rfl) q
  rw [h1, this]
theorem eqN {args : Array Value} {s : State} {t : Term} {w : Addr} {C n d : String} (ev : t.eval args s none [] s = some (.ref w)) (q : (Jvm.Cond.eq (.field t C n d) .null).value args s none s [] = some true) : Fld s s.heap w C n d .null := by
  refine Fld.start ?_
  rw [← fld_at (args := args) (first := s) (o := none) (idx := []) ev]
  exact null_v q
theorem fldE {args : Array Value} {s : State} {t : Term} {w w' : Addr} {C n d : String} (ev : t.eval args s none [] s = some (.ref w)) (ev' : (Term.field t C n d).eval args s none [] s = some (.ref w')) : Fld s s.heap w C n d (.ref w') :=
  Fld.start ((fld_at (args := args) (first := s) (o := none) (idx := []) ev).symm.trans ev')
theorem t32_ne {a b : Int32} (h : a < b) : ¬ (a = b) := by rw [Int32.lt_iff_toInt_lt] at h; rw [← Int32.toInt_inj]; omega
theorem t32_as {a b : Int32} (h : a < b) : ¬ (b < a) := by rw [Int32.lt_iff_toInt_lt] at *; omega
theorem t32_ir {a b : Int32} (h : a = b) : ¬ (a < b) := by subst h; rw [Int32.lt_iff_toInt_lt]; omega
theorem t32_tot {a b : Int32} (h : ¬ (a < b)) (h2 : ¬ (a = b)) : b < a := by rw [Int32.lt_iff_toInt_lt] at *; rw [← Int32.toInt_inj] at h2; omega
theorem t32_eq {a b : Int32} (h : ¬ (a < b)) (h2 : ¬ (b < a)) : a = b := by rw [Int32.lt_iff_toInt_lt] at *; rw [← Int32.toInt_inj]; omega
theorem t64_ne {a b : Int64} (h : a < b) : ¬ (a = b) := by rw [Int64.lt_iff_toInt_lt] at h; rw [← Int64.toInt_inj]; omega
theorem t64_as {a b : Int64} (h : a < b) : ¬ (b < a) := by rw [Int64.lt_iff_toInt_lt] at *; omega
theorem t64_ir {a b : Int64} (h : a = b) : ¬ (a < b) := by subst h; rw [Int64.lt_iff_toInt_lt]; omega
theorem t64_tot {a b : Int64} (h : ¬ (a < b)) (h2 : ¬ (a = b)) : b < a := by rw [Int64.lt_iff_toInt_lt] at *; rw [← Int64.toInt_inj] at h2; omega
theorem t64_eq {a b : Int64} (h : ¬ (a < b)) (h2 : ¬ (b < a)) : a = b := by rw [Int64.lt_iff_toInt_lt] at *; rw [← Int64.toInt_inj]; omega

theorem wd0 : (Jvm.Cond.methodLink "com/example/rowcast/rowcast/EndBoundedPinLaw" (7 : Nat) ({ cls := "java/lang/Integer", name := "valueOf", desc := "(I)Ljava/lang/Integer;" } : Jvm.MethodName)) ∈ tables_1 := List.mem_of_getElem? (i := 0) rfl
theorem wd1 : (Jvm.Cond.static ({ cls := "java/lang/Integer", name := "valueOf", desc := "(I)Ljava/lang/Integer;" } : Jvm.MethodName)) ∈ tables_1 := List.mem_of_getElem? (i := 1) rfl
theorem wd2 : (Jvm.Cond.initialized "java/lang/Integer") ∈ tables_1 := List.mem_of_getElem? (i := 2) rfl
theorem wd3 : (Jvm.Cond.code ({ cls := "java/lang/Integer", name := "valueOf", desc := "(I)Ljava/lang/Integer;" } : Jvm.MethodName) jdk_33_method_22_code (1 : Nat) (Option.some (Jvm.ClassFile.FieldType.object "java/lang/Integer"))) ∈ tables_1 := List.mem_of_getElem? (i := 3) rfl
theorem wd4 : (Jvm.Cond.fieldLink "java/lang/Integer" (191 : Nat) "java/lang/Integer$IntegerCache" "high" "I") ∈ tables_1 := List.mem_of_getElem? (i := 4) rfl
theorem wd5 : (Jvm.Cond.initialized "java/lang/Integer$IntegerCache") ∈ tables_1 := List.mem_of_getElem? (i := 5) rfl
theorem wd6 : (Jvm.Cond.fieldLink "java/lang/Integer" (195 : Nat) "java/lang/Integer$IntegerCache" "cache" "[Ljava/lang/Integer;") ∈ tables_1 := List.mem_of_getElem? (i := 6) rfl
theorem wd7 : (Jvm.Cond.classLink "com/example/rowcast/rowcast/EndBoundedPinLaw" (13 : Nat) "com/example/rowcast/rowcast/ValueSet$End") ∈ tables_1 := List.mem_of_getElem? (i := 7) rfl
theorem wd8 : (Jvm.Cond.instantiable "com/example/rowcast/rowcast/ValueSet$End" (2 : Nat)) ∈ tables_1 := List.mem_of_getElem? (i := 8) rfl
theorem wd9 : (Jvm.Cond.initialized "com/example/rowcast/rowcast/ValueSet$End") ∈ tables_1 := List.mem_of_getElem? (i := 9) rfl
theorem wd10 : (Jvm.Cond.methodLink "com/example/rowcast/rowcast/EndBoundedPinLaw" (15 : Nat) ({ cls := "com/example/rowcast/rowcast/ValueSet$End", name := "<init>", desc := "(Ljava/lang/Object;Z)V" } : Jvm.MethodName)) ∈ tables_1 := List.mem_of_getElem? (i := 10) rfl
theorem wd11 : (Jvm.Cond.instanceMethod ({ cls := "com/example/rowcast/rowcast/ValueSet$End", name := "<init>", desc := "(Ljava/lang/Object;Z)V" } : Jvm.MethodName)) ∈ tables_1 := List.mem_of_getElem? (i := 11) rfl
theorem wd12 : (Jvm.Cond.code ({ cls := "com/example/rowcast/rowcast/ValueSet$End", name := "<init>", desc := "(Ljava/lang/Object;Z)V" } : Jvm.MethodName) prog_77_method_1_code (3 : Nat) (Option.none : Option Jvm.ClassFile.FieldType)) ∈ tables_1 := List.mem_of_getElem? (i := 12) rfl
theorem wd13 : (Jvm.Cond.methodLink "com/example/rowcast/rowcast/ValueSet$End" (1 : Nat) ({ cls := "java/lang/Record", name := "<init>", desc := "()V" } : Jvm.MethodName)) ∈ tables_1 := List.mem_of_getElem? (i := 13) rfl
theorem wd14 : (Jvm.Cond.instanceMethod ({ cls := "java/lang/Record", name := "<init>", desc := "()V" } : Jvm.MethodName)) ∈ tables_1 := List.mem_of_getElem? (i := 14) rfl
theorem wd16 : (Jvm.Cond.initialized "java/lang/Record") ∈ tables_1 := List.mem_of_getElem? (i := 16) rfl
theorem wd17 : (Jvm.Cond.code ({ cls := "java/lang/Record", name := "<init>", desc := "()V" } : Jvm.MethodName) jdk_30_method_1_code (1 : Nat) (Option.none : Option Jvm.ClassFile.FieldType)) ∈ tables_1 := List.mem_of_getElem? (i := 17) rfl
theorem wd18 : (Jvm.Cond.methodLink "java/lang/Record" (1 : Nat) ({ cls := "java/lang/Object", name := "<init>", desc := "()V" } : Jvm.MethodName)) ∈ tables_1 := List.mem_of_getElem? (i := 18) rfl
theorem wd19 : (Jvm.Cond.instanceMethod ({ cls := "java/lang/Object", name := "<init>", desc := "()V" } : Jvm.MethodName)) ∈ tables_1 := List.mem_of_getElem? (i := 19) rfl
theorem wd20 : (Jvm.Cond.code ({ cls := "java/lang/Object", name := "<init>", desc := "()V" } : Jvm.MethodName) object_method_1_code (1 : Nat) (Option.none : Option Jvm.ClassFile.FieldType)) ∈ tables_1 := List.mem_of_getElem? (i := 20) rfl
theorem wd21 : (Jvm.Cond.fieldLink "com/example/rowcast/rowcast/ValueSet$End" (7 : Nat) "com/example/rowcast/rowcast/ValueSet$End" "value" "Ljava/lang/Object;") ∈ tables_1 := List.mem_of_getElem? (i := 21) rfl
theorem wd22 : (Jvm.Cond.laysFinal "com/example/rowcast/rowcast/ValueSet$End" "com/example/rowcast/rowcast/ValueSet$End" "value" "Ljava/lang/Object;") ∈ tables_1 := List.mem_of_getElem? (i := 22) rfl
theorem wd23 : (Jvm.Cond.fieldLink "com/example/rowcast/rowcast/ValueSet$End" (13 : Nat) "com/example/rowcast/rowcast/ValueSet$End" "included" "Z") ∈ tables_1 := List.mem_of_getElem? (i := 23) rfl
theorem wd24 : (Jvm.Cond.laysFinal "com/example/rowcast/rowcast/ValueSet$End" "com/example/rowcast/rowcast/ValueSet$End" "included" "Z") ∈ tables_1 := List.mem_of_getElem? (i := 24) rfl
theorem wd25 : (Jvm.Cond.methodLink "com/example/rowcast/rowcast/EndBoundedPinLaw" (18 : Nat) ({ cls := "com/example/rowcast/rowcast/ValueSet$End", name := "bounded", desc := "()Z" } : Jvm.MethodName)) ∈ tables_1 := List.mem_of_getElem? (i := 25) rfl
theorem wd26 : (Jvm.Cond.declares ({ cls := "com/example/rowcast/rowcast/ValueSet$End", name := "bounded", desc := "()Z" } : Jvm.MethodName)) ∈ tables_1 := List.mem_of_getElem? (i := 26) rfl
theorem wd27 : (Jvm.Cond.instanceMethod ({ cls := "com/example/rowcast/rowcast/ValueSet$End", name := "bounded", desc := "()Z" } : Jvm.MethodName)) ∈ tables_1 := List.mem_of_getElem? (i := 27) rfl
theorem wd28 : (Jvm.Cond.selects "com/example/rowcast/rowcast/ValueSet$End" ({ cls := "com/example/rowcast/rowcast/ValueSet$End", name := "bounded", desc := "()Z" } : Jvm.MethodName) ({ cls := "com/example/rowcast/rowcast/ValueSet$End", name := "bounded", desc := "()Z" } : Jvm.MethodName)) ∈ tables_1 := List.mem_of_getElem? (i := 28) rfl
theorem wd29 : (Jvm.Cond.code ({ cls := "com/example/rowcast/rowcast/ValueSet$End", name := "bounded", desc := "()Z" } : Jvm.MethodName) prog_77_method_3_code (1 : Nat) (Option.some Jvm.ClassFile.FieldType.boolean)) ∈ tables_1 := List.mem_of_getElem? (i := 29) rfl
theorem wd30 : (Jvm.Cond.methodLink "com/example/rowcast/rowcast/EndBoundedPinLaw" (22 : Nat) ({ cls := "com/example/rowcast/rowcast/ValueSet$End", name := "none", desc := "()Lcom/example/rowcast/rowcast/ValueSet$End;" } : Jvm.MethodName)) ∈ tables_1 := List.mem_of_getElem? (i := 30) rfl
theorem wd31 : (Jvm.Cond.static ({ cls := "com/example/rowcast/rowcast/ValueSet$End", name := "none", desc := "()Lcom/example/rowcast/rowcast/ValueSet$End;" } : Jvm.MethodName)) ∈ tables_1 := List.mem_of_getElem? (i := 31) rfl
theorem wd32 : (Jvm.Cond.code ({ cls := "com/example/rowcast/rowcast/ValueSet$End", name := "none", desc := "()Lcom/example/rowcast/rowcast/ValueSet$End;" } : Jvm.MethodName) prog_77_method_2_code (0 : Nat) (Option.some (Jvm.ClassFile.FieldType.object "com/example/rowcast/rowcast/ValueSet$End"))) ∈ tables_1 := List.mem_of_getElem? (i := 32) rfl
theorem wd33 : (Jvm.Cond.classLink "com/example/rowcast/rowcast/ValueSet$End" (8 : Nat) "com/example/rowcast/rowcast/ValueSet$End") ∈ tables_1 := List.mem_of_getElem? (i := 33) rfl
theorem wd34 : (Jvm.Cond.methodLink "com/example/rowcast/rowcast/ValueSet$End" (17 : Nat) ({ cls := "com/example/rowcast/rowcast/ValueSet$End", name := "<init>", desc := "(Ljava/lang/Object;Z)V" } : Jvm.MethodName)) ∈ tables_1 := List.mem_of_getElem? (i := 34) rfl
theorem wd35 : (Jvm.Cond.methodLink "com/example/rowcast/rowcast/EndBoundedPinLaw" (26 : Nat) ({ cls := "com/example/rowcast/rowcast/ValueSet$End", name := "flipped", desc := "()Lcom/example/rowcast/rowcast/ValueSet$End;" } : Jvm.MethodName)) ∈ tables_1 := List.mem_of_getElem? (i := 35) rfl
theorem wd36 : (Jvm.Cond.declares ({ cls := "com/example/rowcast/rowcast/ValueSet$End", name := "flipped", desc := "()Lcom/example/rowcast/rowcast/ValueSet$End;" } : Jvm.MethodName)) ∈ tables_1 := List.mem_of_getElem? (i := 36) rfl
theorem wd37 : (Jvm.Cond.instanceMethod ({ cls := "com/example/rowcast/rowcast/ValueSet$End", name := "flipped", desc := "()Lcom/example/rowcast/rowcast/ValueSet$End;" } : Jvm.MethodName)) ∈ tables_1 := List.mem_of_getElem? (i := 37) rfl
theorem wd38 : (Jvm.Cond.selects "com/example/rowcast/rowcast/ValueSet$End" ({ cls := "com/example/rowcast/rowcast/ValueSet$End", name := "flipped", desc := "()Lcom/example/rowcast/rowcast/ValueSet$End;" } : Jvm.MethodName) ({ cls := "com/example/rowcast/rowcast/ValueSet$End", name := "flipped", desc := "()Lcom/example/rowcast/rowcast/ValueSet$End;" } : Jvm.MethodName)) ∈ tables_1 := List.mem_of_getElem? (i := 38) rfl
theorem wd39 : (Jvm.Cond.code ({ cls := "com/example/rowcast/rowcast/ValueSet$End", name := "flipped", desc := "()Lcom/example/rowcast/rowcast/ValueSet$End;" } : Jvm.MethodName) prog_77_method_4_code (1 : Nat) (Option.some (Jvm.ClassFile.FieldType.object "com/example/rowcast/rowcast/ValueSet$End"))) ∈ tables_1 := List.mem_of_getElem? (i := 39) rfl
theorem wd40 : (Jvm.Cond.methodLink "com/example/rowcast/rowcast/ValueSet$End" (20 : Nat) ({ cls := "com/example/rowcast/rowcast/ValueSet$End", name := "bounded", desc := "()Z" } : Jvm.MethodName)) ∈ tables_1 := List.mem_of_getElem? (i := 40) rfl
theorem wd41 : (Jvm.Cond.classLink "java/lang/Integer" (1 : Nat) "java/lang/Integer") ∈ tables_1 := List.mem_of_getElem? (i := 41) rfl
theorem wd42 : (Jvm.Cond.instantiable "java/lang/Integer" (1 : Nat)) ∈ tables_1 := List.mem_of_getElem? (i := 42) rfl
theorem wd43 : (Jvm.Cond.methodLink "java/lang/Integer" (199 : Nat) ({ cls := "java/lang/Integer", name := "<init>", desc := "(I)V" } : Jvm.MethodName)) ∈ tables_1 := List.mem_of_getElem? (i := 43) rfl
theorem wd44 : (Jvm.Cond.instanceMethod ({ cls := "java/lang/Integer", name := "<init>", desc := "(I)V" } : Jvm.MethodName)) ∈ tables_1 := List.mem_of_getElem? (i := 44) rfl
theorem wd46 : (Jvm.Cond.code ({ cls := "java/lang/Integer", name := "<init>", desc := "(I)V" } : Jvm.MethodName) jdk_33_method_23_code (2 : Nat) (Option.none : Option Jvm.ClassFile.FieldType)) ∈ tables_1 := List.mem_of_getElem? (i := 46) rfl
theorem wd47 : (Jvm.Cond.methodLink "java/lang/Integer" (202 : Nat) ({ cls := "java/lang/Number", name := "<init>", desc := "()V" } : Jvm.MethodName)) ∈ tables_1 := List.mem_of_getElem? (i := 47) rfl
theorem wd48 : (Jvm.Cond.instanceMethod ({ cls := "java/lang/Number", name := "<init>", desc := "()V" } : Jvm.MethodName)) ∈ tables_1 := List.mem_of_getElem? (i := 48) rfl
theorem wd51 : (Jvm.Cond.initialized "java/lang/Number") ∈ tables_1 := List.mem_of_getElem? (i := 51) rfl
theorem wd52 : (Jvm.Cond.code ({ cls := "java/lang/Number", name := "<init>", desc := "()V" } : Jvm.MethodName) jdk_18_method_1_code (1 : Nat) (Option.none : Option Jvm.ClassFile.FieldType)) ∈ tables_1 := List.mem_of_getElem? (i := 52) rfl
theorem wd53 : (Jvm.Cond.methodLink "java/lang/Number" (1 : Nat) ({ cls := "java/lang/Object", name := "<init>", desc := "()V" } : Jvm.MethodName)) ∈ tables_1 := List.mem_of_getElem? (i := 53) rfl
theorem wd54 : (Jvm.Cond.fieldLink "java/lang/Integer" (205 : Nat) "java/lang/Integer" "value" "I") ∈ tables_1 := List.mem_of_getElem? (i := 54) rfl
theorem wd55 : (Jvm.Cond.laysFinal "java/lang/Integer" "java/lang/Integer" "value" "I") ∈ tables_1 := List.mem_of_getElem? (i := 55) rfl
theorem d1_0 : decode jdk_33_method_22_code 0 = .ok (.iload_n 0, 1) := by decide +kernel
theorem d1_1 : decode jdk_33_method_22_code 1 = .ok (.bipush (-128), 2) := by decide +kernel
theorem d1_3 : decode jdk_33_method_22_code 3 = .ok (.if_icmp .lt 20, 3) := by decide +kernel
theorem d1_6 : decode jdk_33_method_22_code 6 = .ok (.iload_n 0, 1) := by decide +kernel
theorem d1_7 : decode jdk_33_method_22_code 7 = .ok (.getstatic 191, 3) := by decide +kernel
theorem d1_10 : decode jdk_33_method_22_code 10 = .ok (.if_icmp .gt 13, 3) := by decide +kernel
theorem d1_13 : decode jdk_33_method_22_code 13 = .ok (.getstatic 195, 3) := by decide +kernel
theorem d1_16 : decode jdk_33_method_22_code 16 = .ok (.iload_n 0, 1) := by decide +kernel
theorem d1_17 : decode jdk_33_method_22_code 17 = .ok (.sipush 128, 3) := by decide +kernel
theorem d1_20 : decode jdk_33_method_22_code 20 = .ok (.iadd, 1) := by decide +kernel
theorem d1_21 : decode jdk_33_method_22_code 21 = .ok (.aaload, 1) := by decide +kernel
theorem d1_22 : decode jdk_33_method_22_code 22 = .ok (.areturn, 1) := by decide +kernel
theorem d1_23 : decode jdk_33_method_22_code 23 = .ok (.new 1, 3) := by decide +kernel
theorem d1_26 : decode jdk_33_method_22_code 26 = .ok (.dup, 1) := by decide +kernel
theorem d1_27 : decode jdk_33_method_22_code 27 = .ok (.iload_n 0, 1) := by decide +kernel
theorem d1_28 : decode jdk_33_method_22_code 28 = .ok (.invokespecial 199, 3) := by decide +kernel
theorem d1_31 : decode jdk_33_method_22_code 31 = .ok (.areturn, 1) := by decide +kernel
theorem d2_0 : decode prog_77_method_1_code 0 = .ok (.aload_n 0, 1) := by decide +kernel
theorem d2_1 : decode prog_77_method_1_code 1 = .ok (.invokespecial 1, 3) := by decide +kernel
theorem d2_4 : decode prog_77_method_1_code 4 = .ok (.aload_n 0, 1) := by decide +kernel
theorem d2_5 : decode prog_77_method_1_code 5 = .ok (.aload_n 1, 1) := by decide +kernel
theorem d2_6 : decode prog_77_method_1_code 6 = .ok (.putfield 7, 3) := by decide +kernel
theorem d2_9 : decode prog_77_method_1_code 9 = .ok (.aload_n 0, 1) := by decide +kernel
theorem d2_10 : decode prog_77_method_1_code 10 = .ok (.iload_n 2, 1) := by decide +kernel
theorem d2_11 : decode prog_77_method_1_code 11 = .ok (.putfield 13, 3) := by decide +kernel
theorem d2_14 : decode prog_77_method_1_code 14 = .ok (.return_, 1) := by decide +kernel
theorem d3_0 : decode jdk_30_method_1_code 0 = .ok (.aload_n 0, 1) := by decide +kernel
theorem d3_1 : decode jdk_30_method_1_code 1 = .ok (.invokespecial 1, 3) := by decide +kernel
theorem d3_4 : decode jdk_30_method_1_code 4 = .ok (.return_, 1) := by decide +kernel
theorem d5_0 : decode prog_77_method_3_code 0 = .ok (.aload_n 0, 1) := by decide +kernel
theorem d5_1 : decode prog_77_method_3_code 1 = .ok (.getfield 7, 3) := by decide +kernel
theorem d5_4 : decode prog_77_method_3_code 4 = .ok (.ifnull 7, 3) := by decide +kernel
theorem d5_7 : decode prog_77_method_3_code 7 = .ok (.iconst 1, 1) := by decide +kernel
theorem d5_8 : decode prog_77_method_3_code 8 = .ok (.goto 4, 3) := by decide +kernel
theorem d5_11 : decode prog_77_method_3_code 11 = .ok (.iconst 0, 1) := by decide +kernel
theorem d5_12 : decode prog_77_method_3_code 12 = .ok (.ireturn, 1) := by decide +kernel
theorem d6_0 : decode prog_77_method_2_code 0 = .ok (.new 8, 3) := by decide +kernel
theorem d6_3 : decode prog_77_method_2_code 3 = .ok (.dup, 1) := by decide +kernel
theorem d6_4 : decode prog_77_method_2_code 4 = .ok (.aconst_null, 1) := by decide +kernel
theorem d6_5 : decode prog_77_method_2_code 5 = .ok (.iconst 0, 1) := by decide +kernel
theorem d6_6 : decode prog_77_method_2_code 6 = .ok (.invokespecial 17, 3) := by decide +kernel
theorem d6_9 : decode prog_77_method_2_code 9 = .ok (.areturn, 1) := by decide +kernel
theorem d7_0 : decode prog_77_method_4_code 0 = .ok (.aload_n 0, 1) := by decide +kernel
theorem d7_1 : decode prog_77_method_4_code 1 = .ok (.invokevirtual 20, 3) := by decide +kernel
theorem d7_4 : decode prog_77_method_4_code 4 = .ok (.ifCond .eq 29, 3) := by decide +kernel
theorem d7_7 : decode prog_77_method_4_code 7 = .ok (.new 8, 3) := by decide +kernel
theorem d7_10 : decode prog_77_method_4_code 10 = .ok (.dup, 1) := by decide +kernel
theorem d7_11 : decode prog_77_method_4_code 11 = .ok (.aload_n 0, 1) := by decide +kernel
theorem d7_12 : decode prog_77_method_4_code 12 = .ok (.getfield 7, 3) := by decide +kernel
theorem d7_15 : decode prog_77_method_4_code 15 = .ok (.aload_n 0, 1) := by decide +kernel
theorem d7_16 : decode prog_77_method_4_code 16 = .ok (.getfield 13, 3) := by decide +kernel
theorem d7_19 : decode prog_77_method_4_code 19 = .ok (.ifCond .ne 7, 3) := by decide +kernel
theorem d7_22 : decode prog_77_method_4_code 22 = .ok (.iconst 1, 1) := by decide +kernel
theorem d7_23 : decode prog_77_method_4_code 23 = .ok (.goto 4, 3) := by decide +kernel
theorem d7_26 : decode prog_77_method_4_code 26 = .ok (.iconst 0, 1) := by decide +kernel
theorem d7_27 : decode prog_77_method_4_code 27 = .ok (.invokespecial 17, 3) := by decide +kernel
theorem d7_30 : decode prog_77_method_4_code 30 = .ok (.goto 4, 3) := by decide +kernel
theorem d7_33 : decode prog_77_method_4_code 33 = .ok (.aload_n 0, 1) := by decide +kernel
theorem d7_34 : decode prog_77_method_4_code 34 = .ok (.areturn, 1) := by decide +kernel
theorem d8_0 : decode jdk_33_method_23_code 0 = .ok (.aload_n 0, 1) := by decide +kernel
theorem d8_1 : decode jdk_33_method_23_code 1 = .ok (.invokespecial 202, 3) := by decide +kernel
theorem d8_4 : decode jdk_33_method_23_code 4 = .ok (.aload_n 0, 1) := by decide +kernel
theorem d8_5 : decode jdk_33_method_23_code 5 = .ok (.iload_n 1, 1) := by decide +kernel
theorem d8_6 : decode jdk_33_method_23_code 6 = .ok (.putfield 205, 3) := by decide +kernel
theorem d8_9 : decode jdk_33_method_23_code 9 = .ok (.return_, 1) := by decide +kernel
theorem d9_0 : decode jdk_18_method_1_code 0 = .ok (.aload_n 0, 1) := by decide +kernel
theorem d9_1 : decode jdk_18_method_1_code 1 = .ok (.invokespecial 1, 3) := by decide +kernel
theorem d9_4 : decode jdk_18_method_1_code 4 = .ok (.return_, 1) := by decide +kernel
theorem pd0 : parseMethodDescriptor "()V" = some ⟨[], none⟩ := by decide +kernel
theorem pd1 : parseMethodDescriptor "(Ljava/lang/Object;Z)V" = some ⟨[(.object "java/lang/Object"), .boolean], none⟩ := by decide +kernel
theorem pd2 : parseMethodDescriptor "()Z" = some ⟨[], some .boolean⟩ := by decide +kernel
theorem pd3 : parseMethodDescriptor "()Lcom/example/rowcast/rowcast/ValueSet$End;" = some ⟨[], some (.object "com/example/rowcast/rowcast/ValueSet$End")⟩ := by decide +kernel
theorem pd4 : parseMethodDescriptor "(I)V" = some ⟨[.int], none⟩ := by decide +kernel
theorem pd5 : parseMethodDescriptor "(I)Ljava/lang/Integer;" = some ⟨[.int], some (.object "java/lang/Integer")⟩ := by decide +kernel
theorem pn0 : plainName "com/example/rowcast/rowcast/EndBoundedPinLaw" = true := by first | (simp [plainName, overriddenIn]; done) | decide +kernel
theorem pn1 : plainName "java/lang/Integer" = true := by first | (simp [plainName, overriddenIn]; done) | decide +kernel
theorem pn2 : plainName "com/example/rowcast/rowcast/ValueSet$End" = true := by first | (simp [plainName, overriddenIn]; done) | decide +kernel
theorem pn3 : plainName "java/lang/Record" = true := by first | (simp [plainName, overriddenIn]; done) | decide +kernel
theorem pn5 : plainName "com/example/rowcast/rowcast/ValueSet$End" = true := by first | (simp [plainName, overriddenIn]; done) | decide +kernel
theorem pn6 : plainName "com/example/rowcast/rowcast/ValueSet$End" = true := by first | (simp [plainName, overriddenIn]; done) | decide +kernel
theorem pn7 : plainName "com/example/rowcast/rowcast/ValueSet$End" = true := by first | (simp [plainName, overriddenIn]; done) | decide +kernel
theorem pn8 : plainName "java/lang/Integer" = true := by first | (simp [plainName, overriddenIn]; done) | decide +kernel
theorem pn9 : plainName "java/lang/Number" = true := by first | (simp [plainName, overriddenIn]; done) | decide +kernel
def World (Z : State) (w_cacheI : Addr) (cl_cacheI : Cell) : Prop :=
  Sta Z Z.heap "java/lang/Integer$IntegerCache" "high" "I" (.int (127 : Int32)) ∧
  Sta Z Z.heap "java/lang/Integer$IntegerCache" "cache" "[Ljava/lang/Integer;" (.ref w_cacheI) ∧
  Bxs Z w_cacheI cl_cacheI "java/lang/Integer" "I" (256 : Int32) (fun j => .int (j - 128))
abbrev Bg (Z : State) (a0 : Array Value) (w_cacheI : Addr) (cl_cacheI : Cell) : Prop := (∀ d ∈ tables_1, d.before a0 Z = true) ∧ World Z w_cacheI cl_cacheI
abbrev yM8 : MethodName := ⟨"java/lang/Integer", "<init>", "(I)V"⟩
abbrev yM9 : MethodName := ⟨"java/lang/Number", "<init>", "()V"⟩
abbrev cs2 : String := "java/lang/Integer"
abbrev yM7 : MethodName := ⟨"com/example/rowcast/rowcast/ValueSet$End", "flipped", "()Lcom/example/rowcast/rowcast/ValueSet$End;"⟩
abbrev yM6 : MethodName := ⟨"com/example/rowcast/rowcast/ValueSet$End", "none", "()Lcom/example/rowcast/rowcast/ValueSet$End;"⟩
abbrev yM5 : MethodName := ⟨"com/example/rowcast/rowcast/ValueSet$End", "bounded", "()Z"⟩
abbrev yM2 : MethodName := ⟨"com/example/rowcast/rowcast/ValueSet$End", "<init>", "(Ljava/lang/Object;Z)V"⟩
abbrev yM3 : MethodName := ⟨"java/lang/Record", "<init>", "()V"⟩
abbrev cs1 : String := "Ljava/lang/Object;"
abbrev cs0 : String := "com/example/rowcast/rowcast/ValueSet$End"
theorem extT {a b c : Heap} (x : Ext a b) (y : Ext b c) : Ext a c := ⟨Nat.le_trans x.1 y.1, fun q r s => y.2 q r (x.2 q r s)⟩
theorem extR (a : Heap) : Ext a a := ⟨Nat.le_refl _, fun _ _ q => q⟩
theorem extK {h0 h h' : Heap} {ws : List Addr} (O : Ext h0 h) (K : Keep h h' ws) (q : ∀ x ∈ ws, h0.size ≤ x) : Ext h0 h' := ⟨Nat.le_trans O.1 K.1, fun x c r => K.2.1 x c (O.2 x c r) fun z => absurd (Array.getElem?_eq_some_iff.mp r).1 (Nat.not_lt.mpr (q x z))⟩
theorem extW {h0 h h' : Heap} {a : Addr} {sl : Nat} {v : Value} (O : Ext h0 h) (W : Wr h h' a sl v) (q : h0.size ≤ a) : Ext h0 h' := extK O (Keep.of_wr W) (allS q all0)
theorem leW {h0 h h' : Heap} {a : Addr} {sl : Nat} {v : Value} (q : h0.size ≤ h.size) (W : Wr h h' a sl v) : h0.size ≤ h'.size := by rw [W.size]; exact q
theorem neB {a b : Addr} {h : Heap} (x : a < h.size) (y : h.size ≤ b) : a ≠ b := Nat.ne_of_lt (Nat.lt_of_lt_of_le x y)

theorem stoV {Z : State} {h : Heap} {a y : Addr} {k : ClassId} {ty : FieldType} {n : Int32} {vs : List Value} {d : Value} {C : String} (A : Arv Z h a k ty n vs d) (O : Ovr Z k C) (I : Ins Z h y C true) : Sto Z h a (.ref y) := by
  obtain ⟨c, Ar, q, -⟩ := A
  exact Sto.ofV Ar q O I

theorem box_in {x : Int32} (h1 : ¬ (x < (-128 : Int32))) (h2 : ¬ ((127 : Int32) < x)) {c : Cell} (S : c.slots.size = (256 : Int32).toNatClampNeg) : ¬ ((x + (128 : Int32)) < 0 ∨ c.slots.size ≤ (x + (128 : Int32)).toNatClampNeg) := by
  refine inb_of S ?_
  have h3 := c_iadd x (128 : Int32)
  have r := rng32 (x + (128 : Int32))
  have e1 : (128 : Int32).toInt = 128 := by decide
  have e2 : (-128 : Int32).toInt = -128 := by decide
  have e3 : (127 : Int32).toInt = 127 := by decide
  have e4 : (256 : Int32).toInt = 256 := by decide
  have e5 : (0 : Int32).toInt = 0 := by decide
  rw [Int32.lt_iff_toInt_lt] at h1 h2
  rw [Int32.lt_iff_toInt_lt, Int32.lt_iff_toInt_lt]
  omega
theorem box_v (x : Int32) : (x + (128 : Int32)) - 128 = x := by
  rw [← Int32.toInt_inj]
  have h3 := c_iadd x (128 : Int32)
  have h4 := c_isub (x + (128 : Int32)) 128
  have e1 : (128 : Int32).toInt = 128 := by decide
  have r := rng32 x
  have r2 := rng32 ((x + (128 : Int32)) - 128)
  rw [e1] at h3 h4
  omega
theorem boxL_r {x : Int64} (h1 : ¬ (x < (-128 : Int64))) (h2 : ¬ ((127 : Int64) < x)) : ¬ ((x.toInt32) < (-128 : Int32)) ∧ ¬ ((127 : Int32) < (x.toInt32)) ∧ (x.toInt32).toInt64 = x := by
  have h3 := c_l2i x
  have r := rng32 x.toInt32
  have e2 : (-128 : Int64).toInt = -128 := by decide
  have e3 : (127 : Int64).toInt = 127 := by decide
  have e4 : (-128 : Int32).toInt = -128 := by decide
  have e5 : (127 : Int32).toInt = 127 := by decide
  rw [Int64.lt_iff_toInt_lt] at h1 h2
  refine ⟨?_, ?_, ?_⟩
  · rw [Int32.lt_iff_toInt_lt]; omega
  · rw [Int32.lt_iff_toInt_lt]; omega
  · rw [← Int64.toInt_inj, c_i2l]; omega

theorem sn0 {Z : State} {a0 : Array Value} (hw : ∀ d ∈ tables_1, d.before a0 Z = true) : Jvm.RoadKit.slotOf Z "com/example/rowcast/rowcast/ValueSet$End" "included" "Z" ≠ Jvm.RoadKit.slotOf Z "com/example/rowcast/rowcast/ValueSet$End" "value" "Ljava/lang/Object;" := slot_ne (Or.inr (hw _ wd24)) (Or.inr (hw _ wd22)) (by decide) (t := .boolean) (t' := (.object "java/lang/Object")) (by decide) (by decide)
theorem sn1 {Z : State} {a0 : Array Value} (hw : ∀ d ∈ tables_1, d.before a0 Z = true) : Jvm.RoadKit.slotOf Z "com/example/rowcast/rowcast/ValueSet$End" "value" "Ljava/lang/Object;" ≠ Jvm.RoadKit.slotOf Z "com/example/rowcast/rowcast/ValueSet$End" "included" "Z" := slot_ne (Or.inr (hw _ wd22)) (Or.inr (hw _ wd24)) (by decide) (t := (.object "java/lang/Object")) (t' := .boolean) (by decide) (by decide)
section Walk
variable {l : Launch} {Z : State} {a0 : Array Value} {w_cacheI : Addr} {cl_cacheI : Cell}
theorem rm5_3 (B : Bg Z a0 w_cacheI cl_cacheI) (ro0 : Addr) (h : Heap) (O : Ext Z.heap h) :
    Con l Z yM3 jdk_30_method_1_code 1 none ({ frames := 1, cells := 0, slots := 0, locals := 12 } : Room) #[(.ref ro0)] h (fun v h' L => v = none ∧ h' = h ∧ L = []) := by
  have hw := B.1
  refine Con.of (plainFor_of_name pn3) (Ls := #[vR ro0]) (fun m => by first | rfl | (simp [entryFrame, mkF, argsToLocals, Value.category]; done)) ?_
  intro p e s m below meth c T0 X0 H hml hZ hown hnm hret hlk e0
  refine gAloadN X0 H d3_0 rfl rfl 1 rfl ?_
  refine gInitO X0 H hZ hown (hw _ wd18) (hw _ wd19) (hw _ wd20) e0 hml rfl (V := 0) (Nat.le_of_eq rfl) (by decide) (by decide) d3_1 4 rfl ?_
  intro T4 X4 e4
  exact gRetV X4 H hlk hret d3_4 e4 ⟨rfl, rfl, rfl⟩
theorem rm19_2 (B : Bg Z a0 w_cacheI cl_cacheI) (ro0 : Addr) (h : Heap) (O : Ext Z.heap h) (hp8 : Exa Z h ro0 cs0) (hp9 : Fld Z h ro0 cs0 "value" cs1 .null) (hp10 : Z.heap.size ≤ ro0) (hp13 : Fld Z h ro0 cs0 "included" "Z" (.int 0)) :
    Con l Z yM2 prog_77_method_1_code 3 none ({ frames := 2, cells := 0, slots := 0, locals := 24 } : Room) #[(.ref ro0), .null, (.int 0)] h (fun v h' L => v = none ∧ Fr Z.heap.size L ∧ Keep h h' [ro0] ∧ Exa Z h' ro0 cs0 ∧ Fld Z h' ro0 cs0 "value" cs1 .null ∧ Fld Z h' ro0 cs0 "included" "Z" (.int 0)) := by
  have hw := B.1
  refine Con.of (plainFor_of_name pn2) (Ls := #[vR ro0, vN, vI 0]) (fun m => by first | rfl | (simp [entryFrame, mkF, argsToLocals, Value.category]; done)) ?_
  intro p e s m below meth c T0 X0 H hml hZ hown hnm hret hlk e0
  have N0 := Fr.nil Z.heap.size
  refine gAloadN X0 H d2_0 rfl rfl 1 rfl ?_
  refine gSpecial X0 H hZ hown rfl rfl (hw _ wd13) (hw _ wd14) (by decide) (hw _ wd17) (hw _ wd16) (rm5_3 B ro0 _ O) e0 hml rfl pd0 rfl (W := 0) (argsL := []) (rest := []) rfl rfl d2_1 4 rfl ?_
  intro v6 T6 L6 hq6 X6
  obtain ⟨rfl, e6, rfl⟩ := hq6
  have N6 := Fr.app N0 (Fr.nil _)
  show Go _ _ _ _ (State.setTop _ (mkF _ 4 _ []))
  refine gAloadN X6 H d2_4 rfl rfl 5 rfl ?_
  refine gAloadN X6 H d2_5 rfl rfl 6 rfl ?_
  refine gPutF X6 H hZ hown (hw _ wd21) Via.refl e6 hp9 hp8 (Or.inr ⟨(hw _ wd22), rfl, hnm⟩) (hw _ wd8) (ty := (.object "java/lang/Object")) (by decide) (v' := .null) rfl rfl d2_6 9 rfl ?_
  intro T7 h7 X7 e7 W7 F7
  have O7 := extW O W7 hp10
  have N7 := Fr.snoc X7 N6 hp10
  refine gAloadN X7 H d2_9 rfl rfl 10 rfl ?_
  refine gIloadN X7 H d2_10 rfl 11 rfl ?_
  have c12 := (hp8.wr W7)
  have c14 := (hp13.other W7 (Or.inr (sn0 hw)))
  refine gPutF X7 H hZ hown (hw _ wd23) Via.refl e7 c14 c12 (Or.inr ⟨(hw _ wd24), rfl, hnm⟩) (hw _ wd8) (ty := .boolean) (by decide) (v' := (.int 0)) rfl rfl d2_11 14 rfl ?_
  intro T11 h11 X11 e11 W11 F11
  have O11 := extW O7 W11 hp10
  have N11 := Fr.snoc X11 N7 hp10
  have c15 := (c12.wr W11)
  have c16 := (F7.other W11 (Or.inr (sn1 hw)))
  have K_17 := (Keep.refl h [ro0]).wr W7 (Or.inl (List.mem_of_getElem? (i := 0) rfl))
  have K_18 := K_17.wr W11 (Or.inl (List.mem_of_getElem? (i := 0) rfl))
  exact gRetV X11 H hlk hret d2_14 e11 ⟨rfl, N11, K_18, c15, c16, F11⟩
theorem rm23_5 (B : Bg Z a0 w_cacheI cl_cacheI) (ro0 : Addr) (h : Heap) (O : Ext Z.heap h) (hp21 : Fld Z h ro0 cs0 "value" cs1 .null) :
    Con l Z yM5 prog_77_method_3_code 1 (some .boolean) ({ frames := 0, cells := 0, slots := 0, locals := 0 } : Room) #[(.ref ro0)] h (fun v h' L => v = some (.int 0) ∧ h' = h ∧ L = []) := by
  have hw := B.1
  refine Con.of (plainFor_of_name pn5) (Ls := #[vR ro0]) (fun m => by first | rfl | (simp [entryFrame, mkF, argsToLocals, Value.category]; done)) ?_
  intro p e s m below meth c T0 X0 H hml hZ hown hnm hret hlk e0
  refine gAloadN X0 H d5_0 rfl rfl 1 rfl ?_
  refine gGetF X0 H hZ hown (hw _ wd21) Via.refl e0 hp21 d5_1 4 rfl ?_
  intro T22 X22 e22
  refine gNullY X22 H d5_4 (by decide) 11 rfl ?_
  refine gIconst X22 H d5_11 (z := 0) rfl 12 rfl ?_
  exact gRetN X22 H hlk hret (t := .boolean) (by simp) d5_12 e22 ⟨rfl, rfl, rfl⟩
theorem rm29_6 (B : Bg Z a0 w_cacheI cl_cacheI) (h : Heap) (O : Ext Z.heap h) :
    Con l Z yM6 prog_77_method_2_code 0 (some (.object "com/example/rowcast/rowcast/ValueSet$End")) ({ frames := 3, cells := 1, slots := 2, locals := 39 } : Room) #[] h (fun v h' L => ∃ (b25 : Addr), v = some (.ref b25) ∧ Fr Z.heap.size L ∧ Keep h h' [] ∧ h.size ≤ b25 ∧ Exa Z h' b25 cs0 ∧ Fld Z h' b25 cs0 "value" cs1 .null ∧ Fld Z h' b25 cs0 "included" "Z" (.int 0)) := by
  have hw := B.1
  refine Con.of (plainFor_of_name pn6) (Ls := #[]) (fun m => by first | rfl | (simp [entryFrame, mkF, argsToLocals, Value.category]; done)) ?_
  intro p e s m below meth c T0 X0 H hml hZ hown hnm hret hlk e0
  have M0 := Nat.le_refl h.size
  have N0 := Fr.nil Z.heap.size
  refine gNew X0 H hZ hown (hw _ wd33) (hw _ wd8) (hw _ wd9) e0 (by decide) (by decide) d6_0 3 rfl ?_
  intro T25 h25 b25 X25 e25 z25 E25 A25 D25
  have G_b25 := Nat.le_trans O.1 (Nat.le_of_eq z25)
  have sz_b25 := Nat.le_trans M0 (Nat.le_of_eq z25)
  have O25 := extT O E25
  have F25_value : Fld Z h25 b25 cs0 "value" cs1 .null := D25 (Or.inr (hw _ wd22)) (ty := (.object "java/lang/Object")) (by decide)
  have F25_included : Fld Z h25 b25 cs0 "included" "Z" (.int 0) := D25 (Or.inr (hw _ wd24)) (ty := .boolean) (by decide)
  refine gDup X25 H d6_3 rfl 4 rfl ?_
  refine gNull X25 H d6_4 5 rfl ?_
  refine gIconst X25 H d6_5 (z := 0) rfl 6 rfl ?_
  refine gSpecial X25 H hZ hown rfl rfl (hw _ wd34) (hw _ wd11) (by decide) (hw _ wd12) (hw _ wd9) (rm19_2 B b25 _ O25 A25 F25_value G_b25 F25_included) e25 hml rfl pd1 rfl (W := 1) (argsL := [.null, (.int 0)]) (rest := [(.ref b25)]) rfl rfl d6_6 9 rfl ?_
  intro v26 T26 L26 hq26 X26
  obtain ⟨rfl, N26q, K26, f26_0, f26_1, f26_2⟩ := hq26
  have O26 := extK O25 K26 (allS G_b25 all0)
  have N26 := Fr.app N0 N26q
  show Go _ _ _ _ (State.setTop _ (mkF _ 9 _ [(.ref b25)]))
  have K_27 := (Keep.refl h []).ext E25
  have K_28 := K_27.trans K26 (allS (Or.inr sz_b25) all0)
  exact gRetA X26 H hlk hret rfl rfl rfl d6_9 rfl ⟨b25, rfl, N26, K_28, sz_b25, f26_0, f26_1, f26_2⟩
theorem rm37_7 (B : Bg Z a0 w_cacheI cl_cacheI) (ro0 : Addr) (h : Heap) (O : Ext Z.heap h) (hp34 : Exa Z h ro0 cs0) (hp35 : Fld Z h ro0 cs0 "value" cs1 .null) :
    Con l Z yM7 prog_77_method_4_code 1 (some (.object "com/example/rowcast/rowcast/ValueSet$End")) ({ frames := 1, cells := 0, slots := 0, locals := 12 } : Room) #[(.ref ro0)] h (fun v h' L => v = some (.ref ro0) ∧ h' = h ∧ L = []) := by
  have hw := B.1
  refine Con.of (plainFor_of_name pn7) (Ls := #[vR ro0]) (fun m => by first | rfl | (simp [entryFrame, mkF, argsToLocals, Value.category]; done)) ?_
  intro p e s m below meth c T0 X0 H hml hZ hown hnm hret hlk e0
  have N0 := Fr.nil Z.heap.size
  refine gAloadN X0 H d7_0 rfl rfl 1 rfl ?_
  refine gVirt X0 H hZ hown (hw _ wd40) (hw _ wd26) (hw _ wd28) (hw _ wd27) (by decide) hp34 (hw _ wd29) (hw _ wd9) (rm23_5 B ro0 _ O hp35) e0 hml rfl pd2 rfl (W := 0) (argsL := []) (rest := []) rfl rfl d7_1 4 rfl ?_
  intro v36 T36 L36 hq36 X36
  obtain ⟨rfl, e36, rfl⟩ := hq36
  have N36 := Fr.app N0 (Fr.nil _)
  show Go _ _ _ _ (State.setTop _ (mkF _ 4 _ [(.int 0)]))
  refine gIfY X36 H d7_4 (by decide) (by decide) 33 rfl ?_
  refine gAloadN X36 H d7_33 rfl rfl 34 rfl ?_
  exact gRetA X36 H hlk hret rfl rfl rfl d7_34 e36 ⟨rfl, rfl, rfl⟩
theorem rm55_2 (B : Bg Z a0 w_cacheI cl_cacheI) (ro0 : Addr) (h : Heap) (O : Ext Z.heap h) (hp44 : Exa Z h ro0 cs0) (hp45 : Fld Z h ro0 cs0 "value" cs1 .null) (hp46 : Z.heap.size ≤ ro0) (hp49 : Fld Z h ro0 cs0 "included" "Z" (.int 0)) :
    Con l Z yM2 prog_77_method_1_code 3 none ({ frames := 2, cells := 0, slots := 0, locals := 24 } : Room) #[(.ref ro0), .null, (.int 1)] h (fun v h' L => v = none ∧ Fr Z.heap.size L ∧ Keep h h' [ro0] ∧ Exa Z h' ro0 cs0 ∧ Fld Z h' ro0 cs0 "value" cs1 .null ∧ Fld Z h' ro0 cs0 "included" "Z" (.int 1)) := by
  have hw := B.1
  refine Con.of (plainFor_of_name pn2) (Ls := #[vR ro0, vN, vI 1]) (fun m => by first | rfl | (simp [entryFrame, mkF, argsToLocals, Value.category]; done)) ?_
  intro p e s m below meth c T0 X0 H hml hZ hown hnm hret hlk e0
  have N0 := Fr.nil Z.heap.size
  refine gAloadN X0 H d2_0 rfl rfl 1 rfl ?_
  refine gSpecial X0 H hZ hown rfl rfl (hw _ wd13) (hw _ wd14) (by decide) (hw _ wd17) (hw _ wd16) (rm5_3 B ro0 _ O) e0 hml rfl pd0 rfl (W := 0) (argsL := []) (rest := []) rfl rfl d2_1 4 rfl ?_
  intro v42 T42 L42 hq42 X42
  obtain ⟨rfl, e42, rfl⟩ := hq42
  have N42 := Fr.app N0 (Fr.nil _)
  show Go _ _ _ _ (State.setTop _ (mkF _ 4 _ []))
  refine gAloadN X42 H d2_4 rfl rfl 5 rfl ?_
  refine gAloadN X42 H d2_5 rfl rfl 6 rfl ?_
  refine gPutF X42 H hZ hown (hw _ wd21) Via.refl e42 hp45 hp44 (Or.inr ⟨(hw _ wd22), rfl, hnm⟩) (hw _ wd8) (ty := (.object "java/lang/Object")) (by decide) (v' := .null) rfl rfl d2_6 9 rfl ?_
  intro T43 h43 X43 e43 W43 F43
  have O43 := extW O W43 hp46
  have N43 := Fr.snoc X43 N42 hp46
  refine gAloadN X43 H d2_9 rfl rfl 10 rfl ?_
  refine gIloadN X43 H d2_10 rfl 11 rfl ?_
  have c48 := (hp44.wr W43)
  have c50 := (hp49.other W43 (Or.inr (sn0 hw)))
  refine gPutF X43 H hZ hown (hw _ wd23) Via.refl e43 c50 c48 (Or.inr ⟨(hw _ wd24), rfl, hnm⟩) (hw _ wd8) (ty := .boolean) (by decide) (v' := (.int 1)) rfl rfl d2_11 14 rfl ?_
  intro T47 h47 X47 e47 W47 F47
  have O47 := extW O43 W47 hp46
  have N47 := Fr.snoc X47 N43 hp46
  have c51 := (c48.wr W47)
  have c52 := (F43.other W47 (Or.inr (sn1 hw)))
  have K_53 := (Keep.refl h [ro0]).wr W43 (Or.inl (List.mem_of_getElem? (i := 0) rfl))
  have K_54 := K_53.wr W47 (Or.inl (List.mem_of_getElem? (i := 0) rfl))
  exact gRetV X47 H hlk hret d2_14 e47 ⟨rfl, N47, K_54, c51, c52, F47⟩
theorem rm69_9 (B : Bg Z a0 w_cacheI cl_cacheI) (ro0 : Addr) (h : Heap) (O : Ext Z.heap h) :
    Con l Z yM9 jdk_18_method_1_code 1 none ({ frames := 1, cells := 0, slots := 0, locals := 12 } : Room) #[(.ref ro0)] h (fun v h' L => v = none ∧ h' = h ∧ L = []) := by
  have hw := B.1
  refine Con.of (plainFor_of_name pn9) (Ls := #[vR ro0]) (fun m => by first | rfl | (simp [entryFrame, mkF, argsToLocals, Value.category]; done)) ?_
  intro p e s m below meth c T0 X0 H hml hZ hown hnm hret hlk e0
  refine gAloadN X0 H d9_0 rfl rfl 1 rfl ?_
  refine gInitO X0 H hZ hown (hw _ wd53) (hw _ wd19) (hw _ wd20) e0 hml rfl (V := 0) (Nat.le_of_eq rfl) (by decide) (by decide) d9_1 4 rfl ?_
  intro T68 X68 e68
  exact gRetV X68 H hlk hret d9_4 e68 ⟨rfl, rfl, rfl⟩
theorem rm77_8 (B : Bg Z a0 w_cacheI cl_cacheI) (ro0 : Addr) (vi1 : Int32) (h : Heap) (O : Ext Z.heap h) (hp72 : Exa Z h ro0 cs2) (hp73 : Fld Z h ro0 cs2 "value" "I" (.int 0)) (hp74 : Z.heap.size ≤ ro0) :
    Con l Z yM8 jdk_33_method_23_code 2 none ({ frames := 2, cells := 0, slots := 0, locals := 24 } : Room) #[(.ref ro0), (.int vi1)] h (fun v h' L => v = none ∧ Fr Z.heap.size L ∧ Keep h h' [ro0] ∧ Exa Z h' ro0 cs2 ∧ Fld Z h' ro0 cs2 "value" "I" (.int vi1)) := by
  have hw := B.1
  refine Con.of (plainFor_of_name pn8) (Ls := #[vR ro0, vI vi1]) (fun m => by first | rfl | (simp [entryFrame, mkF, argsToLocals, Value.category]; done)) ?_
  intro p e s m below meth c T0 X0 H hml hZ hown hnm hret hlk e0
  have N0 := Fr.nil Z.heap.size
  refine gAloadN X0 H d8_0 rfl rfl 1 rfl ?_
  refine gSpecial X0 H hZ hown rfl rfl (hw _ wd47) (hw _ wd48) (by decide) (hw _ wd52) (hw _ wd51) (rm69_9 B ro0 _ O) e0 hml rfl pd0 rfl (W := 0) (argsL := []) (rest := []) rfl rfl d8_1 4 rfl ?_
  intro v70 T70 L70 hq70 X70
  obtain ⟨rfl, e70, rfl⟩ := hq70
  have N70 := Fr.app N0 (Fr.nil _)
  show Go _ _ _ _ (State.setTop _ (mkF _ 4 _ []))
  refine gAloadN X70 H d8_4 rfl rfl 5 rfl ?_
  refine gIloadN X70 H d8_5 rfl 6 rfl ?_
  refine gPutF X70 H hZ hown (hw _ wd54) Via.refl e70 hp73 hp72 (Or.inr ⟨(hw _ wd55), rfl, hnm⟩) (hw _ wd42) (ty := .int) (by decide) (v' := (.int vi1)) rfl rfl d8_6 9 rfl ?_
  intro T71 h71 X71 e71 W71 F71
  have O71 := extW O W71 hp74
  have N71 := Fr.snoc X71 N70 hp74
  have c75 := (hp72.wr W71)
  have K_76 := (Keep.refl h [ro0]).wr W71 (Or.inl (List.mem_of_getElem? (i := 0) rfl))
  exact gRetV X71 H hlk hret d8_9 e71 ⟨rfl, N71, K_76, c75, F71⟩
theorem boxI (B : Bg Z a0 w_cacheI cl_cacheI) (vi0 : Int32) (h : Heap) (O : Ext Z.heap h) :
    Con l Z (⟨"java/lang/Integer", "valueOf", "(I)Ljava/lang/Integer;"⟩ : MethodName) jdk_33_method_22_code 1 (some (.object "java/lang/Integer")) ({ frames := 3, cells := 1, slots := 1, locals := 38 } : Room) #[(.int vi0)] h (fun v h' L => ∃ (b : Addr), v = some (.ref b) ∧ Fr Z.heap.size L ∧ Keep h h' [] ∧ Exa Z h' b "java/lang/Integer" ∧ Fld Z h' b "java/lang/Integer" "value" "I" (.int vi0)) := by
  have hw := B.1
  obtain ⟨S_high, S_cacheI, B_cacheI⟩ := B.2
  refine Con.of (plainFor_of_name pn1) (Ls := #[vI vi0]) (fun m => by first | rfl | (simp [entryFrame, mkF, argsToLocals, Value.category]; done)) ?_
  intro p e s m below meth c T0 X0 H hml hZ hown hnm hret hlk e0
  have M0 := Nat.le_refl h.size
  have N0 := Fr.nil Z.heap.size
  refine gIloadN X0 H d1_0 rfl 1 rfl ?_
  refine gBipush X0 H d1_1 (z := (-128)) rfl 3 rfl ?_
  by_cases hc66 : vi0 < (-128 : Int32)
  · refine gCmpY X0 H d1_3 (tlt hc66).1 (by decide) 23 rfl ?_
    refine gNew X0 H hZ hown (hw _ wd41) (hw _ wd42) (hw _ wd2) e0 (by decide) (by decide) d1_23 26 rfl ?_
    intro T67 h67 b67 X67 e67 z67 E67 A67 D67
    have G_b67 := Nat.le_trans O.1 (Nat.le_of_eq z67)
    have sz_b67 := Nat.le_trans M0 (Nat.le_of_eq z67)
    have O67 := extT O E67
    have F67_value : Fld Z h67 b67 cs2 "value" "I" (.int 0) := D67 (Or.inr (hw _ wd55)) (ty := .int) (by decide)
    refine gDup X67 H d1_26 rfl 27 rfl ?_
    refine gIloadN X67 H d1_27 rfl 28 rfl ?_
    refine gSpecial X67 H hZ hown rfl rfl (hw _ wd43) (hw _ wd44) (by decide) (hw _ wd46) (hw _ wd2) (rm77_8 B b67 vi0 _ O67 A67 F67_value G_b67) e67 hml rfl pd4 rfl (W := 1) (argsL := [(.int vi0)]) (rest := [(.ref b67)]) rfl rfl d1_28 31 rfl ?_
    intro v78 T78 L78 hq78 X78
    obtain ⟨rfl, N78q, K78, f78_0, f78_1⟩ := hq78
    have O78 := extK O67 K78 (allS G_b67 all0)
    have N78 := Fr.app N0 N78q
    show Go _ _ _ _ (State.setTop _ (mkF _ 31 _ [(.ref b67)]))
    have K_79 := (Keep.refl h []).ext E67
    have K_80 := K_79.trans K78 (allS (Or.inr sz_b67) all0)
    exact gRetA X78 H hlk hret rfl rfl rfl d1_31 rfl ⟨b67, rfl, N78, K_80, f78_0, f78_1⟩
  · refine gCmpN X0 H d1_3 (flt hc66).1 6 rfl ?_
    refine gIloadN X0 H d1_6 rfl 7 rfl ?_
    refine gGetS X0 H hZ hown (hw _ wd4) e0 (S_high.ext O) d1_7 10 rfl ?_
    intro T81 X81 e81
    by_cases hc82 : (127 : Int32) < vi0
    · refine gCmpY X81 H d1_10 (tlt hc82).2.2.1 (by decide) 23 rfl ?_
      refine gNew X81 H hZ hown (hw _ wd41) (hw _ wd42) (hw _ wd2) e81 (by decide) (by decide) d1_23 26 rfl ?_
      intro T83 h83 b83 X83 e83 z83 E83 A83 D83
      have G_b83 := Nat.le_trans O.1 (Nat.le_of_eq z83)
      have sz_b83 := Nat.le_trans M0 (Nat.le_of_eq z83)
      have O83 := extT O E83
      have F83_value : Fld Z h83 b83 cs2 "value" "I" (.int 0) := D83 (Or.inr (hw _ wd55)) (ty := .int) (by decide)
      refine gDup X83 H d1_26 rfl 27 rfl ?_
      refine gIloadN X83 H d1_27 rfl 28 rfl ?_
      refine gSpecial X83 H hZ hown rfl rfl (hw _ wd43) (hw _ wd44) (by decide) (hw _ wd46) (hw _ wd2) (rm77_8 B b83 vi0 _ O83 A83 F83_value G_b83) e83 hml rfl pd4 rfl (W := 1) (argsL := [(.int vi0)]) (rest := [(.ref b83)]) rfl rfl d1_28 31 rfl ?_
      intro v84 T84 L84 hq84 X84
      obtain ⟨rfl, N84q, K84, f84_0, f84_1⟩ := hq84
      have O84 := extK O83 K84 (allS G_b83 all0)
      have N84 := Fr.app N0 N84q
      show Go _ _ _ _ (State.setTop _ (mkF _ 31 _ [(.ref b83)]))
      have K_85 := (Keep.refl h []).ext E83
      have K_86 := K_85.trans K84 (allS (Or.inr sz_b83) all0)
      exact gRetA X84 H hlk hret rfl rfl rfl d1_31 rfl ⟨b83, rfl, N84, K_86, f84_0, f84_1⟩
    · refine gCmpN X81 H d1_10 (flt hc82).2.2.1 13 rfl ?_
      refine gGetS X81 H hZ hown (hw _ wd6) e81 (S_cacheI.ext O) d1_13 16 rfl ?_
      intro T87 X87 e87
      refine gIloadN X87 H d1_16 rfl 17 rfl ?_
      refine gSipush X87 H d1_17 (z := 128) rfl 20 rfl ?_
      refine g_iadd X87 H d1_20 (z := (vi0 + (128 : Int32))) rfl 21 rfl ?_
      obtain ⟨b88, q88, A88, f88⟩ := B_cacheI.2.2.2 (vi0 + (128 : Int32)) (box_in hc66 hc82 B_cacheI.2.1)
      have F88 : Fld Z Z.heap b88 "java/lang/Integer" "value" "I" (.int vi0) := by have z := f88; simp only [box_v] at z; exact z
      refine gBoxload X87 H hZ e87 rfl (B_cacheI.1.ext O) (box_in hc66 hc82 B_cacheI.2.1) q88 d1_21 22 rfl ?_
      exact gRetA X87 H hlk hret rfl rfl rfl d1_22 e87 ⟨b88, rfl, N0, (Keep.refl h []), (A88.ext O), (F88.ext O)⟩
theorem rm105_2 (B : Bg Z a0 w_cacheI cl_cacheI) (ro0 : Addr) (ro1 : Addr) (h : Heap) (O : Ext Z.heap h) (hp94 : Exa Z h ro0 cs0) (hp95 : Fld Z h ro0 cs0 "value" cs1 .null) (hp96 : Z.heap.size ≤ ro0) (hp99 : Fld Z h ro0 cs0 "included" "Z" (.int 0)) :
    Con l Z yM2 prog_77_method_1_code 3 none ({ frames := 2, cells := 0, slots := 0, locals := 24 } : Room) #[(.ref ro0), (.ref ro1), (.int 0)] h (fun v h' L => v = none ∧ Fr Z.heap.size L ∧ Keep h h' [ro0] ∧ Exa Z h' ro0 cs0 ∧ Fld Z h' ro0 cs0 "value" cs1 (.ref ro1) ∧ Fld Z h' ro0 cs0 "included" "Z" (.int 0)) := by
  have hw := B.1
  refine Con.of (plainFor_of_name pn2) (Ls := #[vR ro0, vR ro1, vI 0]) (fun m => by first | rfl | (simp [entryFrame, mkF, argsToLocals, Value.category]; done)) ?_
  intro p e s m below meth c T0 X0 H hml hZ hown hnm hret hlk e0
  have N0 := Fr.nil Z.heap.size
  refine gAloadN X0 H d2_0 rfl rfl 1 rfl ?_
  refine gSpecial X0 H hZ hown rfl rfl (hw _ wd13) (hw _ wd14) (by decide) (hw _ wd17) (hw _ wd16) (rm5_3 B ro0 _ O) e0 hml rfl pd0 rfl (W := 0) (argsL := []) (rest := []) rfl rfl d2_1 4 rfl ?_
  intro v92 T92 L92 hq92 X92
  obtain ⟨rfl, e92, rfl⟩ := hq92
  have N92 := Fr.app N0 (Fr.nil _)
  show Go _ _ _ _ (State.setTop _ (mkF _ 4 _ []))
  refine gAloadN X92 H d2_4 rfl rfl 5 rfl ?_
  refine gAloadN X92 H d2_5 rfl rfl 6 rfl ?_
  refine gPutF X92 H hZ hown (hw _ wd21) Via.refl e92 hp95 hp94 (Or.inr ⟨(hw _ wd22), rfl, hnm⟩) (hw _ wd8) (ty := (.object "java/lang/Object")) (by decide) (v' := (.ref ro1)) rfl rfl d2_6 9 rfl ?_
  intro T93 h93 X93 e93 W93 F93
  have O93 := extW O W93 hp96
  have N93 := Fr.snoc X93 N92 hp96
  refine gAloadN X93 H d2_9 rfl rfl 10 rfl ?_
  refine gIloadN X93 H d2_10 rfl 11 rfl ?_
  have c98 := (hp94.wr W93)
  have c100 := (hp99.other W93 (Or.inr (sn0 hw)))
  refine gPutF X93 H hZ hown (hw _ wd23) Via.refl e93 c100 c98 (Or.inr ⟨(hw _ wd24), rfl, hnm⟩) (hw _ wd8) (ty := .boolean) (by decide) (v' := (.int 0)) rfl rfl d2_11 14 rfl ?_
  intro T97 h97 X97 e97 W97 F97
  have O97 := extW O93 W97 hp96
  have N97 := Fr.snoc X97 N93 hp96
  have c101 := (c98.wr W97)
  have c102 := (F93.other W97 (Or.inr (sn1 hw)))
  have K_103 := (Keep.refl h [ro0]).wr W93 (Or.inl (List.mem_of_getElem? (i := 0) rfl))
  have K_104 := K_103.wr W97 (Or.inl (List.mem_of_getElem? (i := 0) rfl))
  exact gRetV X97 H hlk hret d2_14 e97 ⟨rfl, N97, K_104, c101, c102, F97⟩
theorem rm109_5 (B : Bg Z a0 w_cacheI cl_cacheI) (ro0 : Addr) (ro1 : Addr) (h : Heap) (O : Ext Z.heap h) (hp107 : Fld Z h ro0 cs0 "value" cs1 (.ref ro1)) :
    Con l Z yM5 prog_77_method_3_code 1 (some .boolean) ({ frames := 0, cells := 0, slots := 0, locals := 0 } : Room) #[(.ref ro0)] h (fun v h' L => v = some (.int 1) ∧ h' = h ∧ L = []) := by
  have hw := B.1
  refine Con.of (plainFor_of_name pn5) (Ls := #[vR ro0]) (fun m => by first | rfl | (simp [entryFrame, mkF, argsToLocals, Value.category]; done)) ?_
  intro p e s m below meth c T0 X0 H hml hZ hown hnm hret hlk e0
  refine gAloadN X0 H d5_0 rfl rfl 1 rfl ?_
  refine gGetF X0 H hZ hown (hw _ wd21) Via.refl e0 hp107 d5_1 4 rfl ?_
  intro T108 X108 e108
  refine gNullN X108 H d5_4 7 rfl ?_
  refine gIconst X108 H d5_7 (z := 1) rfl 8 rfl ?_
  refine gGoto X108 H d5_8 (by decide) 12 rfl ?_
  exact gRetN X108 H hlk hret (t := .boolean) (by simp) d5_12 e108 ⟨rfl, rfl, rfl⟩
theorem rm138_2 (B : Bg Z a0 w_cacheI cl_cacheI) (ro0 : Addr) (ro1 : Addr) (h : Heap) (O : Ext Z.heap h) (hp127 : Exa Z h ro0 cs0) (hp128 : Fld Z h ro0 cs0 "value" cs1 .null) (hp129 : Z.heap.size ≤ ro0) (hp132 : Fld Z h ro0 cs0 "included" "Z" (.int 0)) :
    Con l Z yM2 prog_77_method_1_code 3 none ({ frames := 2, cells := 0, slots := 0, locals := 24 } : Room) #[(.ref ro0), (.ref ro1), (.int 1)] h (fun v h' L => v = none ∧ Fr Z.heap.size L ∧ Keep h h' [ro0] ∧ Exa Z h' ro0 cs0 ∧ Fld Z h' ro0 cs0 "value" cs1 (.ref ro1) ∧ Fld Z h' ro0 cs0 "included" "Z" (.int 1)) := by
  have hw := B.1
  refine Con.of (plainFor_of_name pn2) (Ls := #[vR ro0, vR ro1, vI 1]) (fun m => by first | rfl | (simp [entryFrame, mkF, argsToLocals, Value.category]; done)) ?_
  intro p e s m below meth c T0 X0 H hml hZ hown hnm hret hlk e0
  have N0 := Fr.nil Z.heap.size
  refine gAloadN X0 H d2_0 rfl rfl 1 rfl ?_
  refine gSpecial X0 H hZ hown rfl rfl (hw _ wd13) (hw _ wd14) (by decide) (hw _ wd17) (hw _ wd16) (rm5_3 B ro0 _ O) e0 hml rfl pd0 rfl (W := 0) (argsL := []) (rest := []) rfl rfl d2_1 4 rfl ?_
  intro v125 T125 L125 hq125 X125
  obtain ⟨rfl, e125, rfl⟩ := hq125
  have N125 := Fr.app N0 (Fr.nil _)
  show Go _ _ _ _ (State.setTop _ (mkF _ 4 _ []))
  refine gAloadN X125 H d2_4 rfl rfl 5 rfl ?_
  refine gAloadN X125 H d2_5 rfl rfl 6 rfl ?_
  refine gPutF X125 H hZ hown (hw _ wd21) Via.refl e125 hp128 hp127 (Or.inr ⟨(hw _ wd22), rfl, hnm⟩) (hw _ wd8) (ty := (.object "java/lang/Object")) (by decide) (v' := (.ref ro1)) rfl rfl d2_6 9 rfl ?_
  intro T126 h126 X126 e126 W126 F126
  have O126 := extW O W126 hp129
  have N126 := Fr.snoc X126 N125 hp129
  refine gAloadN X126 H d2_9 rfl rfl 10 rfl ?_
  refine gIloadN X126 H d2_10 rfl 11 rfl ?_
  have c131 := (hp127.wr W126)
  have c133 := (hp132.other W126 (Or.inr (sn0 hw)))
  refine gPutF X126 H hZ hown (hw _ wd23) Via.refl e126 c133 c131 (Or.inr ⟨(hw _ wd24), rfl, hnm⟩) (hw _ wd8) (ty := .boolean) (by decide) (v' := (.int 1)) rfl rfl d2_11 14 rfl ?_
  intro T130 h130 X130 e130 W130 F130
  have O130 := extW O126 W130 hp129
  have N130 := Fr.snoc X130 N126 hp129
  have c134 := (c131.wr W130)
  have c135 := (F126.other W130 (Or.inr (sn1 hw)))
  have K_136 := (Keep.refl h [ro0]).wr W126 (Or.inl (List.mem_of_getElem? (i := 0) rfl))
  have K_137 := K_136.wr W130 (Or.inl (List.mem_of_getElem? (i := 0) rfl))
  exact gRetV X130 H hlk hret d2_14 e130 ⟨rfl, N130, K_137, c134, c135, F130⟩
theorem rm142_7 (B : Bg Z a0 w_cacheI cl_cacheI) (ro0 : Addr) (ro1 : Addr) (h : Heap) (O : Ext Z.heap h) (hp116 : Exa Z h ro0 cs0) (hp117 : Fld Z h ro0 cs0 "value" cs1 (.ref ro1)) (hp122 : Fld Z h ro0 cs0 "included" "Z" (.int 0)) :
    Con l Z yM7 prog_77_method_4_code 1 (some (.object "com/example/rowcast/rowcast/ValueSet$End")) ({ frames := 3, cells := 1, slots := 2, locals := 39 } : Room) #[(.ref ro0)] h (fun v h' L => ∃ (b119 : Addr), v = some (.ref b119) ∧ Fr Z.heap.size L ∧ Keep h h' [] ∧ h.size ≤ b119 ∧ Exa Z h' b119 cs0 ∧ Fld Z h' b119 cs0 "value" cs1 (.ref ro1) ∧ Fld Z h' b119 cs0 "included" "Z" (.int 1)) := by
  have hw := B.1
  refine Con.of (plainFor_of_name pn7) (Ls := #[vR ro0]) (fun m => by first | rfl | (simp [entryFrame, mkF, argsToLocals, Value.category]; done)) ?_
  intro p e s m below meth c T0 X0 H hml hZ hown hnm hret hlk e0
  have M0 := Nat.le_refl h.size
  have N0 := Fr.nil Z.heap.size
  refine gAloadN X0 H d7_0 rfl rfl 1 rfl ?_
  refine gVirt X0 H hZ hown (hw _ wd40) (hw _ wd26) (hw _ wd28) (hw _ wd27) (by decide) hp116 (hw _ wd29) (hw _ wd9) (rm109_5 B ro0 ro1 _ O hp117) e0 hml rfl pd2 rfl (W := 0) (argsL := []) (rest := []) rfl rfl d7_1 4 rfl ?_
  intro v118 T118 L118 hq118 X118
  obtain ⟨rfl, e118, rfl⟩ := hq118
  have N118 := Fr.app N0 (Fr.nil _)
  show Go _ _ _ _ (State.setTop _ (mkF _ 4 _ [(.int 1)]))
  refine gIfN X118 H d7_4 (by decide) 7 rfl ?_
  refine gNew X118 H hZ hown (hw _ wd33) (hw _ wd8) (hw _ wd9) e118 (by decide) (by decide) d7_7 10 rfl ?_
  intro T119 h119 b119 X119 e119 z119 E119 A119 D119
  have G_b119 := Nat.le_trans O.1 (Nat.le_of_eq z119)
  have sz_b119 := Nat.le_trans M0 (Nat.le_of_eq z119)
  have O119 := extT O E119
  have F119_value : Fld Z h119 b119 cs0 "value" cs1 .null := D119 (Or.inr (hw _ wd22)) (ty := (.object "java/lang/Object")) (by decide)
  have F119_included : Fld Z h119 b119 cs0 "included" "Z" (.int 0) := D119 (Or.inr (hw _ wd24)) (ty := .boolean) (by decide)
  refine gDup X119 H d7_10 rfl 11 rfl ?_
  refine gAloadN X119 H d7_11 rfl rfl 12 rfl ?_
  have c120 := (hp117.ext E119)
  refine gGetF X119 H hZ hown (hw _ wd21) Via.refl e119 c120 d7_12 15 rfl ?_
  intro T121 X121 e121
  refine gAloadN X121 H d7_15 rfl rfl 16 rfl ?_
  have c123 := (hp122.ext E119)
  refine gGetF X121 H hZ hown (hw _ wd23) Via.refl e121 c123 d7_16 19 rfl ?_
  intro T124 X124 e124
  refine gIfN X124 H d7_19 (by decide) 22 rfl ?_
  refine gIconst X124 H d7_22 (z := 1) rfl 23 rfl ?_
  refine gGoto X124 H d7_23 (by decide) 27 rfl ?_
  refine gSpecial X124 H hZ hown rfl rfl (hw _ wd34) (hw _ wd11) (by decide) (hw _ wd12) (hw _ wd9) (rm138_2 B b119 ro1 _ O119 A119 F119_value G_b119 F119_included) e124 hml rfl pd1 rfl (W := 1) (argsL := [(.ref ro1), (.int 1)]) (rest := [(.ref b119)]) rfl rfl d7_27 30 rfl ?_
  intro v139 T139 L139 hq139 X139
  obtain ⟨rfl, N139q, K139, f139_0, f139_1, f139_2⟩ := hq139
  have O139 := extK O119 K139 (allS G_b119 all0)
  have N139 := Fr.app N118 N139q
  show Go _ _ _ _ (State.setTop _ (mkF _ 30 _ [(.ref b119)]))
  refine gGoto X139 H d7_30 (by decide) 34 rfl ?_
  have K_140 := (Keep.refl h []).ext E119
  have K_141 := K_140.trans K139 (allS (Or.inr sz_b119) all0)
  exact gRetA X139 H hlk hret rfl rfl rfl d7_34 rfl ⟨b119, rfl, N139, K_141, sz_b119, f139_0, f139_1, f139_2⟩
theorem rm171_7 (B : Bg Z a0 w_cacheI cl_cacheI) (ro0 : Addr) (ro1 : Addr) (h : Heap) (O : Ext Z.heap h) (hp159 : Exa Z h ro0 cs0) (hp160 : Fld Z h ro0 cs0 "value" cs1 (.ref ro1)) (hp165 : Fld Z h ro0 cs0 "included" "Z" (.int 1)) :
    Con l Z yM7 prog_77_method_4_code 1 (some (.object "com/example/rowcast/rowcast/ValueSet$End")) ({ frames := 3, cells := 1, slots := 2, locals := 39 } : Room) #[(.ref ro0)] h (fun v h' L => ∃ (b162 : Addr), v = some (.ref b162) ∧ Fr Z.heap.size L ∧ Keep h h' [] ∧ h.size ≤ b162 ∧ Exa Z h' b162 cs0 ∧ Fld Z h' b162 cs0 "value" cs1 (.ref ro1) ∧ Fld Z h' b162 cs0 "included" "Z" (.int 0)) := by
  have hw := B.1
  refine Con.of (plainFor_of_name pn7) (Ls := #[vR ro0]) (fun m => by first | rfl | (simp [entryFrame, mkF, argsToLocals, Value.category]; done)) ?_
  intro p e s m below meth c T0 X0 H hml hZ hown hnm hret hlk e0
  have M0 := Nat.le_refl h.size
  have N0 := Fr.nil Z.heap.size
  refine gAloadN X0 H d7_0 rfl rfl 1 rfl ?_
  refine gVirt X0 H hZ hown (hw _ wd40) (hw _ wd26) (hw _ wd28) (hw _ wd27) (by decide) hp159 (hw _ wd29) (hw _ wd9) (rm109_5 B ro0 ro1 _ O hp160) e0 hml rfl pd2 rfl (W := 0) (argsL := []) (rest := []) rfl rfl d7_1 4 rfl ?_
  intro v161 T161 L161 hq161 X161
  obtain ⟨rfl, e161, rfl⟩ := hq161
  have N161 := Fr.app N0 (Fr.nil _)
  show Go _ _ _ _ (State.setTop _ (mkF _ 4 _ [(.int 1)]))
  refine gIfN X161 H d7_4 (by decide) 7 rfl ?_
  refine gNew X161 H hZ hown (hw _ wd33) (hw _ wd8) (hw _ wd9) e161 (by decide) (by decide) d7_7 10 rfl ?_
  intro T162 h162 b162 X162 e162 z162 E162 A162 D162
  have G_b162 := Nat.le_trans O.1 (Nat.le_of_eq z162)
  have sz_b162 := Nat.le_trans M0 (Nat.le_of_eq z162)
  have O162 := extT O E162
  have F162_value : Fld Z h162 b162 cs0 "value" cs1 .null := D162 (Or.inr (hw _ wd22)) (ty := (.object "java/lang/Object")) (by decide)
  have F162_included : Fld Z h162 b162 cs0 "included" "Z" (.int 0) := D162 (Or.inr (hw _ wd24)) (ty := .boolean) (by decide)
  refine gDup X162 H d7_10 rfl 11 rfl ?_
  refine gAloadN X162 H d7_11 rfl rfl 12 rfl ?_
  have c163 := (hp160.ext E162)
  refine gGetF X162 H hZ hown (hw _ wd21) Via.refl e162 c163 d7_12 15 rfl ?_
  intro T164 X164 e164
  refine gAloadN X164 H d7_15 rfl rfl 16 rfl ?_
  have c166 := (hp165.ext E162)
  refine gGetF X164 H hZ hown (hw _ wd23) Via.refl e164 c166 d7_16 19 rfl ?_
  intro T167 X167 e167
  refine gIfY X167 H d7_19 (by decide) (by decide) 26 rfl ?_
  refine gIconst X167 H d7_26 (z := 0) rfl 27 rfl ?_
  refine gSpecial X167 H hZ hown rfl rfl (hw _ wd34) (hw _ wd11) (by decide) (hw _ wd12) (hw _ wd9) (rm105_2 B b162 ro1 _ O162 A162 F162_value G_b162 F162_included) e167 hml rfl pd1 rfl (W := 1) (argsL := [(.ref ro1), (.int 0)]) (rest := [(.ref b162)]) rfl rfl d7_27 30 rfl ?_
  intro v168 T168 L168 hq168 X168
  obtain ⟨rfl, N168q, K168, f168_0, f168_1, f168_2⟩ := hq168
  have O168 := extK O162 K168 (allS G_b162 all0)
  have N168 := Fr.app N161 N168q
  show Go _ _ _ _ (State.setTop _ (mkF _ 30 _ [(.ref b162)]))
  refine gGoto X168 H d7_30 (by decide) 34 rfl ?_
  have K_169 := (Keep.refl h []).ext E162
  have K_170 := K_169.trans K168 (allS (Or.inr sz_b162) all0)
  exact gRetA X168 H hlk hret rfl rfl rfl d7_34 rfl ⟨b162, rfl, N168, K_170, sz_b162, f168_0, f168_1, f168_2⟩
theorem lawAll (B : Bg Z a0 w_cacheI cl_cacheI) (p0 : Int32) (p1 : Int32) :
    Con l Z x code maxLocals ret room_1 #[(.int p0), (.int p1)] Z.heap (fun v h' L => v = some (.int 1) ∧ Fr Z.heap.size L) := by
  have hw := B.1
  obtain ⟨S_high, S_cacheI, B_cacheI⟩ := B.2
  refine Con.of (plainFor_of_name pn0) (Ls := #[vI p0, vI p1, .unset, .unset, .unset, .unset, .unset, .unset]) (fun m => by first | rfl | (simp [entryFrame, mkF, argsToLocals, Value.category, maxLocals]; done)) ?_
  intro p e s m below meth c T0 X0 H hml hZ hown hnm hret hlk e0
  have O0 := extR Z.heap
  have M0 := Nat.le_refl Z.heap.size
  have N0 := Fr.nil Z.heap.size
  refine gIloadN X0 H at_0 rfl 1 rfl ?_
  refine gIconst X0 H at_1 (z := 1) rfl 2 rfl ?_
  refine g_iand X0 H at_2 (z := (p1 &&& (1 : Int32))) rfl 3 rfl ?_
  by_cases hc1 : (p1 &&& (1 : Int32)) = (0 : Int32)
  · refine gIfY X0 H at_3 ((if0 _ _).trans (teq hc1).1) (by decide) 10 rfl ?_
    refine gIconst X0 H at_10 (z := 0) rfl 11 rfl ?_
    refine gIstoreN X0 H at_11 (Ls' := #[vI p0, vI p1, vI 0, .unset, .unset, .unset, .unset, .unset]) rfl 12 rfl ?_
    refine gIloadN X0 H at_12 rfl 13 rfl ?_
    refine gIconst X0 H at_13 (z := 2) rfl 14 rfl ?_
    refine g_iand X0 H at_14 (z := (p1 &&& (2 : Int32))) rfl 15 rfl ?_
    by_cases hc2 : (p1 &&& (2 : Int32)) = (0 : Int32)
    · refine gIfY X0 H at_15 ((if0 _ _).trans (teq hc2).1) (by decide) 22 rfl ?_
      refine gIconst X0 H at_22 (z := 0) rfl 23 rfl ?_
      refine gIstoreN X0 H at_23 (Ls' := #[vI p0, vI p1, vI 0, vI 0, .unset, .unset, .unset, .unset]) rfl 24 rfl ?_
      refine gIloadN X0 H at_24 rfl 25 rfl ?_
      refine gIfY X0 H at_25 (by decide) (by decide) 35 rfl ?_
      refine gNull X0 H at_35 36 rfl ?_
      refine gAstore X0 H at_36 rfl (Ls' := #[vI p0, vI p1, vI 0, vI 0, vN, .unset, .unset, .unset]) rfl 38 rfl ?_
      refine gNew X0 H hZ hown (hw _ wd7) (hw _ wd8) (hw _ wd9) e0 (by decide) (by decide) at_38 41 rfl ?_
      intro T3 h3 b3 X3 e3 z3 E3 A3 D3
      have G_b3 := Nat.le_trans O0.1 (Nat.le_of_eq z3)
      have sz_b3 := Nat.le_trans M0 (Nat.le_of_eq z3)
      have O3 := extT O0 E3
      have F3_value : Fld Z h3 b3 cs0 "value" cs1 .null := D3 (Or.inr (hw _ wd22)) (ty := (.object "java/lang/Object")) (by decide)
      have F3_included : Fld Z h3 b3 cs0 "included" "Z" (.int 0) := D3 (Or.inr (hw _ wd24)) (ty := .boolean) (by decide)
      refine gDup X3 H at_41 rfl 42 rfl ?_
      refine gAload X3 H at_42 rfl rfl 44 rfl ?_
      refine gIloadN X3 H at_44 rfl 45 rfl ?_
      refine gSpecial X3 H hZ hown rfl rfl (hw _ wd10) (hw _ wd11) (by decide) (hw _ wd12) (hw _ wd9) (rm19_2 B b3 _ O3 A3 F3_value G_b3 F3_included) e3 hml rfl pd1 rfl (W := 1) (argsL := [.null, (.int 0)]) (rest := [(.ref b3)]) rfl rfl at_45 48 rfl ?_
      intro v20 T20 L20 hq20 X20
      obtain ⟨rfl, N20q, K20, f20_0, f20_1, f20_2⟩ := hq20
      have O20 := extK O3 K20 (allS G_b3 all0)
      have N20 := Fr.app N0 N20q
      show Go _ _ _ _ (State.setTop _ (mkF _ 48 _ [(.ref b3)]))
      refine gAstore X20 H at_48 rfl (Ls' := #[vI p0, vI p1, vI 0, vI 0, vN, vR b3, .unset, .unset]) rfl 50 rfl ?_
      refine gAload X20 H at_50 rfl rfl 52 rfl ?_
      refine gVirt X20 H hZ hown (hw _ wd25) (hw _ wd26) (hw _ wd28) (hw _ wd27) (by decide) f20_0 (hw _ wd29) (hw _ wd9) (rm23_5 B b3 _ O20 f20_1) rfl hml rfl pd2 rfl (W := 0) (argsL := []) (rest := []) rfl rfl at_52 55 rfl ?_
      intro v24 T24 L24 hq24 X24
      obtain ⟨rfl, e24, rfl⟩ := hq24
      have N24 := Fr.app N20 (Fr.nil _)
      show Go _ _ _ _ (State.setTop _ (mkF _ 55 _ [(.int 0)]))
      refine gIloadN X24 H at_55 rfl 56 rfl ?_
      refine gCmpY X24 H at_56 (by decide) (by decide) 61 rfl ?_
      refine gStatic X24 H hZ hown (hw _ wd30) (hw _ wd31) (by decide) (hw _ wd32) (hw _ wd9) (rm29_6 B _ O20) e24 hml rfl pd3 rfl (W := 0) (argsL := []) (rest := []) rfl rfl at_61 64 rfl ?_
      intro v30 T30 L30 hq30 X30
      obtain ⟨b30_0, rfl, N30q, K30, s30_0, f30_0, f30_1, f30_2⟩ := hq30
      have M31 := (Nat.le_trans (Nat.le_trans M0 E3.1) K20.1)
      have G_b30_0 := Nat.le_trans O20.1 s30_0
      have sz_b30_0 := Nat.le_trans M31 s30_0
      have ne_b3_b30_0 : b3 ≠ b30_0 := neB f20_0.lt s30_0
      have O30 := extK O20 K30 all0
      have N30 := Fr.app N24 N30q
      show Go _ _ _ _ (State.setTop _ (mkF _ 64 _ [(.ref b30_0)]))
      refine gAstore X30 H at_64 rfl (Ls' := #[vI p0, vI p1, vI 0, vI 0, vN, vR b3, vR b30_0, .unset]) rfl 66 rfl ?_
      refine gAload X30 H at_66 rfl rfl 68 rfl ?_
      refine gVirt X30 H hZ hown (hw _ wd25) (hw _ wd26) (hw _ wd28) (hw _ wd27) (by decide) f30_0 (hw _ wd29) (hw _ wd9) (rm23_5 B b30_0 _ O30 f30_1) rfl hml rfl pd2 rfl (W := 0) (argsL := []) (rest := []) rfl rfl at_68 71 rfl ?_
      intro v32 T32 L32 hq32 X32
      obtain ⟨rfl, e32, rfl⟩ := hq32
      have N32 := Fr.app N30 (Fr.nil _)
      show Go _ _ _ _ (State.setTop _ (mkF _ 71 _ [(.int 0)]))
      refine gIfY X32 H at_71 (by decide) (by decide) 76 rfl ?_
      refine gAload X32 H at_76 rfl rfl 78 rfl ?_
      have c33 := (f20_0.keep K30)
      have c38 := (f20_1.keep K30 nin0)
      refine gVirt X32 H hZ hown (hw _ wd35) (hw _ wd36) (hw _ wd38) (hw _ wd37) (by decide) c33 (hw _ wd39) (hw _ wd9) (rm37_7 B b3 _ O30 c33 c38) e32 hml rfl pd3 rfl (W := 0) (argsL := []) (rest := []) rfl rfl at_78 81 rfl ?_
      intro v39 T39 L39 hq39 X39
      obtain ⟨rfl, e39, rfl⟩ := hq39
      have N39 := Fr.app N32 (Fr.nil _)
      show Go _ _ _ _ (State.setTop _ (mkF _ 81 _ [(.ref b3)]))
      refine gAstore X39 H at_81 rfl (Ls' := #[vI p0, vI p1, vI 0, vI 0, vN, vR b3, vR b30_0, vR b3]) rfl 83 rfl ?_
      refine gAload X39 H at_83 rfl rfl 85 rfl ?_
      refine gVirt X39 H hZ hown (hw _ wd25) (hw _ wd26) (hw _ wd28) (hw _ wd27) (by decide) c33 (hw _ wd29) (hw _ wd9) (rm23_5 B b3 _ O30 c38) e39 hml rfl pd2 rfl (W := 0) (argsL := []) (rest := []) rfl rfl at_85 88 rfl ?_
      intro v40 T40 L40 hq40 X40
      obtain ⟨rfl, e40, rfl⟩ := hq40
      have N40 := Fr.app N39 (Fr.nil _)
      show Go _ _ _ _ (State.setTop _ (mkF _ 88 _ [(.int 0)]))
      refine gIloadN X40 H at_88 rfl 89 rfl ?_
      refine gCmpY X40 H at_89 (by decide) (by decide) 94 rfl ?_
      refine gIconst X40 H at_94 (z := 1) rfl 95 rfl ?_
      exact gRetN X40 H hlk hret (t := .boolean) (by simp) at_95 e40 ⟨rfl, N40⟩
    · refine gIfN X0 H at_15 ((if0 _ _).trans (feq hc2).1) 18 rfl ?_
      refine gIconst X0 H at_18 (z := 1) rfl 19 rfl ?_
      refine gGoto X0 H at_19 (by decide) 23 rfl ?_
      refine gIstoreN X0 H at_23 (Ls' := #[vI p0, vI p1, vI 0, vI 1, .unset, .unset, .unset, .unset]) rfl 24 rfl ?_
      refine gIloadN X0 H at_24 rfl 25 rfl ?_
      refine gIfY X0 H at_25 (by decide) (by decide) 35 rfl ?_
      refine gNull X0 H at_35 36 rfl ?_
      refine gAstore X0 H at_36 rfl (Ls' := #[vI p0, vI p1, vI 0, vI 1, vN, .unset, .unset, .unset]) rfl 38 rfl ?_
      refine gNew X0 H hZ hown (hw _ wd7) (hw _ wd8) (hw _ wd9) e0 (by decide) (by decide) at_38 41 rfl ?_
      intro T41 h41 b41 X41 e41 z41 E41 A41 D41
      have G_b41 := Nat.le_trans O0.1 (Nat.le_of_eq z41)
      have sz_b41 := Nat.le_trans M0 (Nat.le_of_eq z41)
      have O41 := extT O0 E41
      have F41_value : Fld Z h41 b41 cs0 "value" cs1 .null := D41 (Or.inr (hw _ wd22)) (ty := (.object "java/lang/Object")) (by decide)
      have F41_included : Fld Z h41 b41 cs0 "included" "Z" (.int 0) := D41 (Or.inr (hw _ wd24)) (ty := .boolean) (by decide)
      refine gDup X41 H at_41 rfl 42 rfl ?_
      refine gAload X41 H at_42 rfl rfl 44 rfl ?_
      refine gIloadN X41 H at_44 rfl 45 rfl ?_
      refine gSpecial X41 H hZ hown rfl rfl (hw _ wd10) (hw _ wd11) (by decide) (hw _ wd12) (hw _ wd9) (rm55_2 B b41 _ O41 A41 F41_value G_b41 F41_included) e41 hml rfl pd1 rfl (W := 1) (argsL := [.null, (.int 1)]) (rest := [(.ref b41)]) rfl rfl at_45 48 rfl ?_
      intro v56 T56 L56 hq56 X56
      obtain ⟨rfl, N56q, K56, f56_0, f56_1, f56_2⟩ := hq56
      have O56 := extK O41 K56 (allS G_b41 all0)
      have N56 := Fr.app N0 N56q
      show Go _ _ _ _ (State.setTop _ (mkF _ 48 _ [(.ref b41)]))
      refine gAstore X56 H at_48 rfl (Ls' := #[vI p0, vI p1, vI 0, vI 1, vN, vR b41, .unset, .unset]) rfl 50 rfl ?_
      refine gAload X56 H at_50 rfl rfl 52 rfl ?_
      refine gVirt X56 H hZ hown (hw _ wd25) (hw _ wd26) (hw _ wd28) (hw _ wd27) (by decide) f56_0 (hw _ wd29) (hw _ wd9) (rm23_5 B b41 _ O56 f56_1) rfl hml rfl pd2 rfl (W := 0) (argsL := []) (rest := []) rfl rfl at_52 55 rfl ?_
      intro v57 T57 L57 hq57 X57
      obtain ⟨rfl, e57, rfl⟩ := hq57
      have N57 := Fr.app N56 (Fr.nil _)
      show Go _ _ _ _ (State.setTop _ (mkF _ 55 _ [(.int 0)]))
      refine gIloadN X57 H at_55 rfl 56 rfl ?_
      refine gCmpY X57 H at_56 (by decide) (by decide) 61 rfl ?_
      refine gStatic X57 H hZ hown (hw _ wd30) (hw _ wd31) (by decide) (hw _ wd32) (hw _ wd9) (rm29_6 B _ O56) e57 hml rfl pd3 rfl (W := 0) (argsL := []) (rest := []) rfl rfl at_61 64 rfl ?_
      intro v58 T58 L58 hq58 X58
      obtain ⟨b58_0, rfl, N58q, K58, s58_0, f58_0, f58_1, f58_2⟩ := hq58
      have M59 := (Nat.le_trans (Nat.le_trans M0 E41.1) K56.1)
      have G_b58_0 := Nat.le_trans O56.1 s58_0
      have sz_b58_0 := Nat.le_trans M59 s58_0
      have ne_b41_b58_0 : b41 ≠ b58_0 := neB f56_0.lt s58_0
      have O58 := extK O56 K58 all0
      have N58 := Fr.app N57 N58q
      show Go _ _ _ _ (State.setTop _ (mkF _ 64 _ [(.ref b58_0)]))
      refine gAstore X58 H at_64 rfl (Ls' := #[vI p0, vI p1, vI 0, vI 1, vN, vR b41, vR b58_0, .unset]) rfl 66 rfl ?_
      refine gAload X58 H at_66 rfl rfl 68 rfl ?_
      refine gVirt X58 H hZ hown (hw _ wd25) (hw _ wd26) (hw _ wd28) (hw _ wd27) (by decide) f58_0 (hw _ wd29) (hw _ wd9) (rm23_5 B b58_0 _ O58 f58_1) rfl hml rfl pd2 rfl (W := 0) (argsL := []) (rest := []) rfl rfl at_68 71 rfl ?_
      intro v60 T60 L60 hq60 X60
      obtain ⟨rfl, e60, rfl⟩ := hq60
      have N60 := Fr.app N58 (Fr.nil _)
      show Go _ _ _ _ (State.setTop _ (mkF _ 71 _ [(.int 0)]))
      refine gIfY X60 H at_71 (by decide) (by decide) 76 rfl ?_
      refine gAload X60 H at_76 rfl rfl 78 rfl ?_
      have c61 := (f56_0.keep K58)
      have c62 := (f56_1.keep K58 nin0)
      refine gVirt X60 H hZ hown (hw _ wd35) (hw _ wd36) (hw _ wd38) (hw _ wd37) (by decide) c61 (hw _ wd39) (hw _ wd9) (rm37_7 B b41 _ O58 c61 c62) e60 hml rfl pd3 rfl (W := 0) (argsL := []) (rest := []) rfl rfl at_78 81 rfl ?_
      intro v63 T63 L63 hq63 X63
      obtain ⟨rfl, e63, rfl⟩ := hq63
      have N63 := Fr.app N60 (Fr.nil _)
      show Go _ _ _ _ (State.setTop _ (mkF _ 81 _ [(.ref b41)]))
      refine gAstore X63 H at_81 rfl (Ls' := #[vI p0, vI p1, vI 0, vI 1, vN, vR b41, vR b58_0, vR b41]) rfl 83 rfl ?_
      refine gAload X63 H at_83 rfl rfl 85 rfl ?_
      refine gVirt X63 H hZ hown (hw _ wd25) (hw _ wd26) (hw _ wd28) (hw _ wd27) (by decide) c61 (hw _ wd29) (hw _ wd9) (rm23_5 B b41 _ O58 c62) e63 hml rfl pd2 rfl (W := 0) (argsL := []) (rest := []) rfl rfl at_85 88 rfl ?_
      intro v64 T64 L64 hq64 X64
      obtain ⟨rfl, e64, rfl⟩ := hq64
      have N64 := Fr.app N63 (Fr.nil _)
      show Go _ _ _ _ (State.setTop _ (mkF _ 88 _ [(.int 0)]))
      refine gIloadN X64 H at_88 rfl 89 rfl ?_
      refine gCmpY X64 H at_89 (by decide) (by decide) 94 rfl ?_
      refine gIconst X64 H at_94 (z := 1) rfl 95 rfl ?_
      exact gRetN X64 H hlk hret (t := .boolean) (by simp) at_95 e64 ⟨rfl, N64⟩
  · refine gIfN X0 H at_3 ((if0 _ _).trans (feq hc1).1) 6 rfl ?_
    refine gIconst X0 H at_6 (z := 1) rfl 7 rfl ?_
    refine gGoto X0 H at_7 (by decide) 11 rfl ?_
    refine gIstoreN X0 H at_11 (Ls' := #[vI p0, vI p1, vI 1, .unset, .unset, .unset, .unset, .unset]) rfl 12 rfl ?_
    refine gIloadN X0 H at_12 rfl 13 rfl ?_
    refine gIconst X0 H at_13 (z := 2) rfl 14 rfl ?_
    refine g_iand X0 H at_14 (z := (p1 &&& (2 : Int32))) rfl 15 rfl ?_
    by_cases hc65 : (p1 &&& (2 : Int32)) = (0 : Int32)
    · refine gIfY X0 H at_15 ((if0 _ _).trans (teq hc65).1) (by decide) 22 rfl ?_
      refine gIconst X0 H at_22 (z := 0) rfl 23 rfl ?_
      refine gIstoreN X0 H at_23 (Ls' := #[vI p0, vI p1, vI 1, vI 0, .unset, .unset, .unset, .unset]) rfl 24 rfl ?_
      refine gIloadN X0 H at_24 rfl 25 rfl ?_
      refine gIfN X0 H at_25 (by decide) 28 rfl ?_
      refine gIloadN X0 H at_28 rfl 29 rfl ?_
      refine gStatic X0 H hZ hown (hw _ wd0) (hw _ wd1) (by decide) (hw _ wd3) (hw _ wd2) (boxI B p0 _ O0) e0 hml rfl pd5 rfl (W := 0) (argsL := [(.int p0)]) (rest := []) rfl rfl at_29 32 rfl ?_
      intro v89 T89 L89 hq89 X89
      obtain ⟨b89, rfl, N89q, K89, f89_0, f89_1⟩ := hq89
      have O89 := extK O0 K89 all0
      have N89 := Fr.app N0 N89q
      show Go _ _ _ _ (State.setTop _ (mkF _ 32 _ [(.ref b89)]))
      refine gGoto X89 H at_32 (by decide) 36 rfl ?_
      refine gAstore X89 H at_36 rfl (Ls' := #[vI p0, vI p1, vI 1, vI 0, vR b89, .unset, .unset, .unset]) rfl 38 rfl ?_
      refine gNew X89 H hZ hown (hw _ wd7) (hw _ wd8) (hw _ wd9) rfl (by decide) (by decide) at_38 41 rfl ?_
      intro T90 h90 b90 X90 e90 z90 E90 A90 D90
      have M91 := (Nat.le_trans M0 K89.1)
      have G_b90 := Nat.le_trans O89.1 (Nat.le_of_eq z90)
      have sz_b90 := Nat.le_trans M91 (Nat.le_of_eq z90)
      have ne_b89_b90 : b89 ≠ b90 := neB f89_0.lt (Nat.le_of_eq z90)
      have O90 := extT O89 E90
      have F90_value : Fld Z h90 b90 cs0 "value" cs1 .null := D90 (Or.inr (hw _ wd22)) (ty := (.object "java/lang/Object")) (by decide)
      have F90_included : Fld Z h90 b90 cs0 "included" "Z" (.int 0) := D90 (Or.inr (hw _ wd24)) (ty := .boolean) (by decide)
      refine gDup X90 H at_41 rfl 42 rfl ?_
      refine gAload X90 H at_42 rfl rfl 44 rfl ?_
      refine gIloadN X90 H at_44 rfl 45 rfl ?_
      refine gSpecial X90 H hZ hown rfl rfl (hw _ wd10) (hw _ wd11) (by decide) (hw _ wd12) (hw _ wd9) (rm105_2 B b90 b89 _ O90 A90 F90_value G_b90 F90_included) e90 hml rfl pd1 rfl (W := 1) (argsL := [(.ref b89), (.int 0)]) (rest := [(.ref b90)]) rfl rfl at_45 48 rfl ?_
      intro v106 T106 L106 hq106 X106
      obtain ⟨rfl, N106q, K106, f106_0, f106_1, f106_2⟩ := hq106
      have O106 := extK O90 K106 (allS G_b90 all0)
      have N106 := Fr.app N89 N106q
      show Go _ _ _ _ (State.setTop _ (mkF _ 48 _ [(.ref b90)]))
      refine gAstore X106 H at_48 rfl (Ls' := #[vI p0, vI p1, vI 1, vI 0, vR b89, vR b90, .unset, .unset]) rfl 50 rfl ?_
      refine gAload X106 H at_50 rfl rfl 52 rfl ?_
      refine gVirt X106 H hZ hown (hw _ wd25) (hw _ wd26) (hw _ wd28) (hw _ wd27) (by decide) f106_0 (hw _ wd29) (hw _ wd9) (rm109_5 B b90 b89 _ O106 f106_1) rfl hml rfl pd2 rfl (W := 0) (argsL := []) (rest := []) rfl rfl at_52 55 rfl ?_
      intro v110 T110 L110 hq110 X110
      obtain ⟨rfl, e110, rfl⟩ := hq110
      have N110 := Fr.app N106 (Fr.nil _)
      show Go _ _ _ _ (State.setTop _ (mkF _ 55 _ [(.int 1)]))
      refine gIloadN X110 H at_55 rfl 56 rfl ?_
      refine gCmpY X110 H at_56 (by decide) (by decide) 61 rfl ?_
      refine gStatic X110 H hZ hown (hw _ wd30) (hw _ wd31) (by decide) (hw _ wd32) (hw _ wd9) (rm29_6 B _ O106) e110 hml rfl pd3 rfl (W := 0) (argsL := []) (rest := []) rfl rfl at_61 64 rfl ?_
      intro v111 T111 L111 hq111 X111
      obtain ⟨b111_0, rfl, N111q, K111, s111_0, f111_0, f111_1, f111_2⟩ := hq111
      have M112 := (Nat.le_trans (Nat.le_trans M91 E90.1) K106.1)
      have G_b111_0 := Nat.le_trans O106.1 s111_0
      have sz_b111_0 := Nat.le_trans M112 s111_0
      have c113 := ((f89_0.ext E90).keep K106)
      have ne_b89_b111_0 : b89 ≠ b111_0 := neB c113.lt s111_0
      have ne_b90_b111_0 : b90 ≠ b111_0 := neB f106_0.lt s111_0
      have O111 := extK O106 K111 all0
      have N111 := Fr.app N110 N111q
      show Go _ _ _ _ (State.setTop _ (mkF _ 64 _ [(.ref b111_0)]))
      refine gAstore X111 H at_64 rfl (Ls' := #[vI p0, vI p1, vI 1, vI 0, vR b89, vR b90, vR b111_0, .unset]) rfl 66 rfl ?_
      refine gAload X111 H at_66 rfl rfl 68 rfl ?_
      refine gVirt X111 H hZ hown (hw _ wd25) (hw _ wd26) (hw _ wd28) (hw _ wd27) (by decide) f111_0 (hw _ wd29) (hw _ wd9) (rm23_5 B b111_0 _ O111 f111_1) rfl hml rfl pd2 rfl (W := 0) (argsL := []) (rest := []) rfl rfl at_68 71 rfl ?_
      intro v114 T114 L114 hq114 X114
      obtain ⟨rfl, e114, rfl⟩ := hq114
      have N114 := Fr.app N111 (Fr.nil _)
      show Go _ _ _ _ (State.setTop _ (mkF _ 71 _ [(.int 0)]))
      refine gIfY X114 H at_71 (by decide) (by decide) 76 rfl ?_
      refine gAload X114 H at_76 rfl rfl 78 rfl ?_
      have c115 := (f106_0.keep K111)
      have c143 := (f106_1.keep K111 nin0)
      have c144 := (f106_2.keep K111 nin0)
      refine gVirt X114 H hZ hown (hw _ wd35) (hw _ wd36) (hw _ wd38) (hw _ wd37) (by decide) c115 (hw _ wd39) (hw _ wd9) (rm142_7 B b90 b89 _ O111 c115 c143 c144) e114 hml rfl pd3 rfl (W := 0) (argsL := []) (rest := []) rfl rfl at_78 81 rfl ?_
      intro v145 T145 L145 hq145 X145
      obtain ⟨b145_0, rfl, N145q, K145, s145_0, f145_0, f145_1, f145_2⟩ := hq145
      have M146 := (Nat.le_trans M112 K111.1)
      have G_b145_0 := Nat.le_trans O111.1 s145_0
      have sz_b145_0 := Nat.le_trans M146 s145_0
      have c147 := (c113.keep K111)
      have ne_b89_b145_0 : b89 ≠ b145_0 := neB c147.lt s145_0
      have ne_b90_b145_0 : b90 ≠ b145_0 := neB c115.lt s145_0
      have ne_b111_0_b145_0 : b111_0 ≠ b145_0 := neB f111_0.lt s145_0
      have O145 := extK O111 K145 all0
      have N145 := Fr.app N114 N145q
      show Go _ _ _ _ (State.setTop _ (mkF _ 81 _ [(.ref b145_0)]))
      refine gAstore X145 H at_81 rfl (Ls' := #[vI p0, vI p1, vI 1, vI 0, vR b89, vR b90, vR b111_0, vR b145_0]) rfl 83 rfl ?_
      refine gAload X145 H at_83 rfl rfl 85 rfl ?_
      refine gVirt X145 H hZ hown (hw _ wd25) (hw _ wd26) (hw _ wd28) (hw _ wd27) (by decide) f145_0 (hw _ wd29) (hw _ wd9) (rm109_5 B b145_0 b89 _ O145 f145_1) rfl hml rfl pd2 rfl (W := 0) (argsL := []) (rest := []) rfl rfl at_85 88 rfl ?_
      intro v148 T148 L148 hq148 X148
      obtain ⟨rfl, e148, rfl⟩ := hq148
      have N148 := Fr.app N145 (Fr.nil _)
      show Go _ _ _ _ (State.setTop _ (mkF _ 88 _ [(.int 1)]))
      refine gIloadN X148 H at_88 rfl 89 rfl ?_
      refine gCmpY X148 H at_89 (by decide) (by decide) 94 rfl ?_
      refine gIconst X148 H at_94 (z := 1) rfl 95 rfl ?_
      exact gRetN X148 H hlk hret (t := .boolean) (by simp) at_95 e148 ⟨rfl, N148⟩
    · refine gIfN X0 H at_15 ((if0 _ _).trans (feq hc65).1) 18 rfl ?_
      refine gIconst X0 H at_18 (z := 1) rfl 19 rfl ?_
      refine gGoto X0 H at_19 (by decide) 23 rfl ?_
      refine gIstoreN X0 H at_23 (Ls' := #[vI p0, vI p1, vI 1, vI 1, .unset, .unset, .unset, .unset]) rfl 24 rfl ?_
      refine gIloadN X0 H at_24 rfl 25 rfl ?_
      refine gIfN X0 H at_25 (by decide) 28 rfl ?_
      refine gIloadN X0 H at_28 rfl 29 rfl ?_
      refine gStatic X0 H hZ hown (hw _ wd0) (hw _ wd1) (by decide) (hw _ wd3) (hw _ wd2) (boxI B p0 _ O0) e0 hml rfl pd5 rfl (W := 0) (argsL := [(.int p0)]) (rest := []) rfl rfl at_29 32 rfl ?_
      intro v149 T149 L149 hq149 X149
      obtain ⟨b149, rfl, N149q, K149, f149_0, f149_1⟩ := hq149
      have O149 := extK O0 K149 all0
      have N149 := Fr.app N0 N149q
      show Go _ _ _ _ (State.setTop _ (mkF _ 32 _ [(.ref b149)]))
      refine gGoto X149 H at_32 (by decide) 36 rfl ?_
      refine gAstore X149 H at_36 rfl (Ls' := #[vI p0, vI p1, vI 1, vI 1, vR b149, .unset, .unset, .unset]) rfl 38 rfl ?_
      refine gNew X149 H hZ hown (hw _ wd7) (hw _ wd8) (hw _ wd9) rfl (by decide) (by decide) at_38 41 rfl ?_
      intro T150 h150 b150 X150 e150 z150 E150 A150 D150
      have M151 := (Nat.le_trans M0 K149.1)
      have G_b150 := Nat.le_trans O149.1 (Nat.le_of_eq z150)
      have sz_b150 := Nat.le_trans M151 (Nat.le_of_eq z150)
      have ne_b149_b150 : b149 ≠ b150 := neB f149_0.lt (Nat.le_of_eq z150)
      have O150 := extT O149 E150
      have F150_value : Fld Z h150 b150 cs0 "value" cs1 .null := D150 (Or.inr (hw _ wd22)) (ty := (.object "java/lang/Object")) (by decide)
      have F150_included : Fld Z h150 b150 cs0 "included" "Z" (.int 0) := D150 (Or.inr (hw _ wd24)) (ty := .boolean) (by decide)
      refine gDup X150 H at_41 rfl 42 rfl ?_
      refine gAload X150 H at_42 rfl rfl 44 rfl ?_
      refine gIloadN X150 H at_44 rfl 45 rfl ?_
      refine gSpecial X150 H hZ hown rfl rfl (hw _ wd10) (hw _ wd11) (by decide) (hw _ wd12) (hw _ wd9) (rm138_2 B b150 b149 _ O150 A150 F150_value G_b150 F150_included) e150 hml rfl pd1 rfl (W := 1) (argsL := [(.ref b149), (.int 1)]) (rest := [(.ref b150)]) rfl rfl at_45 48 rfl ?_
      intro v152 T152 L152 hq152 X152
      obtain ⟨rfl, N152q, K152, f152_0, f152_1, f152_2⟩ := hq152
      have O152 := extK O150 K152 (allS G_b150 all0)
      have N152 := Fr.app N149 N152q
      show Go _ _ _ _ (State.setTop _ (mkF _ 48 _ [(.ref b150)]))
      refine gAstore X152 H at_48 rfl (Ls' := #[vI p0, vI p1, vI 1, vI 1, vR b149, vR b150, .unset, .unset]) rfl 50 rfl ?_
      refine gAload X152 H at_50 rfl rfl 52 rfl ?_
      refine gVirt X152 H hZ hown (hw _ wd25) (hw _ wd26) (hw _ wd28) (hw _ wd27) (by decide) f152_0 (hw _ wd29) (hw _ wd9) (rm109_5 B b150 b149 _ O152 f152_1) rfl hml rfl pd2 rfl (W := 0) (argsL := []) (rest := []) rfl rfl at_52 55 rfl ?_
      intro v153 T153 L153 hq153 X153
      obtain ⟨rfl, e153, rfl⟩ := hq153
      have N153 := Fr.app N152 (Fr.nil _)
      show Go _ _ _ _ (State.setTop _ (mkF _ 55 _ [(.int 1)]))
      refine gIloadN X153 H at_55 rfl 56 rfl ?_
      refine gCmpY X153 H at_56 (by decide) (by decide) 61 rfl ?_
      refine gStatic X153 H hZ hown (hw _ wd30) (hw _ wd31) (by decide) (hw _ wd32) (hw _ wd9) (rm29_6 B _ O152) e153 hml rfl pd3 rfl (W := 0) (argsL := []) (rest := []) rfl rfl at_61 64 rfl ?_
      intro v154 T154 L154 hq154 X154
      obtain ⟨b154_0, rfl, N154q, K154, s154_0, f154_0, f154_1, f154_2⟩ := hq154
      have M155 := (Nat.le_trans (Nat.le_trans M151 E150.1) K152.1)
      have G_b154_0 := Nat.le_trans O152.1 s154_0
      have sz_b154_0 := Nat.le_trans M155 s154_0
      have c156 := ((f149_0.ext E150).keep K152)
      have ne_b149_b154_0 : b149 ≠ b154_0 := neB c156.lt s154_0
      have ne_b150_b154_0 : b150 ≠ b154_0 := neB f152_0.lt s154_0
      have O154 := extK O152 K154 all0
      have N154 := Fr.app N153 N154q
      show Go _ _ _ _ (State.setTop _ (mkF _ 64 _ [(.ref b154_0)]))
      refine gAstore X154 H at_64 rfl (Ls' := #[vI p0, vI p1, vI 1, vI 1, vR b149, vR b150, vR b154_0, .unset]) rfl 66 rfl ?_
      refine gAload X154 H at_66 rfl rfl 68 rfl ?_
      refine gVirt X154 H hZ hown (hw _ wd25) (hw _ wd26) (hw _ wd28) (hw _ wd27) (by decide) f154_0 (hw _ wd29) (hw _ wd9) (rm23_5 B b154_0 _ O154 f154_1) rfl hml rfl pd2 rfl (W := 0) (argsL := []) (rest := []) rfl rfl at_68 71 rfl ?_
      intro v157 T157 L157 hq157 X157
      obtain ⟨rfl, e157, rfl⟩ := hq157
      have N157 := Fr.app N154 (Fr.nil _)
      show Go _ _ _ _ (State.setTop _ (mkF _ 71 _ [(.int 0)]))
      refine gIfY X157 H at_71 (by decide) (by decide) 76 rfl ?_
      refine gAload X157 H at_76 rfl rfl 78 rfl ?_
      have c158 := (f152_0.keep K154)
      have c172 := (f152_1.keep K154 nin0)
      have c173 := (f152_2.keep K154 nin0)
      refine gVirt X157 H hZ hown (hw _ wd35) (hw _ wd36) (hw _ wd38) (hw _ wd37) (by decide) c158 (hw _ wd39) (hw _ wd9) (rm171_7 B b150 b149 _ O154 c158 c172 c173) e157 hml rfl pd3 rfl (W := 0) (argsL := []) (rest := []) rfl rfl at_78 81 rfl ?_
      intro v174 T174 L174 hq174 X174
      obtain ⟨b174_0, rfl, N174q, K174, s174_0, f174_0, f174_1, f174_2⟩ := hq174
      have M175 := (Nat.le_trans M155 K154.1)
      have G_b174_0 := Nat.le_trans O154.1 s174_0
      have sz_b174_0 := Nat.le_trans M175 s174_0
      have c176 := (c156.keep K154)
      have ne_b149_b174_0 : b149 ≠ b174_0 := neB c176.lt s174_0
      have ne_b150_b174_0 : b150 ≠ b174_0 := neB c158.lt s174_0
      have ne_b154_0_b174_0 : b154_0 ≠ b174_0 := neB f154_0.lt s174_0
      have O174 := extK O154 K174 all0
      have N174 := Fr.app N157 N174q
      show Go _ _ _ _ (State.setTop _ (mkF _ 81 _ [(.ref b174_0)]))
      refine gAstore X174 H at_81 rfl (Ls' := #[vI p0, vI p1, vI 1, vI 1, vR b149, vR b150, vR b154_0, vR b174_0]) rfl 83 rfl ?_
      refine gAload X174 H at_83 rfl rfl 85 rfl ?_
      refine gVirt X174 H hZ hown (hw _ wd25) (hw _ wd26) (hw _ wd28) (hw _ wd27) (by decide) f174_0 (hw _ wd29) (hw _ wd9) (rm109_5 B b174_0 b149 _ O174 f174_1) rfl hml rfl pd2 rfl (W := 0) (argsL := []) (rest := []) rfl rfl at_85 88 rfl ?_
      intro v177 T177 L177 hq177 X177
      obtain ⟨rfl, e177, rfl⟩ := hq177
      have N177 := Fr.app N174 (Fr.nil _)
      show Go _ _ _ _ (State.setTop _ (mkF _ 88 _ [(.int 1)]))
      refine gIloadN X177 H at_88 rfl 89 rfl ?_
      refine gCmpY X177 H at_89 (by decide) (by decide) 94 rfl ?_
      refine gIconst X177 H at_94 (z := 1) rfl 95 rfl ?_
      exact gRetN X177 H hlk hret (t := .boolean) (by simp) at_95 e177 ⟨rfl, N177⟩
end Walk
set_option maxHeartbeats 4000000 in
theorem comes_1 {Post : Tables → Env → Array Value → State → Outcome → State → Prop} (hpost : ∀ tb e args s v u, (limb_1_1.after args s (.returned v) u = true ∧ limb_1_2.after args s (.returned v) u = true ∧ True) → FrameEnd s (.returned v) u (Jvm.fieldLocs frame_1_writes args s ++ Jvm.arrayLocs frame_1_arrays args s ++ Jvm.staticLocs frame_1_statics s) 16 128 → Post tb e args s (.returned v) u) :
    ArmFor flags0 classFile x code maxLocals ret World_1 tables_1 room_1 Calls_1 rest_1 Pre_1 Post := by
  intro l hfl _ _ p e ha hc hk s m args below hf hA hF happ hP
  obtain ⟨hcalls, hrest, hpre⟩ := hP
  obtain ⟨-, -, -, hnamed, -, -, -, hat⟩ := (Spec.applies_iff hf).mp happ
  obtain ⟨hg, hn⟩ := and_e (Cond.before_iff.mp (show (Jvm.Cond.and given_1 narrow_1).before args s = true from hpre))
  obtain ⟨n1, n2⟩ := and_e hg
  obtain ⟨n3, n4⟩ := and_e n2
  obtain ⟨w0, w1, rfl⟩ : ∃ w0 w1 : Value, args = #[w0, w1] := by
    have hs : args.size = 2 := by simpa [Cond.value, given_1] using n1
    obtain ⟨L⟩ := args
    match L, hs with
    | [w0, w1], _ => exact ⟨w0, w1, rfl⟩
  obtain ⟨hsets, hown0⟩ := atoms_of _ (rest_1_c_eq ▸ (show rest_1_c.before _ s = true from hrest))
  have hfit : Fit s := fun {y c} hc i hi => by
    obtain ⟨ha, rfl⟩ := Array.getElem?_eq_some_iff.mp hc
    have q := List.all_eq_true.mp ((Array.all_eq_true_iff_forall_mem.mp hF) _ (Array.getElem_mem ha)) i (List.mem_range.mpr hi)
    simpa [Array.getElem?_eq_getElem hi] using q
  have hw := fun d (hd : d ∈ tables_1) => atoms_spec (ws := Jvm.Cond.code x code maxLocals ret :: tables_1) hat d (List.mem_cons_of_mem _ hd)
  obtain ⟨i0, ei0⟩ := is_v n3
  obtain rfl : w0 = (.int i0) := Option.some.inj ei0
  obtain ⟨i1, ei1⟩ := is_v n4
  obtain rfl : w1 = (.int i1) := Option.some.inj ei1
  obtain ⟨w_cacheI, ev_w_cacheI⟩ := arr_v (Cond.before_iff.mp (hsets _ (List.mem_of_getElem? (i := 4) rfl)))
  obtain ⟨cl_cacheI, Ar_w_cacheI⟩ := Arr.start ev_w_cacheI (Cond.before_iff.mp (hsets _ (List.mem_of_getElem? (i := 4) rfl)))
  obtain ⟨ln_w_cacheI, le_w_cacheI⟩ := Jvm.Free.IntBox.length_fwd (hsets _ (List.mem_of_getElem? (i := 6) rfl)) ev_w_cacheI Ar_w_cacheI.1 Ar_w_cacheI.2.1 Ar_w_cacheI.2.2
  have W : World s w_cacheI cl_cacheI := ⟨Sta.start (eqv_i (Term.int_eval 127) (Cond.before_iff.mp (hsets _ (List.mem_of_getElem? (i := 3) rfl)))) (Or.inl (hsets _ (List.mem_of_getElem? (i := 1) rfl))), Sta.start ev_w_cacheI (Or.inr ⟨(hw _ wd5), (hsets _ (List.mem_of_getElem? (i := 2) rfl))⟩), Bxs.start (fun _ => ev_w_cacheI) Ar_w_cacheI ln_w_cacheI le_w_cacheI (by decide) (Cond.before_iff.mp (hsets _ (List.mem_of_getElem? (i := 7) rfl))) (fun X j nn q => eqv_i (by simp [Term.eval, (back32 nn).1]) q)⟩
  have B : Bg s _ w_cacheI cl_cacheI := ⟨hw, W⟩
  obtain ⟨n, o, h1, h2, h3, _, L, rfl, ⟨rfl, N⟩, hq⟩ := (lawAll (l := l) B i0 i1) tables_1 p e ha hc hk s m _ below hf ((Spec.applies_iff_loose hf).mp happ).1 ⟨rfl, State.Warmed39.refl s, rfl⟩ trivial
  refine ⟨n, _, h1, h2, h3, hpost _ _ _ _ _ _ ⟨Cond.after_iff.mpr rfl, Cond.after_iff.mpr (eq_i res_at (Term.int_eval (1)) rfl), trivial⟩ ⟨hq.1, hq.2.1, (hq.2.2.sift fun y hy => Or.inr (N y hy)).mono (by decide) (by decide)⟩⟩
theorem main_1_1 : Claimed_1_1 := comes_1 fun _ _ _ _ _ _ h hF => ⟨h.1, hF⟩
theorem main_1_2 : Claimed_1_2 := comes_1 fun _ _ _ _ _ _ h hF => ⟨h.2.1, hF⟩
end Jvm.Pilot.@@N@@
namespace Jvm.Pilot.@@N@@
open Jvm Jvm.ClassFile Sem Op Lib Jvm.Free Jvm.Stand Jvm.Pilot.@@N@@.Jvm.D
/-! MADE BY PROGRAM (witnessworld.py) out of the Statement's table words and the real class files: 17 classes; the members and pool entries that the words name. The judged class is class 1, her method 1. -/
namespace start1
open Jvm.ClassFile
def u (s : String) : CpInfo := .utf8 (stringToUtf16 s)
/-- a pool by its gaps: so many unusable entries, then the entry; so many at the end -/
def gap : Nat → List CpInfo → List CpInfo
  | 0, r => r
  | n + 1, r => .unusable :: gap n r
def poolList (es : List (Nat × CpInfo)) (last : Nat) : List CpInfo := es.foldr (fun e r => gap e.1 (e.2 :: r)) (gap last [])
def pool (es : List (Nat × CpInfo)) (last : Nat) : Array CpInfo := ⟨poolList es last⟩
def fileOf (pool : Array CpInfo) (this : Nat) (attrs : Array Attribute := #[]) (ms : Array MethodInfo := #[]) (fl : Nat := 33) (sup : Nat := 0) (ifs : Array Nat := #[]) (fds : Array FieldInfo := #[]) : ClassFile where
  minorVersion := 0
  majorVersion := 65
  constantPool := pool
  accessFlags := fl
  thisClass := this
  superClass := sup
  interfaces := ifs
  fields := fds
  methods := ms
  attributes := attrs
def plain (name : String) (sup : Option ClassId) : Class where
  name := name
  kind := .ordinary
  loader := none
  accessFlags := 33
  super := sup
  interfaces := #[]
  cf := none
  fields := #[]
  methods := #[]
  instanceTypes := #[]
  staticTypes := #[]
  resolved := #[]
  callSites := []
  init := .initialized
  statics := none
  mirror := none

def pool0 : Array CpInfo := pool [(5, u "<init>"), (0, u "()V"), (1, .class_ 10), (1, u "java/lang/Object")] 113

def k0c0 : Code := { maxStack := 0, maxLocals := 1, code := object_method_1_code, exceptionTable := #[], attributes := #[] }
def k0m0 : Method := { name := "<init>", desc := "()V", sig := { parameters := [], returnType := none }, accessFlags := 1, code := some k0c0 }
/-- java/lang/Object -/
def k0 : Class := { plain "java/lang/Object" none with
  accessFlags := 33
  interfaces := #[]
  cf := some (fileOf pool0 8 #[] #[{ accessFlags := 1, nameIndex := 5, descriptorIndex := 6, attributes := #[] }] 33 0 #[] #[])
  fields := #[]
  methods := #[k0m0]
  instanceTypes := #[]
  staticTypes := #[]
  resolved := Array.replicate 124 none
  statics := none }

def pool1 : Array CpInfo := pool [(2, .class_ 4), (1, u "java/lang/Object"), (0, u "<init>"), (0, u "()V"), (0, .methodref 8 9), (0, .class_ 10), (0, .nameAndType 11 12), (0, u "java/lang/Integer"), (0, u "valueOf"), (0, u "(I)Ljava/lang/Integer;"), (0, .class_ 14), (0, u "com/example/rowcast/rowcast/ValueSet$End"), (0, .methodref 13 16), (0, .nameAndType 5 17), (0, u "(Ljava/lang/Object;Z)V"), (0, .methodref 13 19), (0, .nameAndType 20 21), (0, u "bounded"), (0, u "()Z"), (0, .methodref 13 23), (0, .nameAndType 24 25), (0, u "none"), (0, u "()Lcom/example/rowcast/rowcast/ValueSet$End;"), (0, .methodref 13 27), (0, .nameAndType 28 25), (0, u "flipped"), (0, .class_ 30), (0, u "com/example/rowcast/rowcast/EndBoundedPinLaw"), (2, u "law"), (0, u "(II)Z")] 7

def k1m0 : Method := { name := "<init>", desc := "()V", sig := { parameters := [], returnType := none }, accessFlags := 1, code := none }
def k1c1 : Code := { maxStack := 4, maxLocals := 8, code := code, exceptionTable := #[], attributes := #[] }
def k1m1 : Method := { name := "law", desc := "(II)Z", sig := { parameters := [.int, .int], returnType := some .boolean }, accessFlags := 9, code := some k1c1 }
/-- com/example/rowcast/rowcast/EndBoundedPinLaw -/
def k1 : Class := { plain "com/example/rowcast/rowcast/EndBoundedPinLaw" (some 0) with
  accessFlags := 49
  interfaces := #[]
  cf := some (fileOf pool1 29 #[] #[{ accessFlags := 1, nameIndex := 5, descriptorIndex := 6, attributes := #[] }, { accessFlags := 9, nameIndex := 33, descriptorIndex := 34, attributes := #[] }] 49 2 #[] #[])
  fields := #[]
  methods := #[k1m0, k1m1]
  instanceTypes := #[]
  staticTypes := #[]
  resolved := Array.replicate 42 none
  statics := none }

def pool2 : Array CpInfo := pool [(1, .class_ 2), (0, u "java/io/Serializable"), (0, .class_ 4), (0, u "java/lang/Object")] 2

/-- java/io/Serializable -/
def k2 : Class := { plain "java/io/Serializable" (some 0) with
  accessFlags := 1537
  interfaces := #[]
  cf := some (fileOf pool2 1 #[] #[] 1537 3 #[] #[])
  fields := #[]
  methods := #[]
  instanceTypes := #[]
  staticTypes := #[]
  resolved := Array.replicate 7 none
  statics := none }

def pool3 : Array CpInfo := pool [(1, .methodref 2 3), (0, .class_ 4), (0, .nameAndType 5 6), (0, u "java/lang/Object"), (0, u "<init>"), (0, u "()V"), (1, .class_ 10), (1, u "java/lang/Number"), (2, .class_ 14), (0, u "java/io/Serializable"), (0, u "serialVersionUID"), (0, u "J")] 20

def k3c0 : Code := { maxStack := 1, maxLocals := 1, code := jdk_18_method_1_code, exceptionTable := #[], attributes := #[] }
def k3m0 : Method := { name := "<init>", desc := "()V", sig := { parameters := [], returnType := none }, accessFlags := 1, code := some k3c0 }
/-- java/lang/Number -/
def k3 : Class := { plain "java/lang/Number" (some 0) with
  accessFlags := 1057
  interfaces := #[2]
  cf := some (fileOf pool3 8 #[] #[{ accessFlags := 1, nameIndex := 5, descriptorIndex := 6, attributes := #[] }] 1057 2 #[13] #[{ accessFlags := 26, nameIndex := 15, descriptorIndex := 16, attributes := #[] }])
  fields := #[{ name := "serialVersionUID", type := .long, accessFlags := 26, slot := 0, constantValue := 0 }]
  methods := #[k3m0]
  instanceTypes := #[]
  staticTypes := #[.long]
  resolved := Array.replicate 37 none
  statics := none }

def pool4 : Array CpInfo := pool [(1, .class_ 2), (0, u "java/lang/Comparable"), (0, .class_ 4), (0, u "java/lang/Object")] 7

/-- java/lang/Comparable -/
def k4 : Class := { plain "java/lang/Comparable" (some 0) with
  accessFlags := 1537
  interfaces := #[]
  cf := some (fileOf pool4 1 #[] #[] 1537 3 #[] #[])
  fields := #[]
  methods := #[]
  instanceTypes := #[]
  staticTypes := #[]
  resolved := Array.replicate 12 none
  statics := none }

def pool5 : Array CpInfo := pool [(1, .class_ 2), (0, u "java/lang/constant/Constable"), (0, .class_ 4), (0, u "java/lang/Object")] 6

/-- java/lang/constant/Constable -/
def k5 : Class := { plain "java/lang/constant/Constable" (some 0) with
  accessFlags := 1537
  interfaces := #[]
  cf := some (fileOf pool5 1 #[] #[] 1537 3 #[] #[])
  fields := #[]
  methods := #[]
  instanceTypes := #[]
  staticTypes := #[]
  resolved := Array.replicate 11 none
  statics := none }

def pool6 : Array CpInfo := pool [(1, .class_ 2), (0, u "java/lang/constant/ConstantDesc"), (0, .class_ 4), (0, u "java/lang/Object")] 32

/-- java/lang/constant/ConstantDesc -/
def k6 : Class := { plain "java/lang/constant/ConstantDesc" (some 0) with
  accessFlags := 1537
  interfaces := #[]
  cf := some (fileOf pool6 1 #[] #[] 1537 3 #[] #[])
  fields := #[]
  methods := #[]
  instanceTypes := #[]
  staticTypes := #[]
  resolved := Array.replicate 37 none
  statics := none }

def pool7 : Array CpInfo := pool [(1, .class_ 2), (0, u "java/lang/Integer"), (16, u "digits"), (0, u "[C"), (46, u "<init>"), (17, u "DigitOnes"), (0, u "[B"), (2, u "DigitTens"), (10, .nameAndType 67 101), (0, u "()V"), (85, u "valueOf"), (0, u "(I)Ljava/lang/Integer;"), (0, .class_ 190), (0, u "java/lang/Integer$IntegerCache"), (0, .fieldref 189 192), (0, .nameAndType 193 194), (0, u "high"), (0, u "I"), (0, .fieldref 189 196), (0, .nameAndType 197 198), (0, u "cache"), (0, u "[Ljava/lang/Integer;"), (0, .methodref 1 200), (0, .nameAndType 67 201), (0, u "(I)V"), (0, .methodref 203 100), (0, .class_ 204), (0, u "java/lang/Number"), (0, .fieldref 1 206), (0, .nameAndType 207 194), (0, u "value"), (94, u "TYPE"), (0, u "Ljava/lang/Class;"), (0, .class_ 305), (0, u "java/lang/Comparable"), (0, .class_ 307), (0, u "java/lang/constant/Constable"), (0, .class_ 309), (0, u "java/lang/constant/ConstantDesc"), (0, u "MIN_VALUE"), (1, u "MAX_VALUE"), (3, u "SIZE"), (1, u "BYTES"), (1, u "serialVersionUID"), (0, u "J")] 131

def k7c0 : Code := { maxStack := 3, maxLocals := 1, code := jdk_33_method_22_code, exceptionTable := #[], attributes := #[] }
def k7m0 : Method := { name := "valueOf", desc := "(I)Ljava/lang/Integer;", sig := { parameters := [.int], returnType := some (.object "java/lang/Integer") }, accessFlags := 9, code := some k7c0 }
def k7c1 : Code := { maxStack := 2, maxLocals := 2, code := jdk_33_method_23_code, exceptionTable := #[], attributes := #[] }
def k7m1 : Method := { name := "<init>", desc := "(I)V", sig := { parameters := [.int], returnType := none }, accessFlags := 1, code := some k7c1 }
/-- java/lang/Integer -/
def k7 : Class := { plain "java/lang/Integer" (some 3) with
  accessFlags := 49
  interfaces := #[4, 5, 6]
  cf := some (fileOf pool7 1 #[.nestMembers #[189]] #[{ accessFlags := 9, nameIndex := 187, descriptorIndex := 188, attributes := #[] }, { accessFlags := 1, nameIndex := 67, descriptorIndex := 201, attributes := #[] }] 49 203 #[304, 306, 308] #[{ accessFlags := 25, nameIndex := 310, descriptorIndex := 194, attributes := #[] }, { accessFlags := 25, nameIndex := 312, descriptorIndex := 194, attributes := #[] }, { accessFlags := 25, nameIndex := 302, descriptorIndex := 303, attributes := #[] }, { accessFlags := 24, nameIndex := 19, descriptorIndex := 20, attributes := #[] }, { accessFlags := 24, nameIndex := 89, descriptorIndex := 86, attributes := #[] }, { accessFlags := 24, nameIndex := 85, descriptorIndex := 86, attributes := #[] }, { accessFlags := 18, nameIndex := 207, descriptorIndex := 194, attributes := #[] }, { accessFlags := 25, nameIndex := 316, descriptorIndex := 194, attributes := #[] }, { accessFlags := 25, nameIndex := 318, descriptorIndex := 194, attributes := #[] }, { accessFlags := 26, nameIndex := 320, descriptorIndex := 321, attributes := #[] }])
  fields := #[{ name := "MIN_VALUE", type := .int, accessFlags := 25, slot := 0, constantValue := 0 }, { name := "MAX_VALUE", type := .int, accessFlags := 25, slot := 1, constantValue := 0 }, { name := "TYPE", type := (.object "java/lang/Class"), accessFlags := 25, slot := 2, constantValue := 0 }, { name := "digits", type := (.array .char), accessFlags := 24, slot := 3, constantValue := 0 }, { name := "DigitTens", type := (.array .byte), accessFlags := 24, slot := 4, constantValue := 0 }, { name := "DigitOnes", type := (.array .byte), accessFlags := 24, slot := 5, constantValue := 0 }, { name := "value", type := .int, accessFlags := 18, slot := 0, constantValue := 0 }, { name := "SIZE", type := .int, accessFlags := 25, slot := 6, constantValue := 0 }, { name := "BYTES", type := .int, accessFlags := 25, slot := 7, constantValue := 0 }, { name := "serialVersionUID", type := .long, accessFlags := 26, slot := 8, constantValue := 0 }]
  methods := #[k7m0, k7m1]
  instanceTypes := #[.int]
  staticTypes := #[.int, .int, (.object "java/lang/Class"), (.array .char), (.array .byte), (.array .byte), .int, .int, .long]
  resolved := Array.replicate 453 none
  statics := none }

def pool8 : Array CpInfo := pool [(2, .class_ 4), (1, u "java/lang/Object"), (0, u "<init>"), (0, u "()V"), (0, .class_ 8), (0, u "java/lang/Integer"), (7, .class_ 18), (1, u "java/lang/Integer$IntegerCache"), (0, u "$assertionsDisabled"), (0, u "Z"), (26, u "high"), (0, u "I"), (8, u "archivedCache"), (0, u "[Ljava/lang/Integer;"), (12, u "cache"), (0, u "low")] 27

def k8m0 : Method := { name := "<init>", desc := "()V", sig := { parameters := [], returnType := none }, accessFlags := 2, code := none }
/-- java/lang/Integer$IntegerCache -/
def k8 : Class := { plain "java/lang/Integer$IntegerCache" (some 0) with
  accessFlags := 48
  interfaces := #[]
  cf := some (fileOf pool8 16 #[.nestHost 7] #[{ accessFlags := 2, nameIndex := 5, descriptorIndex := 6, attributes := #[] }] 48 2 #[] #[{ accessFlags := 24, nameIndex := 72, descriptorIndex := 48, attributes := #[] }, { accessFlags := 24, nameIndex := 47, descriptorIndex := 48, attributes := #[] }, { accessFlags := 24, nameIndex := 71, descriptorIndex := 58, attributes := #[] }, { accessFlags := 8, nameIndex := 57, descriptorIndex := 58, attributes := #[] }, { accessFlags := 4120, nameIndex := 19, descriptorIndex := 20, attributes := #[] }])
  fields := #[{ name := "low", type := .int, accessFlags := 24, slot := 0, constantValue := 0 }, { name := "high", type := .int, accessFlags := 24, slot := 1, constantValue := 0 }, { name := "cache", type := (.array (.object "java/lang/Integer")), accessFlags := 24, slot := 2, constantValue := 0 }, { name := "archivedCache", type := (.array (.object "java/lang/Integer")), accessFlags := 8, slot := 3, constantValue := 0 }, { name := "$assertionsDisabled", type := .boolean, accessFlags := 4120, slot := 4, constantValue := 0 }]
  methods := #[k8m0]
  instanceTypes := #[]
  staticTypes := #[.int, .int, (.array (.object "java/lang/Integer")), (.array (.object "java/lang/Integer")), .boolean]
  resolved := Array.replicate 100 none
  statics := some 0 }

def pool9 : Array CpInfo := pool [(1, .methodref 2 3), (0, .class_ 4), (0, .nameAndType 5 6), (0, u "java/lang/Object"), (0, u "<init>"), (0, u "()V"), (0, .class_ 8), (0, u "java/lang/Record")] 13

def k9c0 : Code := { maxStack := 1, maxLocals := 1, code := jdk_30_method_1_code, exceptionTable := #[], attributes := #[] }
def k9m0 : Method := { name := "<init>", desc := "()V", sig := { parameters := [], returnType := none }, accessFlags := 4, code := some k9c0 }
/-- java/lang/Record -/
def k9 : Class := { plain "java/lang/Record" (some 0) with
  accessFlags := 1057
  interfaces := #[]
  cf := some (fileOf pool9 7 #[] #[{ accessFlags := 4, nameIndex := 5, descriptorIndex := 6, attributes := #[] }] 1057 2 #[] #[])
  fields := #[]
  methods := #[k9m0]
  instanceTypes := #[]
  staticTypes := #[]
  resolved := Array.replicate 22 none
  statics := none }

def pool10 : Array CpInfo := pool [(1, .methodref 2 3), (0, .class_ 4), (0, .nameAndType 5 6), (0, u "java/lang/Record"), (0, u "<init>"), (0, u "()V"), (0, .fieldref 8 9), (0, .class_ 10), (0, .nameAndType 11 12), (0, u "com/example/rowcast/rowcast/ValueSet$End"), (0, u "value"), (0, u "Ljava/lang/Object;"), (0, .fieldref 8 14), (0, .nameAndType 15 16), (0, u "included"), (0, u "Z"), (0, .methodref 8 18), (0, .nameAndType 5 19), (0, u "(Ljava/lang/Object;Z)V"), (0, .methodref 8 21), (0, .nameAndType 22 23), (0, u "bounded"), (0, u "()Z"), (18, u "none"), (0, u "()Lcom/example/rowcast/rowcast/ValueSet$End;"), (2, u "flipped"), (12, .class_ 60), (0, u "com/example/rowcast/rowcast/ValueSet")] 20

def k10c0 : Code := { maxStack := 2, maxLocals := 3, code := prog_77_method_1_code, exceptionTable := #[], attributes := #[] }
def k10m0 : Method := { name := "<init>", desc := "(Ljava/lang/Object;Z)V", sig := { parameters := [(.object "java/lang/Object"), .boolean], returnType := none }, accessFlags := 0, code := some k10c0 }
def k10c1 : Code := { maxStack := 4, maxLocals := 0, code := prog_77_method_2_code, exceptionTable := #[], attributes := #[] }
def k10m1 : Method := { name := "none", desc := "()Lcom/example/rowcast/rowcast/ValueSet$End;", sig := { parameters := [], returnType := some (.object "com/example/rowcast/rowcast/ValueSet$End") }, accessFlags := 8, code := some k10c1 }
def k10c2 : Code := { maxStack := 1, maxLocals := 1, code := prog_77_method_3_code, exceptionTable := #[], attributes := #[] }
def k10m2 : Method := { name := "bounded", desc := "()Z", sig := { parameters := [], returnType := some .boolean }, accessFlags := 0, code := some k10c2 }
def k10c3 : Code := { maxStack := 4, maxLocals := 1, code := prog_77_method_4_code, exceptionTable := #[], attributes := #[] }
def k10m3 : Method := { name := "flipped", desc := "()Lcom/example/rowcast/rowcast/ValueSet$End;", sig := { parameters := [], returnType := some (.object "com/example/rowcast/rowcast/ValueSet$End") }, accessFlags := 0, code := some k10c3 }
/-- com/example/rowcast/rowcast/ValueSet$End -/
def k10 : Class := { plain "com/example/rowcast/rowcast/ValueSet$End" (some 9) with
  accessFlags := 48
  interfaces := #[]
  cf := some (fileOf pool10 8 #[.nestHost 59] #[{ accessFlags := 0, nameIndex := 5, descriptorIndex := 19, attributes := #[] }, { accessFlags := 8, nameIndex := 42, descriptorIndex := 43, attributes := #[] }, { accessFlags := 0, nameIndex := 22, descriptorIndex := 23, attributes := #[] }, { accessFlags := 0, nameIndex := 46, descriptorIndex := 43, attributes := #[] }] 48 2 #[] #[{ accessFlags := 18, nameIndex := 11, descriptorIndex := 12, attributes := #[] }, { accessFlags := 18, nameIndex := 15, descriptorIndex := 16, attributes := #[] }])
  fields := #[{ name := "value", type := (.object "java/lang/Object"), accessFlags := 18, slot := 0, constantValue := 0 }, { name := "included", type := .boolean, accessFlags := 18, slot := 1, constantValue := 0 }]
  methods := #[k10m0, k10m1, k10m2, k10m3]
  instanceTypes := #[(.object "java/lang/Object"), .boolean]
  staticTypes := #[]
  resolved := Array.replicate 81 none
  statics := none }

def pool11 : Array CpInfo := pool [(1, u "java/lang/Cloneable"), (0, .class_ 1), (0, u "java/lang/Object"), (0, .class_ 3)] 3

/-- java/lang/Cloneable -/
def k11 : Class := { plain "java/lang/Cloneable" (some 0) with
  accessFlags := 1537
  interfaces := #[]
  cf := some (fileOf pool11 2 #[] #[] 1537 4 #[] #[])
  fields := #[]
  methods := #[]
  instanceTypes := #[]
  staticTypes := #[]
  resolved := Array.replicate 8 none
  statics := none }

/-- the primitive byte -/
def k12 : Class := { plain "byte" none with kind := .primitive 'B', accessFlags := 0x411 }
/-- [B -/
def k13 : Class := { plain "[B" (some 0) with kind := .array 12 .byte, interfaces := #[11, 2], accessFlags := 1041 }

/-- the primitive int -/
def k14 : Class := { plain "int" none with kind := .primitive 'I', accessFlags := 0x411 }
/-- [I -/
def k15 : Class := { plain "[I" (some 0) with kind := .array 14 .int, interfaces := #[11, 2], accessFlags := 1041 }

/-- [Ljava/lang/Integer; -/
def k16 : Class := { plain "[Ljava/lang/Integer;" (some 0) with kind := .array 7 (.object "java/lang/Integer"), interfaces := #[11, 2], accessFlags := 1041 }

def heap : Heap := #[{ cls := 8, slots := #[.int 0, .int 127, .ref 1, .null, .int 0], vm := .statics 8 },
  { cls := 16, slots := #[.ref 2, .ref 3, .ref 4, .ref 5, .ref 6, .ref 7, .ref 8, .ref 9, .ref 10, .ref 11, .ref 12, .ref 13, .ref 14, .ref 15, .ref 16, .ref 17, .ref 18, .ref 19, .ref 20, .ref 21, .ref 22, .ref 23, .ref 24, .ref 25, .ref 26, .ref 27, .ref 28, .ref 29, .ref 30, .ref 31, .ref 32, .ref 33, .ref 34, .ref 35, .ref 36, .ref 37, .ref 38, .ref 39, .ref 40, .ref 41, .ref 42, .ref 43, .ref 44, .ref 45, .ref 46, .ref 47, .ref 48, .ref 49, .ref 50, .ref 51, .ref 52, .ref 53, .ref 54, .ref 55, .ref 56, .ref 57, .ref 58, .ref 59, .ref 60, .ref 61, .ref 62, .ref 63, .ref 64, .ref 65, .ref 66, .ref 67, .ref 68, .ref 69, .ref 70, .ref 71, .ref 72, .ref 73, .ref 74, .ref 75, .ref 76, .ref 77, .ref 78, .ref 79, .ref 80, .ref 81, .ref 82, .ref 83, .ref 84, .ref 85, .ref 86, .ref 87, .ref 88, .ref 89, .ref 90, .ref 91, .ref 92, .ref 93, .ref 94, .ref 95, .ref 96, .ref 97, .ref 98, .ref 99, .ref 100, .ref 101, .ref 102, .ref 103, .ref 104, .ref 105, .ref 106, .ref 107, .ref 108, .ref 109, .ref 110, .ref 111, .ref 112, .ref 113, .ref 114, .ref 115, .ref 116, .ref 117, .ref 118, .ref 119, .ref 120, .ref 121, .ref 122, .ref 123, .ref 124, .ref 125, .ref 126, .ref 127, .ref 128, .ref 129, .ref 130, .ref 131, .ref 132, .ref 133, .ref 134, .ref 135, .ref 136, .ref 137, .ref 138, .ref 139, .ref 140, .ref 141, .ref 142, .ref 143, .ref 144, .ref 145, .ref 146, .ref 147, .ref 148, .ref 149, .ref 150, .ref 151, .ref 152, .ref 153, .ref 154, .ref 155, .ref 156, .ref 157, .ref 158, .ref 159, .ref 160, .ref 161, .ref 162, .ref 163, .ref 164, .ref 165, .ref 166, .ref 167, .ref 168, .ref 169, .ref 170, .ref 171, .ref 172, .ref 173, .ref 174, .ref 175, .ref 176, .ref 177, .ref 178, .ref 179, .ref 180, .ref 181, .ref 182, .ref 183, .ref 184, .ref 185, .ref 186, .ref 187, .ref 188, .ref 189, .ref 190, .ref 191, .ref 192, .ref 193, .ref 194, .ref 195, .ref 196, .ref 197, .ref 198, .ref 199, .ref 200, .ref 201, .ref 202, .ref 203, .ref 204, .ref 205, .ref 206, .ref 207, .ref 208, .ref 209, .ref 210, .ref 211, .ref 212, .ref 213, .ref 214, .ref 215, .ref 216, .ref 217, .ref 218, .ref 219, .ref 220, .ref 221, .ref 222, .ref 223, .ref 224, .ref 225, .ref 226, .ref 227, .ref 228, .ref 229, .ref 230, .ref 231, .ref 232, .ref 233, .ref 234, .ref 235, .ref 236, .ref 237, .ref 238, .ref 239, .ref 240, .ref 241, .ref 242, .ref 243, .ref 244, .ref 245, .ref 246, .ref 247, .ref 248, .ref 249, .ref 250, .ref 251, .ref 252, .ref 253, .ref 254, .ref 255, .ref 256, .ref 257], vm := .none },
  { cls := 7, slots := #[.int (-128)], vm := .none },
  { cls := 7, slots := #[.int (-127)], vm := .none },
  { cls := 7, slots := #[.int (-126)], vm := .none },
  { cls := 7, slots := #[.int (-125)], vm := .none },
  { cls := 7, slots := #[.int (-124)], vm := .none },
  { cls := 7, slots := #[.int (-123)], vm := .none },
  { cls := 7, slots := #[.int (-122)], vm := .none },
  { cls := 7, slots := #[.int (-121)], vm := .none },
  { cls := 7, slots := #[.int (-120)], vm := .none },
  { cls := 7, slots := #[.int (-119)], vm := .none },
  { cls := 7, slots := #[.int (-118)], vm := .none },
  { cls := 7, slots := #[.int (-117)], vm := .none },
  { cls := 7, slots := #[.int (-116)], vm := .none },
  { cls := 7, slots := #[.int (-115)], vm := .none },
  { cls := 7, slots := #[.int (-114)], vm := .none },
  { cls := 7, slots := #[.int (-113)], vm := .none },
  { cls := 7, slots := #[.int (-112)], vm := .none },
  { cls := 7, slots := #[.int (-111)], vm := .none },
  { cls := 7, slots := #[.int (-110)], vm := .none },
  { cls := 7, slots := #[.int (-109)], vm := .none },
  { cls := 7, slots := #[.int (-108)], vm := .none },
  { cls := 7, slots := #[.int (-107)], vm := .none },
  { cls := 7, slots := #[.int (-106)], vm := .none },
  { cls := 7, slots := #[.int (-105)], vm := .none },
  { cls := 7, slots := #[.int (-104)], vm := .none },
  { cls := 7, slots := #[.int (-103)], vm := .none },
  { cls := 7, slots := #[.int (-102)], vm := .none },
  { cls := 7, slots := #[.int (-101)], vm := .none },
  { cls := 7, slots := #[.int (-100)], vm := .none },
  { cls := 7, slots := #[.int (-99)], vm := .none },
  { cls := 7, slots := #[.int (-98)], vm := .none },
  { cls := 7, slots := #[.int (-97)], vm := .none },
  { cls := 7, slots := #[.int (-96)], vm := .none },
  { cls := 7, slots := #[.int (-95)], vm := .none },
  { cls := 7, slots := #[.int (-94)], vm := .none },
  { cls := 7, slots := #[.int (-93)], vm := .none },
  { cls := 7, slots := #[.int (-92)], vm := .none },
  { cls := 7, slots := #[.int (-91)], vm := .none },
  { cls := 7, slots := #[.int (-90)], vm := .none },
  { cls := 7, slots := #[.int (-89)], vm := .none },
  { cls := 7, slots := #[.int (-88)], vm := .none },
  { cls := 7, slots := #[.int (-87)], vm := .none },
  { cls := 7, slots := #[.int (-86)], vm := .none },
  { cls := 7, slots := #[.int (-85)], vm := .none },
  { cls := 7, slots := #[.int (-84)], vm := .none },
  { cls := 7, slots := #[.int (-83)], vm := .none },
  { cls := 7, slots := #[.int (-82)], vm := .none },
  { cls := 7, slots := #[.int (-81)], vm := .none },
  { cls := 7, slots := #[.int (-80)], vm := .none },
  { cls := 7, slots := #[.int (-79)], vm := .none },
  { cls := 7, slots := #[.int (-78)], vm := .none },
  { cls := 7, slots := #[.int (-77)], vm := .none },
  { cls := 7, slots := #[.int (-76)], vm := .none },
  { cls := 7, slots := #[.int (-75)], vm := .none },
  { cls := 7, slots := #[.int (-74)], vm := .none },
  { cls := 7, slots := #[.int (-73)], vm := .none },
  { cls := 7, slots := #[.int (-72)], vm := .none },
  { cls := 7, slots := #[.int (-71)], vm := .none },
  { cls := 7, slots := #[.int (-70)], vm := .none },
  { cls := 7, slots := #[.int (-69)], vm := .none },
  { cls := 7, slots := #[.int (-68)], vm := .none },
  { cls := 7, slots := #[.int (-67)], vm := .none },
  { cls := 7, slots := #[.int (-66)], vm := .none },
  { cls := 7, slots := #[.int (-65)], vm := .none },
  { cls := 7, slots := #[.int (-64)], vm := .none },
  { cls := 7, slots := #[.int (-63)], vm := .none },
  { cls := 7, slots := #[.int (-62)], vm := .none },
  { cls := 7, slots := #[.int (-61)], vm := .none },
  { cls := 7, slots := #[.int (-60)], vm := .none },
  { cls := 7, slots := #[.int (-59)], vm := .none },
  { cls := 7, slots := #[.int (-58)], vm := .none },
  { cls := 7, slots := #[.int (-57)], vm := .none },
  { cls := 7, slots := #[.int (-56)], vm := .none },
  { cls := 7, slots := #[.int (-55)], vm := .none },
  { cls := 7, slots := #[.int (-54)], vm := .none },
  { cls := 7, slots := #[.int (-53)], vm := .none },
  { cls := 7, slots := #[.int (-52)], vm := .none },
  { cls := 7, slots := #[.int (-51)], vm := .none },
  { cls := 7, slots := #[.int (-50)], vm := .none },
  { cls := 7, slots := #[.int (-49)], vm := .none },
  { cls := 7, slots := #[.int (-48)], vm := .none },
  { cls := 7, slots := #[.int (-47)], vm := .none },
  { cls := 7, slots := #[.int (-46)], vm := .none },
  { cls := 7, slots := #[.int (-45)], vm := .none },
  { cls := 7, slots := #[.int (-44)], vm := .none },
  { cls := 7, slots := #[.int (-43)], vm := .none },
  { cls := 7, slots := #[.int (-42)], vm := .none },
  { cls := 7, slots := #[.int (-41)], vm := .none },
  { cls := 7, slots := #[.int (-40)], vm := .none },
  { cls := 7, slots := #[.int (-39)], vm := .none },
  { cls := 7, slots := #[.int (-38)], vm := .none },
  { cls := 7, slots := #[.int (-37)], vm := .none },
  { cls := 7, slots := #[.int (-36)], vm := .none },
  { cls := 7, slots := #[.int (-35)], vm := .none },
  { cls := 7, slots := #[.int (-34)], vm := .none },
  { cls := 7, slots := #[.int (-33)], vm := .none },
  { cls := 7, slots := #[.int (-32)], vm := .none },
  { cls := 7, slots := #[.int (-31)], vm := .none },
  { cls := 7, slots := #[.int (-30)], vm := .none },
  { cls := 7, slots := #[.int (-29)], vm := .none },
  { cls := 7, slots := #[.int (-28)], vm := .none },
  { cls := 7, slots := #[.int (-27)], vm := .none },
  { cls := 7, slots := #[.int (-26)], vm := .none },
  { cls := 7, slots := #[.int (-25)], vm := .none },
  { cls := 7, slots := #[.int (-24)], vm := .none },
  { cls := 7, slots := #[.int (-23)], vm := .none },
  { cls := 7, slots := #[.int (-22)], vm := .none },
  { cls := 7, slots := #[.int (-21)], vm := .none },
  { cls := 7, slots := #[.int (-20)], vm := .none },
  { cls := 7, slots := #[.int (-19)], vm := .none },
  { cls := 7, slots := #[.int (-18)], vm := .none },
  { cls := 7, slots := #[.int (-17)], vm := .none },
  { cls := 7, slots := #[.int (-16)], vm := .none },
  { cls := 7, slots := #[.int (-15)], vm := .none },
  { cls := 7, slots := #[.int (-14)], vm := .none },
  { cls := 7, slots := #[.int (-13)], vm := .none },
  { cls := 7, slots := #[.int (-12)], vm := .none },
  { cls := 7, slots := #[.int (-11)], vm := .none },
  { cls := 7, slots := #[.int (-10)], vm := .none },
  { cls := 7, slots := #[.int (-9)], vm := .none },
  { cls := 7, slots := #[.int (-8)], vm := .none },
  { cls := 7, slots := #[.int (-7)], vm := .none },
  { cls := 7, slots := #[.int (-6)], vm := .none },
  { cls := 7, slots := #[.int (-5)], vm := .none },
  { cls := 7, slots := #[.int (-4)], vm := .none },
  { cls := 7, slots := #[.int (-3)], vm := .none },
  { cls := 7, slots := #[.int (-2)], vm := .none },
  { cls := 7, slots := #[.int (-1)], vm := .none },
  { cls := 7, slots := #[.int 0], vm := .none },
  { cls := 7, slots := #[.int 1], vm := .none },
  { cls := 7, slots := #[.int 2], vm := .none },
  { cls := 7, slots := #[.int 3], vm := .none },
  { cls := 7, slots := #[.int 4], vm := .none },
  { cls := 7, slots := #[.int 5], vm := .none },
  { cls := 7, slots := #[.int 6], vm := .none },
  { cls := 7, slots := #[.int 7], vm := .none },
  { cls := 7, slots := #[.int 8], vm := .none },
  { cls := 7, slots := #[.int 9], vm := .none },
  { cls := 7, slots := #[.int 10], vm := .none },
  { cls := 7, slots := #[.int 11], vm := .none },
  { cls := 7, slots := #[.int 12], vm := .none },
  { cls := 7, slots := #[.int 13], vm := .none },
  { cls := 7, slots := #[.int 14], vm := .none },
  { cls := 7, slots := #[.int 15], vm := .none },
  { cls := 7, slots := #[.int 16], vm := .none },
  { cls := 7, slots := #[.int 17], vm := .none },
  { cls := 7, slots := #[.int 18], vm := .none },
  { cls := 7, slots := #[.int 19], vm := .none },
  { cls := 7, slots := #[.int 20], vm := .none },
  { cls := 7, slots := #[.int 21], vm := .none },
  { cls := 7, slots := #[.int 22], vm := .none },
  { cls := 7, slots := #[.int 23], vm := .none },
  { cls := 7, slots := #[.int 24], vm := .none },
  { cls := 7, slots := #[.int 25], vm := .none },
  { cls := 7, slots := #[.int 26], vm := .none },
  { cls := 7, slots := #[.int 27], vm := .none },
  { cls := 7, slots := #[.int 28], vm := .none },
  { cls := 7, slots := #[.int 29], vm := .none },
  { cls := 7, slots := #[.int 30], vm := .none },
  { cls := 7, slots := #[.int 31], vm := .none },
  { cls := 7, slots := #[.int 32], vm := .none },
  { cls := 7, slots := #[.int 33], vm := .none },
  { cls := 7, slots := #[.int 34], vm := .none },
  { cls := 7, slots := #[.int 35], vm := .none },
  { cls := 7, slots := #[.int 36], vm := .none },
  { cls := 7, slots := #[.int 37], vm := .none },
  { cls := 7, slots := #[.int 38], vm := .none },
  { cls := 7, slots := #[.int 39], vm := .none },
  { cls := 7, slots := #[.int 40], vm := .none },
  { cls := 7, slots := #[.int 41], vm := .none },
  { cls := 7, slots := #[.int 42], vm := .none },
  { cls := 7, slots := #[.int 43], vm := .none },
  { cls := 7, slots := #[.int 44], vm := .none },
  { cls := 7, slots := #[.int 45], vm := .none },
  { cls := 7, slots := #[.int 46], vm := .none },
  { cls := 7, slots := #[.int 47], vm := .none },
  { cls := 7, slots := #[.int 48], vm := .none },
  { cls := 7, slots := #[.int 49], vm := .none },
  { cls := 7, slots := #[.int 50], vm := .none },
  { cls := 7, slots := #[.int 51], vm := .none },
  { cls := 7, slots := #[.int 52], vm := .none },
  { cls := 7, slots := #[.int 53], vm := .none },
  { cls := 7, slots := #[.int 54], vm := .none },
  { cls := 7, slots := #[.int 55], vm := .none },
  { cls := 7, slots := #[.int 56], vm := .none },
  { cls := 7, slots := #[.int 57], vm := .none },
  { cls := 7, slots := #[.int 58], vm := .none },
  { cls := 7, slots := #[.int 59], vm := .none },
  { cls := 7, slots := #[.int 60], vm := .none },
  { cls := 7, slots := #[.int 61], vm := .none },
  { cls := 7, slots := #[.int 62], vm := .none },
  { cls := 7, slots := #[.int 63], vm := .none },
  { cls := 7, slots := #[.int 64], vm := .none },
  { cls := 7, slots := #[.int 65], vm := .none },
  { cls := 7, slots := #[.int 66], vm := .none },
  { cls := 7, slots := #[.int 67], vm := .none },
  { cls := 7, slots := #[.int 68], vm := .none },
  { cls := 7, slots := #[.int 69], vm := .none },
  { cls := 7, slots := #[.int 70], vm := .none },
  { cls := 7, slots := #[.int 71], vm := .none },
  { cls := 7, slots := #[.int 72], vm := .none },
  { cls := 7, slots := #[.int 73], vm := .none },
  { cls := 7, slots := #[.int 74], vm := .none },
  { cls := 7, slots := #[.int 75], vm := .none },
  { cls := 7, slots := #[.int 76], vm := .none },
  { cls := 7, slots := #[.int 77], vm := .none },
  { cls := 7, slots := #[.int 78], vm := .none },
  { cls := 7, slots := #[.int 79], vm := .none },
  { cls := 7, slots := #[.int 80], vm := .none },
  { cls := 7, slots := #[.int 81], vm := .none },
  { cls := 7, slots := #[.int 82], vm := .none },
  { cls := 7, slots := #[.int 83], vm := .none },
  { cls := 7, slots := #[.int 84], vm := .none },
  { cls := 7, slots := #[.int 85], vm := .none },
  { cls := 7, slots := #[.int 86], vm := .none },
  { cls := 7, slots := #[.int 87], vm := .none },
  { cls := 7, slots := #[.int 88], vm := .none },
  { cls := 7, slots := #[.int 89], vm := .none },
  { cls := 7, slots := #[.int 90], vm := .none },
  { cls := 7, slots := #[.int 91], vm := .none },
  { cls := 7, slots := #[.int 92], vm := .none },
  { cls := 7, slots := #[.int 93], vm := .none },
  { cls := 7, slots := #[.int 94], vm := .none },
  { cls := 7, slots := #[.int 95], vm := .none },
  { cls := 7, slots := #[.int 96], vm := .none },
  { cls := 7, slots := #[.int 97], vm := .none },
  { cls := 7, slots := #[.int 98], vm := .none },
  { cls := 7, slots := #[.int 99], vm := .none },
  { cls := 7, slots := #[.int 100], vm := .none },
  { cls := 7, slots := #[.int 101], vm := .none },
  { cls := 7, slots := #[.int 102], vm := .none },
  { cls := 7, slots := #[.int 103], vm := .none },
  { cls := 7, slots := #[.int 104], vm := .none },
  { cls := 7, slots := #[.int 105], vm := .none },
  { cls := 7, slots := #[.int 106], vm := .none },
  { cls := 7, slots := #[.int 107], vm := .none },
  { cls := 7, slots := #[.int 108], vm := .none },
  { cls := 7, slots := #[.int 109], vm := .none },
  { cls := 7, slots := #[.int 110], vm := .none },
  { cls := 7, slots := #[.int 111], vm := .none },
  { cls := 7, slots := #[.int 112], vm := .none },
  { cls := 7, slots := #[.int 113], vm := .none },
  { cls := 7, slots := #[.int 114], vm := .none },
  { cls := 7, slots := #[.int 115], vm := .none },
  { cls := 7, slots := #[.int 116], vm := .none },
  { cls := 7, slots := #[.int 117], vm := .none },
  { cls := 7, slots := #[.int 118], vm := .none },
  { cls := 7, slots := #[.int 119], vm := .none },
  { cls := 7, slots := #[.int 120], vm := .none },
  { cls := 7, slots := #[.int 121], vm := .none },
  { cls := 7, slots := #[.int 122], vm := .none },
  { cls := 7, slots := #[.int 123], vm := .none },
  { cls := 7, slots := #[.int 124], vm := .none },
  { cls := 7, slots := #[.int 125], vm := .none },
  { cls := 7, slots := #[.int 126], vm := .none },
  { cls := 7, slots := #[.int 127], vm := .none }]
def classes : Array Class := #[k0, k1, k2, k3, k4, k5, k6, k7, k8, k9, k10, k11, k12, k13, k14, k15, k16]
def interned : List (Array UInt16 × Addr) := []
def slotsUsed : Nat := 517
def theMethod : MethodId := ⟨1, 1⟩
def args0 : Array Value := #[.int 5, .int 5]
def aboutOver (below : List Frame) : State where
  vm := { classes := classes, interned := interned.toArray }
  heap := heap
  slotsUsed := slotsUsed
  threads := #[{ frames := .invoking theMethod args0 :: below }]
def below0 : List Frame := [.native { method := ⟨0, 0⟩, args := #[] }]
def about1 : State := aboutOver below0
def p0 : Program := .bare "" "" ""
def e0 : Env := launch0.env 0 0 0
theorem w_frames : about1.frames = Frame.invoking theMethod args0 :: below0 := rfl
set_option maxRecDepth 65536 in
theorem w_args : argsFit about1.vm theMethod args0 = true := by decide +kernel
set_option maxRecDepth 65536 in
theorem w_heap : heapFits about1 = true := by decide +kernel
set_option maxRecDepth 65536 in
theorem w_runnable : about1.curStatus? = some .runnable := by decide +kernel
set_option maxRecDepth 65536 in
theorem w_alone : about1.alone = true := by decide +kernel
set_option maxRecDepth 65536 in
theorem w_named : about1.methodNamed? x = some theMethod := by decide +kernel
set_option maxRecDepth 65536 in
theorem w_hears : about1.hears theMethod below0 = true := by decide +kernel
set_option maxRecDepth 65536 in
theorem w_ripe : about1.ripe theMethod args0 below0 = true := by decide +kernel
theorem w_running : about1.status = .running := rfl
set_option maxRecDepth 65536 in
theorem w_room : about1.hasRoom e0.platform room_1 = true :=
  launch0.hasRoom_least _ room_1 (by decide +kernel) (by decide +kernel) (by decide +kernel) (by decide +kernel) (by decide +kernel) (by decide +kernel)
theorem allAtoms_all (ts : List Jvm.Cond) (a : Array Jvm.Value) (st : Jvm.State) : (allAtoms ts).before a st = ts.all (fun c => c.before a st) := by
  induction ts with
  | nil => rfl
  | cons c t ih =>
    show (Jvm.Cond.and c (allAtoms t)).before a st = _
    rw [Jvm.Cond.before_and, ih, List.all_cons]
def words1 : List Jvm.Cond := Jvm.Cond.code x code maxLocals ret :: tables_1
/-- a 'code' word, met by the world's own term for the bytes: nothing is compared byte by byte -/
theorem code_word {y : MethodName} {bytes : ByteArray} {mx : Nat} {rt : Option FieldType} {a : Array Value} {s : State} {m : MethodId} {meth : Method} {c : Code} (h1 : s.methodNamed? y = some m) (h2 : s.vm.method? m = some meth) (h3 : meth.code = some c) (h4 : c.code = bytes)
    (h5 : (c.maxLocals == mx && c.exceptionTable.isEmpty && decide (c.maxStack ≤ mostOperands) && decide (meth.sig.returnType = rt) && !meth.locks && decide (parseMethodDescriptor y.desc = some meth.sig)) = true) : (Jvm.Cond.code y bytes mx rt).before a s = true := by
  simp only [Bool.and_eq_true, beq_iff_eq, Bool.not_eq_true', decide_eq_true_eq] at h5
  obtain ⟨⟨⟨⟨⟨g1, g2⟩, g3⟩, g4⟩, g5⟩, g6⟩ := h5
  simp [Cond.before, Cond.holds, Cond.value, h1, h2, h3, h4, g1, g2, g3, g4, g5, g6]
def isCode : Jvm.Cond → Bool
  | .code _ _ _ _ => true
  | _ => false
theorem all_split {L : List Jvm.Cond} {P : Jvm.Cond → Bool} (h1 : L.all (fun c => isCode c || P c) = true) (h2 : ∀ c ∈ L.filter isCode, P c = true) : L.all P = true := by
  refine List.all_eq_true.mpr fun c hc => ?_
  have h := List.all_eq_true.mp h1 c hc
  rcases Bool.eq_false_or_eq_true (isCode c) with hi | hi
  · exact h2 c (List.mem_filter.mpr ⟨hc, hi⟩)
  · simpa [hi] using h
set_option maxRecDepth 65536 in
theorem w_c0 : (Jvm.Cond.code x code maxLocals ret).before args0 about1 = true := code_word (m := ⟨1, 1⟩) (meth := k1m1) (c := k1c1) (by decide +kernel) rfl rfl rfl (by decide +kernel)
set_option maxRecDepth 65536 in
theorem w_c1 : (Jvm.Cond.code ({ cls := "java/lang/Integer", name := "valueOf", desc := "(I)Ljava/lang/Integer;" } : Jvm.MethodName) jdk_33_method_22_code (1 : Nat) (Option.some (Jvm.ClassFile.FieldType.object "java/lang/Integer"))).before args0 about1 = true := code_word (m := ⟨7, 0⟩) (meth := k7m0) (c := k7c0) (by decide +kernel) rfl rfl rfl (by decide +kernel)
set_option maxRecDepth 65536 in
theorem w_c2 : (Jvm.Cond.code ({ cls := "com/example/rowcast/rowcast/ValueSet$End", name := "<init>", desc := "(Ljava/lang/Object;Z)V" } : Jvm.MethodName) prog_77_method_1_code (3 : Nat) (Option.none : Option Jvm.ClassFile.FieldType)).before args0 about1 = true := code_word (m := ⟨10, 0⟩) (meth := k10m0) (c := k10c0) (by decide +kernel) rfl rfl rfl (by decide +kernel)
set_option maxRecDepth 65536 in
theorem w_c3 : (Jvm.Cond.code ({ cls := "java/lang/Record", name := "<init>", desc := "()V" } : Jvm.MethodName) jdk_30_method_1_code (1 : Nat) (Option.none : Option Jvm.ClassFile.FieldType)).before args0 about1 = true := code_word (m := ⟨9, 0⟩) (meth := k9m0) (c := k9c0) (by decide +kernel) rfl rfl rfl (by decide +kernel)
set_option maxRecDepth 65536 in
theorem w_c4 : (Jvm.Cond.code ({ cls := "java/lang/Object", name := "<init>", desc := "()V" } : Jvm.MethodName) object_method_1_code (1 : Nat) (Option.none : Option Jvm.ClassFile.FieldType)).before args0 about1 = true := code_word (m := ⟨0, 0⟩) (meth := k0m0) (c := k0c0) (by decide +kernel) rfl rfl rfl (by decide +kernel)
set_option maxRecDepth 65536 in
theorem w_c5 : (Jvm.Cond.code ({ cls := "com/example/rowcast/rowcast/ValueSet$End", name := "bounded", desc := "()Z" } : Jvm.MethodName) prog_77_method_3_code (1 : Nat) (Option.some Jvm.ClassFile.FieldType.boolean)).before args0 about1 = true := code_word (m := ⟨10, 2⟩) (meth := k10m2) (c := k10c2) (by decide +kernel) rfl rfl rfl (by decide +kernel)
set_option maxRecDepth 65536 in
theorem w_c6 : (Jvm.Cond.code ({ cls := "com/example/rowcast/rowcast/ValueSet$End", name := "none", desc := "()Lcom/example/rowcast/rowcast/ValueSet$End;" } : Jvm.MethodName) prog_77_method_2_code (0 : Nat) (Option.some (Jvm.ClassFile.FieldType.object "com/example/rowcast/rowcast/ValueSet$End"))).before args0 about1 = true := code_word (m := ⟨10, 1⟩) (meth := k10m1) (c := k10c1) (by decide +kernel) rfl rfl rfl (by decide +kernel)
set_option maxRecDepth 65536 in
theorem w_c7 : (Jvm.Cond.code ({ cls := "com/example/rowcast/rowcast/ValueSet$End", name := "flipped", desc := "()Lcom/example/rowcast/rowcast/ValueSet$End;" } : Jvm.MethodName) prog_77_method_4_code (1 : Nat) (Option.some (Jvm.ClassFile.FieldType.object "com/example/rowcast/rowcast/ValueSet$End"))).before args0 about1 = true := code_word (m := ⟨10, 3⟩) (meth := k10m3) (c := k10c3) (by decide +kernel) rfl rfl rfl (by decide +kernel)
set_option maxRecDepth 65536 in
theorem w_c8 : (Jvm.Cond.code ({ cls := "java/lang/Integer", name := "<init>", desc := "(I)V" } : Jvm.MethodName) jdk_33_method_23_code (2 : Nat) (Option.none : Option Jvm.ClassFile.FieldType)).before args0 about1 = true := code_word (m := ⟨7, 1⟩) (meth := k7m1) (c := k7c1) (by decide +kernel) rfl rfl rfl (by decide +kernel)
set_option maxRecDepth 65536 in
theorem w_c9 : (Jvm.Cond.code ({ cls := "java/lang/Number", name := "<init>", desc := "()V" } : Jvm.MethodName) jdk_18_method_1_code (1 : Nat) (Option.none : Option Jvm.ClassFile.FieldType)).before args0 about1 = true := code_word (m := ⟨3, 0⟩) (meth := k3m0) (c := k3c0) (by decide +kernel) rfl rfl rfl (by decide +kernel)
def codes1 : List Jvm.Cond := [Jvm.Cond.code x code maxLocals ret, Jvm.Cond.code ({ cls := "java/lang/Integer", name := "valueOf", desc := "(I)Ljava/lang/Integer;" } : Jvm.MethodName) jdk_33_method_22_code (1 : Nat) (Option.some (Jvm.ClassFile.FieldType.object "java/lang/Integer")), Jvm.Cond.code ({ cls := "com/example/rowcast/rowcast/ValueSet$End", name := "<init>", desc := "(Ljava/lang/Object;Z)V" } : Jvm.MethodName) prog_77_method_1_code (3 : Nat) (Option.none : Option Jvm.ClassFile.FieldType), Jvm.Cond.code ({ cls := "java/lang/Record", name := "<init>", desc := "()V" } : Jvm.MethodName) jdk_30_method_1_code (1 : Nat) (Option.none : Option Jvm.ClassFile.FieldType), Jvm.Cond.code ({ cls := "java/lang/Object", name := "<init>", desc := "()V" } : Jvm.MethodName) object_method_1_code (1 : Nat) (Option.none : Option Jvm.ClassFile.FieldType), Jvm.Cond.code ({ cls := "com/example/rowcast/rowcast/ValueSet$End", name := "bounded", desc := "()Z" } : Jvm.MethodName) prog_77_method_3_code (1 : Nat) (Option.some Jvm.ClassFile.FieldType.boolean), Jvm.Cond.code ({ cls := "com/example/rowcast/rowcast/ValueSet$End", name := "none", desc := "()Lcom/example/rowcast/rowcast/ValueSet$End;" } : Jvm.MethodName) prog_77_method_2_code (0 : Nat) (Option.some (Jvm.ClassFile.FieldType.object "com/example/rowcast/rowcast/ValueSet$End")), Jvm.Cond.code ({ cls := "com/example/rowcast/rowcast/ValueSet$End", name := "flipped", desc := "()Lcom/example/rowcast/rowcast/ValueSet$End;" } : Jvm.MethodName) prog_77_method_4_code (1 : Nat) (Option.some (Jvm.ClassFile.FieldType.object "com/example/rowcast/rowcast/ValueSet$End")), Jvm.Cond.code ({ cls := "java/lang/Integer", name := "<init>", desc := "(I)V" } : Jvm.MethodName) jdk_33_method_23_code (2 : Nat) (Option.none : Option Jvm.ClassFile.FieldType), Jvm.Cond.code ({ cls := "java/lang/Number", name := "<init>", desc := "()V" } : Jvm.MethodName) jdk_18_method_1_code (1 : Nat) (Option.none : Option Jvm.ClassFile.FieldType)]
set_option maxRecDepth 65536 in
theorem codes_eq : words1.filter isCode = codes1 := rfl
theorem w_codes : ∀ c ∈ words1.filter isCode, c.before args0 about1 = true := by
  rw [codes_eq]
  intro c hc
  simp only [codes1, List.mem_cons, List.not_mem_nil, or_false] at hc
  rcases hc with rfl | rfl | rfl | rfl | rfl | rfl | rfl | rfl | rfl | rfl
  · exact w_c0
  · exact w_c1
  · exact w_c2
  · exact w_c3
  · exact w_c4
  · exact w_c5
  · exact w_c6
  · exact w_c7
  · exact w_c8
  · exact w_c9
set_option maxRecDepth 65536 in
theorem w_t1 : (words1.take 24).all (fun c => isCode c || c.before args0 about1) = true := by decide +kernel
set_option maxRecDepth 65536 in
theorem w_t2 : ((words1.drop 24).take 24).all (fun c => isCode c || c.before args0 about1) = true := by decide +kernel
set_option maxRecDepth 65536 in
theorem w_t3 : ((words1.drop 24).drop 24).all (fun c => isCode c || c.before args0 about1) = true := by decide +kernel
theorem w_tables : (allAtoms (Jvm.Cond.code x code maxLocals ret :: tables_1)).before args0 about1 = true := by
  rw [allAtoms_all]
  show words1.all (fun c => c.before args0 about1) = true
  refine all_split ?_ w_codes
  rw [← List.take_append_drop 24 words1, List.all_append, w_t1, ← List.take_append_drop 24 (words1.drop 24), List.all_append, w_t2, w_t3]
  rfl
set_option maxRecDepth 65536 in
theorem w_rest : rest_1_c.before args0 about1 = true := by decide +kernel
set_option maxRecDepth 65536 in
theorem w_case : (Jvm.Cond.and given_1 narrow_1).before args0 about1 = true := by decide +kernel
theorem w_applies : (headSpec (Jvm.Cond.code x code maxLocals ret :: tables_1) room_1).applies x e0.platform about1 = true :=
  (Spec.applies_iff w_frames).mpr ⟨w_running, w_runnable, w_alone, w_named, w_hears, w_ripe, w_room, w_tables⟩
theorem atStart : AtStart classFile x code maxLocals ret World_1 tables_1 room_1 Calls_1 rest_1 Pre_1 launch0 p0 e0 about1 theMethod args0 below0 :=
  ⟨lists_1, trivial, launch0.admits_env _ _ _, launch0.least_env, fairChoices_fair.cas, fairChoices_fair.clock, w_frames, w_args, w_heap, w_applies, trivial, w_rest, w_case⟩
end start1
theorem witness_1 : WitnessClaimed_1 := ⟨start1.p0, start1.e0, start1.about1, start1.theMethod, start1.args0, start1.below0, start1.atStart⟩
end Jvm.Pilot.@@N@@
