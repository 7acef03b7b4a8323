import JvmDerived
import JvmDerived.Pilot.@@N@@Statement
import JvmDerived.Pilot.@@N@@Code
set_option linter.unusedVariables false
set_option linter.unusedSimpArgs false
set_option maxRecDepth 65536
set_option maxHeartbeats 8000000
namespace Jvm.Pilot.@@N@@
open Jvm Jvm.ClassFile Sem Op Lib Jvm.Free Jvm.Stand Jvm.LawKit Jvm.RoadKit Bundle Jvm.Pilot.@@N@@.Jvm.D
abbrev vI (x : Int32) : Slot := .val (.int x)
abbrev vJ (x : Int64) : Slot := .val (.long x)
abbrev vR (x : Addr) : Slot := .val (.ref x)
abbrev vN : Slot := .val .null
/-- the run from S comes to an end at which K holds -/
def Go (p : Program) (e : Env) (below : List Frame) (K : State → Outcome → Prop) (S : State) : Prop := ∃ t o, Steps p.tables e below S t ∧ K t o
theorem Go.via {p : Program} {e : Env} {below : List Frame} {K : State → Outcome → Prop} {A B : State} (h : ∀ t, Steps p.tables e below B t → Steps p.tables e below A t) (g : Go p e below K B) : Go p e below K A := by
  obtain ⟨t, o, h1, h2⟩ := g; exact ⟨t, o, h t h1, h2⟩
/-- a method's end: what it returned, the heap and the places written answer Q -/
def EndK (s : State) (below : List Frame) (Q : Option Value → Heap → List Loc → Prop) (C S : Nat) (t : State) (o : Outcome) : Prop := t.status = .running ∧ Ended t below o ∧ ∃ v L, o = .returned v ∧ Q v t.heap L ∧ FrameEnd s o t L C S
/-- a method's contract -/
def Con (l : Launch) (Z : State) (y : MethodName) (bytes : ByteArray) (maxL : Nat) (ret : Option FieldType) (rm : Room) (as : Array Value) (h : Heap) (Q : Option Value → Heap → List Loc → Prop) : Prop :=
  ∀ ws, MetFree l y (head1 (Jvm.Cond.code y bytes maxL ret :: ws) rm) (fun a U => a = as ∧ Z.Warmed39 U.vm ∧ U.heap = h) (fun _ _ _ _ _ => True) (fun _ U o U' => ∃ v L, o = .returned v ∧ Q v U'.heap L ∧ FrameEnd U o U' L rm.cells rm.slots)
theorem Con.of {l : Launch} {Z : State} {y : MethodName} {bytes : ByteArray} {maxL : Nat} {ret : Option FieldType} {rm : Room} {as : Array Value} {h : Heap} {Q : Option Value → Heap → List Loc → Prop} {Ls : Array Slot} (hp : plainFor y = true) (hfr : ∀ m, entryFrame m as maxL = mkF m 0 Ls [])
    (body : ∀ (p : Program) (e : Env) (s : State) (m : MethodId) (below : List Frame) (meth : Method) (c : Code) (T : State), Stand p l e rm s m as below meth c T [] 0 0 → p.tables.exec = Jvm.exec ∧ c.code = bytes → c.maxLocals = maxL → Z.Warmed39 s.vm → s.vm.findClass y.cls = some m.cls → meth.name = y.name → meth.sig.returnType = ret → meth.locks = false → T.heap = h → Go p e below (EndK s below Q rm.cells rm.slots) (T.setTop (mkF m 0 Ls []))) :
    Con l Z y bytes maxL ret rm as h Q := by
  intro ws
  refine MetFree.of_bodySF hp hisR ?_
  intro p e s m args below meth c s₁ Bd hml hP hK
  obtain ⟨rfl, hZ, hh⟩ := hP
  have e0 : s₁.heap = h := by rw [← hh, Bd.state]; rfl
  obtain ⟨t, o, h1, h2⟩ := body p e s m below meth c s₁ (Stand.of_body Bd) ⟨Bd.exec, Bd.bytes⟩ hml hZ (findClass_of_methodNamed Bd.named) (name_of_methodNamed Bd.named Bd.method).1 Bd.returns Bd.notSynchronized e0
  exact ⟨t, o, castTop (hfr m) h1, h2⟩
section Steps
variable {p : Program} {l : Launch} {e : Env} {R : Room} {s : State} {m : MethodId} {args : Array Value} {below : List Frame} {meth : Method} {c : Code} {T : State} {locs : List Loc} {cells slots : Nat} {K : State → Outcome → Prop} {Z : State} {a0 : Array Value} {h : Heap} {bs : ByteArray} {Ls Ls' : Array Slot} {st : List Value} {pc pc' : Nat}
theorem gLloadN (X : Stand p l e R s m args below meth c T locs cells slots) (H : p.tables.exec = Jvm.exec ∧ c.code = bs) {k : Fin 4} {v : Int64} (hd : decode bs pc = .ok (.lload_n k, 1)) (hl : Ls[k.val]? = some (.val (.long v))) (pc' : Nat) (hp : pc + 1 = pc') (g : Go p e below K (T.setTop (mkF m pc' Ls (.long v :: st)))) : Go p e below K (T.setTop (mkF m pc Ls (st))) := by
  subst hp
  exact Go.via (fun t k => XS.lloadN (g := mkF m pc Ls (st)) X.here H.1 rfl (hb H.2 hd) hl k) g
theorem gAloadN (X : Stand p l e R s m args below meth c T locs cells slots) (H : p.tables.exec = Jvm.exec ∧ c.code = bs) {k : Fin 4} {v : Value} (hd : decode bs pc = .ok (.aload_n k, 1)) (hl : Ls[k.val]? = some (.val v)) (hv : v.isRef = true) (pc' : Nat) (hp : pc + 1 = pc') (g : Go p e below K (T.setTop (mkF m pc' Ls (v :: st)))) : Go p e below K (T.setTop (mkF m pc Ls (st))) := by
  subst hp
  exact Go.via (fun t k => XS.aloadN (g := mkF m pc Ls (st)) X.here H.1 rfl (hb H.2 hd) hl hv k) g
theorem gIstoreN (X : Stand p l e R s m args below meth c T locs cells slots) (H : p.tables.exec = Jvm.exec ∧ c.code = bs) {k : Fin 4} {v : Int32} (hd : decode bs pc = .ok (.istore_n k, 1)) (hl : storeLocals Ls k.val (.int v) = some Ls') (pc' : Nat) (hp : pc + 1 = pc') (g : Go p e below K (T.setTop (mkF m pc' Ls' (st)))) : Go p e below K (T.setTop (mkF m pc Ls (.int v :: st))) := by
  subst hp
  exact Go.via (fun t k => XS.istoreN (g := mkF m pc Ls (.int v :: st)) X.here H.1 rfl (hb H.2 hd) rfl hl k) g
theorem gAstoreN (X : Stand p l e R s m args below meth c T locs cells slots) (H : p.tables.exec = Jvm.exec ∧ c.code = bs) {k : Fin 4} {v : Value} (hd : decode bs pc = .ok (.astore_n k, 1)) (hv : v.isRef = true) (hl : storeLocals Ls k.val v = some Ls') (pc' : Nat) (hp : pc + 1 = pc') (g : Go p e below K (T.setTop (mkF m pc' Ls' (st)))) : Go p e below K (T.setTop (mkF m pc Ls (v :: st))) := by
  subst hp
  exact Go.via (fun t k => XS.astoreN (g := mkF m pc Ls (v :: st)) X.here H.1 rfl (hb H.2 hd) rfl hv hl k) g
theorem gIload (X : Stand p l e R s m args below meth c T locs cells slots) (H : p.tables.exec = Jvm.exec ∧ c.code = bs) {k : Nat} {v : Int32} (hd : decode bs pc = .ok (.iload k, 2)) (hl : Ls[k]? = some (.val (.int v))) (pc' : Nat) (hp : pc + 2 = pc') (g : Go p e below K (T.setTop (mkF m pc' Ls (.int v :: st)))) : Go p e below K (T.setTop (mkF m pc Ls (st))) := by
  subst hp
  exact Go.via (fun t k => XS.iload (g := mkF m pc Ls (st)) X.here H.1 rfl (hb H.2 hd) hl k) g
theorem gLload (X : Stand p l e R s m args below meth c T locs cells slots) (H : p.tables.exec = Jvm.exec ∧ c.code = bs) {k : Nat} {v : Int64} (hd : decode bs pc = .ok (.lload k, 2)) (hl : Ls[k]? = some (.val (.long v))) (pc' : Nat) (hp : pc + 2 = pc') (g : Go p e below K (T.setTop (mkF m pc' Ls (.long v :: st)))) : Go p e below K (T.setTop (mkF m pc Ls (st))) := by
  subst hp
  exact Go.via (fun t k => XS.lload (g := mkF m pc Ls (st)) X.here H.1 rfl (hb H.2 hd) hl k) g
theorem gAload (X : Stand p l e R s m args below meth c T locs cells slots) (H : p.tables.exec = Jvm.exec ∧ c.code = bs) {k : Nat} {v : Value} (hd : decode bs pc = .ok (.aload k, 2)) (hl : Ls[k]? = some (.val v)) (hv : v.isRef = true) (pc' : Nat) (hp : pc + 2 = pc') (g : Go p e below K (T.setTop (mkF m pc' Ls (v :: st)))) : Go p e below K (T.setTop (mkF m pc Ls (st))) := by
  subst hp
  exact Go.via (fun t k => XS.aload (g := mkF m pc Ls (st)) X.here H.1 rfl (hb H.2 hd) hl hv k) g
theorem gIstore (X : Stand p l e R s m args below meth c T locs cells slots) (H : p.tables.exec = Jvm.exec ∧ c.code = bs) {k : Nat} {v : Int32} (hd : decode bs pc = .ok (.istore k, 2)) (hl : storeLocals Ls k (.int v) = some Ls') (pc' : Nat) (hp : pc + 2 = pc') (g : Go p e below K (T.setTop (mkF m pc' Ls' (st)))) : Go p e below K (T.setTop (mkF m pc Ls (.int v :: st))) := by
  subst hp
  exact Go.via (fun t k => XS.istore (g := mkF m pc Ls (.int v :: st)) X.here H.1 rfl (hb H.2 hd) rfl hl k) g
theorem gLstore (X : Stand p l e R s m args below meth c T locs cells slots) (H : p.tables.exec = Jvm.exec ∧ c.code = bs) {k : Nat} {v : Int64} (hd : decode bs pc = .ok (.lstore k, 2)) (hl : storeLocals Ls k (.long v) = some Ls') (pc' : Nat) (hp : pc + 2 = pc') (g : Go p e below K (T.setTop (mkF m pc' Ls' (st)))) : Go p e below K (T.setTop (mkF m pc Ls (.long v :: st))) := by
  subst hp
  exact Go.via (fun t k => XS.lstore (g := mkF m pc Ls (.long v :: st)) X.here H.1 rfl (hb H.2 hd) rfl hl k) g
theorem gAstore (X : Stand p l e R s m args below meth c T locs cells slots) (H : p.tables.exec = Jvm.exec ∧ c.code = bs) {k : Nat} {v : Value} (hd : decode bs pc = .ok (.astore k, 2)) (hv : v.isRef = true) (hl : storeLocals Ls k v = some Ls') (pc' : Nat) (hp : pc + 2 = pc') (g : Go p e below K (T.setTop (mkF m pc' Ls' (st)))) : Go p e below K (T.setTop (mkF m pc Ls (v :: st))) := by
  subst hp
  exact Go.via (fun t k => XS.astore (g := mkF m pc Ls (v :: st)) X.here H.1 rfl (hb H.2 hd) rfl hv hl k) g
theorem gIconst (X : Stand p l e R s m args below meth c T locs cells slots) (H : p.tables.exec = Jvm.exec ∧ c.code = bs) {i : Int} {z : Int32} (hd : decode bs pc = .ok (.iconst i, 1)) (hz : Int32.ofInt i = z) (pc' : Nat) (hp : pc + 1 = pc') (g : Go p e below K (T.setTop (mkF m pc' Ls (.int z :: st)))) : Go p e below K (T.setTop (mkF m pc Ls (st))) := by
  subst hp hz
  exact Go.via (fun t k => XS.iconst (g := mkF m pc Ls (st)) X.here H.1 rfl (hb H.2 hd) k) g
theorem gSipush (X : Stand p l e R s m args below meth c T locs cells slots) (H : p.tables.exec = Jvm.exec ∧ c.code = bs) {i : Int} {z : Int32} (hd : decode bs pc = .ok (.sipush i, 3)) (hz : (Int16.ofInt i).toInt32 = z) (pc' : Nat) (hp : pc + 3 = pc') (g : Go p e below K (T.setTop (mkF m pc' Ls (.int z :: st)))) : Go p e below K (T.setTop (mkF m pc Ls (st))) := by
  subst hp hz
  exact Go.via (fun t k => XS.sipush (g := mkF m pc Ls (st)) X.here H.1 rfl (hb H.2 hd) k) g
theorem gNull (X : Stand p l e R s m args below meth c T locs cells slots) (H : p.tables.exec = Jvm.exec ∧ c.code = bs)  (hd : decode bs pc = .ok (.aconst_null, 1)) (pc' : Nat) (hp : pc + 1 = pc') (g : Go p e below K (T.setTop (mkF m pc' Ls (.null :: st)))) : Go p e below K (T.setTop (mkF m pc Ls (st))) := by
  subst hp
  exact Go.via (fun t k => XS.aconstNull (g := mkF m pc Ls (st)) X.here H.1 rfl (hb H.2 hd) k) g
theorem g_iadd (X : Stand p l e R s m args below meth c T locs cells slots) (H : p.tables.exec = Jvm.exec ∧ c.code = bs) {x y z : Int32} (hd : decode bs pc = .ok (.iadd, 1)) (hz : x + y = z) (pc' : Nat) (hp : pc + 1 = pc') (g : Go p e below K (T.setTop (mkF m pc' Ls (.int z :: st)))) : Go p e below K (T.setTop (mkF m pc Ls (.int y :: .int x :: st))) := by
  subst hp hz
  exact Go.via (fun t k => XS.iadd (g := mkF m pc Ls (.int y :: .int x :: st)) X.here H.1 rfl (hb H.2 hd) rfl k) g
theorem g_iand (X : Stand p l e R s m args below meth c T locs cells slots) (H : p.tables.exec = Jvm.exec ∧ c.code = bs) {x y z : Int32} (hd : decode bs pc = .ok (.iand, 1)) (hz : x &&& y = z) (pc' : Nat) (hp : pc + 1 = pc') (g : Go p e below K (T.setTop (mkF m pc' Ls (.int z :: st)))) : Go p e below K (T.setTop (mkF m pc Ls (.int y :: .int x :: st))) := by
  subst hp hz
  exact Go.via (fun t k => XS.iand (g := mkF m pc Ls (.int y :: .int x :: st)) X.here H.1 rfl (hb H.2 hd) rfl k) g
theorem g_iushr (X : Stand p l e R s m args below meth c T locs cells slots) (H : p.tables.exec = Jvm.exec ∧ c.code = bs) {x y z : Int32} (hd : decode bs pc = .ok (.iushr, 1)) (hz : (x.toUInt32 >>> (y &&& 31).toUInt32).toInt32 = z) (pc' : Nat) (hp : pc + 1 = pc') (g : Go p e below K (T.setTop (mkF m pc' Ls (.int z :: st)))) : Go p e below K (T.setTop (mkF m pc Ls (.int y :: .int x :: st))) := by
  subst hp hz
  exact Go.via (fun t k => XS.iushr (g := mkF m pc Ls (.int y :: .int x :: st)) X.here H.1 rfl (hb H.2 hd) rfl k) g
theorem g_lcmp (X : Stand p l e R s m args below meth c T locs cells slots) (H : p.tables.exec = Jvm.exec ∧ c.code = bs) {x y : Int64} {z : Int32} (hd : decode bs pc = .ok (.lcmp, 1)) (hz : lcmpW x y = z) (pc' : Nat) (hp : pc + 1 = pc') (g : Go p e below K (T.setTop (mkF m pc' Ls (.int z :: st)))) : Go p e below K (T.setTop (mkF m pc Ls (.long y :: .long x :: st))) := by
  subst hp hz
  exact Go.via (fun t k => XS.lcmp (g := mkF m pc Ls (.long y :: .long x :: st)) X.here H.1 rfl (hb H.2 hd) rfl k) g
theorem g_l2i (X : Stand p l e R s m args below meth c T locs cells slots) (H : p.tables.exec = Jvm.exec ∧ c.code = bs) {x : Int64} {z : Int32} (hd : decode bs pc = .ok (.l2i, 1)) (hz : x.toInt32 = z) (pc' : Nat) (hp : pc + 1 = pc') (g : Go p e below K (T.setTop (mkF m pc' Ls (.int z :: st)))) : Go p e below K (T.setTop (mkF m pc Ls (.long x :: st))) := by
  subst hp hz
  exact Go.via (fun t k => XS.l2i (g := mkF m pc Ls (.long x :: st)) X.here H.1 rfl (hb H.2 hd) rfl k) g
theorem gDup (X : Stand p l e R s m args below meth c T locs cells slots) (H : p.tables.exec = Jvm.exec ∧ c.code = bs) {v : Value} (hd : decode bs pc = .ok (.dup, 1)) (hc : v.category = 1) (pc' : Nat) (hp : pc + 1 = pc') (g : Go p e below K (T.setTop (mkF m pc' Ls (v :: v :: st)))) : Go p e below K (T.setTop (mkF m pc Ls (v :: st))) := by
  subst hp
  exact Go.via (fun t k => XS.dup (g := mkF m pc Ls (v :: st)) X.here H.1 rfl (hb H.2 hd) rfl hc k) g
theorem gGoto (X : Stand p l e R s m args below meth c T locs cells slots) (H : p.tables.exec = Jvm.exec ∧ c.code = bs)  {o : Int} (hd : decode bs pc = .ok (.goto o, 3)) (ho : 0 ≤ (pc : Int) + o) (pc' : Nat) (hp : ((pc : Int) + o).toNat = pc') (g : Go p e below K (T.setTop (mkF m pc' Ls (st)))) : Go p e below K (T.setTop (mkF m pc Ls (st))) :=
  Go.via (fun t k => XS.goto (g := mkF m pc Ls (st)) X.here H.1 rfl rfl (hb H.2 hd) ho hp k) g
theorem gIfY (X : Stand p l e R s m args below meth c T locs cells slots) (H : p.tables.exec = Jvm.exec ∧ c.code = bs) {cd : ClassFile.Cond} {x : Int32} {o : Int} (hd : decode bs pc = .ok (.ifCond cd o, 3)) (hc : ifCond.holds cd x = true) (ho : 0 ≤ (pc : Int) + o) (pc' : Nat) (hp : ((pc : Int) + o).toNat = pc') (g : Go p e below K (T.setTop (mkF m pc' Ls (st)))) : Go p e below K (T.setTop (mkF m pc Ls (.int x :: st))) :=
  Go.via (fun t k => XS.ifYes (g := mkF m pc Ls (.int x :: st)) X.here H.1 rfl rfl (hb H.2 hd) rfl hc ho hp k) g
theorem gCmpY (X : Stand p l e R s m args below meth c T locs cells slots) (H : p.tables.exec = Jvm.exec ∧ c.code = bs) {cd : ClassFile.Cond} {x y : Int32} {o : Int} (hd : decode bs pc = .ok (.if_icmp cd o, 3)) (hc : if_icmp.holds cd x y = true) (ho : 0 ≤ (pc : Int) + o) (pc' : Nat) (hp : ((pc : Int) + o).toNat = pc') (g : Go p e below K (T.setTop (mkF m pc' Ls (st)))) : Go p e below K (T.setTop (mkF m pc Ls (.int y :: .int x :: st))) :=
  Go.via (fun t k => XS.icmpYes (g := mkF m pc Ls (.int y :: .int x :: st)) X.here H.1 rfl rfl (hb H.2 hd) rfl hc ho hp k) g
theorem gIfN (X : Stand p l e R s m args below meth c T locs cells slots) (H : p.tables.exec = Jvm.exec ∧ c.code = bs) {o : Int} {cd : ClassFile.Cond} {x : Int32} (hd : decode bs pc = .ok (.ifCond cd o, 3)) (hc : ifCond.holds cd x = false) (pc' : Nat) (hp : pc + 3 = pc') (g : Go p e below K (T.setTop (mkF m pc' Ls (st)))) : Go p e below K (T.setTop (mkF m pc Ls (.int x :: st))) := by
  subst hp
  exact Go.via (fun t k => XS.ifNo (g := mkF m pc Ls (.int x :: st)) X.here H.1 rfl (hb H.2 hd) rfl hc k) g
theorem gCmpN (X : Stand p l e R s m args below meth c T locs cells slots) (H : p.tables.exec = Jvm.exec ∧ c.code = bs) {o : Int} {cd : ClassFile.Cond} {x y : Int32} (hd : decode bs pc = .ok (.if_icmp cd o, 3)) (hc : if_icmp.holds cd x y = false) (pc' : Nat) (hp : pc + 3 = pc') (g : Go p e below K (T.setTop (mkF m pc' Ls (st)))) : Go p e below K (T.setTop (mkF m pc Ls (.int y :: .int x :: st))) := by
  subst hp
  exact Go.via (fun t k => XS.icmpNo (g := mkF m pc Ls (.int y :: .int x :: st)) X.here H.1 rfl (hb H.2 hd) rfl hc k) g
theorem gLdc2 (X : Stand p l e R s m args below meth c T locs cells slots) (H : p.tables.exec = Jvm.exec ∧ c.code = bs) (hZ : Z.Warmed39 s.vm) {own : String} {index : Nat} (hown : s.vm.findClass own = some m.cls) {v : Int64} (w : (Cond.constantLong own index v).before a0 Z = true) (hd : decode bs pc = .ok (.ldc2_w index, 3)) (pc' : Nat) (hp : pc + 3 = pc') (g : Go p e below K (T.setTop (mkF m pc' Ls (.long v :: st)))) : Go p e below K (T.setTop (mkF m pc Ls (st))) := by
  subst hp
  exact Go.via (X.ldc2Long H.1 hown (mvT hZ w) (g := mkF m pc Ls st) rfl (hb H.2 hd)) g
theorem gGetS (X : Stand p l e R s m args below meth c T locs cells slots) (H : p.tables.exec = Jvm.exec ∧ c.code = bs) (hZ : Z.Warmed39 s.vm) {own : String} {index : Nat} (hown : s.vm.findClass own = some m.cls) {O n d : String} {v : Value} (w : (Cond.fieldLink own index O n d).before a0 Z = true) (eT : T.heap = h) (F : Sta Z h O n d v) (hd : decode bs pc = .ok (.getstatic index, 3)) (pc' : Nat) (hp : pc + 3 = pc') (g : ∀ T', Stand p l e R s m args below meth c T' locs cells slots → T'.heap = h → Go p e below K (T'.setTop (mkF m pc' Ls (v :: st)))) : Go p e below K (T.setTop (mkF m pc Ls (st))) := by
  subst hp
  obtain ⟨T', X', e', k⟩ := getS2 X H.1 hZ hown (host := "") (Or.inl w) Via.refl eT F (g := mkF m pc Ls st) rfl (hb H.2 hd)
  exact Go.via k (g T' X' e')
theorem gGetF (X : Stand p l e R s m args below meth c T locs cells slots) (H : p.tables.exec = Jvm.exec ∧ c.code = bs) (hZ : Z.Warmed39 s.vm) {own : String} {index : Nat} (hown : s.vm.findClass own = some m.cls) {R0 O n d : String} {a : Addr} {v : Value} (w : (Cond.fieldLink own index R0 n d).before a0 Z = true) (via : Via Z R0 O n d) (eT : T.heap = h) (F : Fld Z h a O n d v) (hd : decode bs pc = .ok (.getfield index, 3)) (pc' : Nat) (hp : pc + 3 = pc') (g : ∀ T', Stand p l e R s m args below meth c T' locs cells slots → T'.heap = h → Go p e below K (T'.setTop (mkF m pc' Ls (v :: st)))) : Go p e below K (T.setTop (mkF m pc Ls (.ref a :: st))) := by
  subst hp
  obtain ⟨T', X', e', k⟩ := getF X H.1 hZ hown (host := "") (Or.inl w) via eT F (g := mkF m pc Ls (.ref a :: st)) rfl rfl (hb H.2 hd)
  exact Go.via k (g T' X' e')
theorem gStatic (X : Stand p l e R s m args below meth c T locs cells slots) (H : p.tables.exec = Jvm.exec ∧ c.code = bs) (hZ : Z.Warmed39 s.vm) {own : String} {index : Nat} (hown : s.vm.findClass own = some m.cls) {y : MethodName} {bytes : ByteArray} {maxL : Nat} {ret : Option FieldType} {rm : Room} {as : Array Value} {Q : Option Value → Heap → List Loc → Prop} {W maxO : Nat} {argsL rest : List Value} {ps : List FieldType} {r : Option FieldType} (wl : (Cond.methodLink own index y).before a0 Z = true) (wst : (Cond.static y).before a0 Z = true) (hy : y.cls ≠ "java/lang/invoke/MethodHandle" ∧ y.cls ≠ "java/lang/invoke/VarHandle") (wc : (Cond.code y bytes maxL ret).before a0 Z = true) (wz : (Cond.initialized (y).cls).before a0 Z = true) (M : Con l Z y bytes maxL ret rm as h Q) (eT : T.heap = h) (hml : c.maxLocals = maxO) (hs : Ls.size = maxO) (hpd : parseMethodDescriptor y.desc = some ⟨ps, r⟩) (hlen : argsL.length = ps.length) (hstack : st = argsL.reverse ++ rest) (has : argsL.toArray = as) (hd : decode bs pc = .ok (.invokestatic index, 3)) (pc' : Nat) (hp : pc + 3 = pc')
    (g : ∀ v T' L, Q v T'.heap L → Stand p l e R s m args below meth c T' (locs ++ L) (cells + rm.cells) (slots + rm.slots) → Go p e below K (T'.setTop (mkF m pc' Ls (v.toList ++ rest)))) (hW : (rest.map fun v => v.category).sum ≤ W := by exact Nat.le_of_eq rfl) (hf : rm.frames + 1 ≤ R.frames := by decide) (hl : W + (maxL + 11) + rm.locals ≤ R.locals := by decide) (hc : cells + rm.cells ≤ R.cells := by decide) (hsl : slots + rm.slots ≤ R.slots := by decide) : Go p e below K (T.setTop (mkF m pc Ls (st))) := by
  subst hp has
  obtain ⟨v, _, ⟨T', L', k', n'⟩, -, X', ⟨L, hQ, l', y', z'⟩, k⟩ := Jvm.LawKit.callS X H.1 (y := y) hown (mvT hZ wl) (mvT hZ wst) (mvT hZ wz) (mvT hZ wc) hy (backOf (W := W) (M []) hZ wc wz hf hl) (g := mkF m pc Ls st) rfl (hs.trans hml.symm) (argsL := argsL) (rest := rest) (lenOf hpd hlen) hstack (by show 2 * 0 + _ ≤ _; omega) (hb H.2 hd) (fun _ _ => ⟨rfl, eT, hc, hsl⟩)
  dsimp only [Pt.U, Pt.locs, Pt.cells, Pt.slots] at X' l' y' z' k hQ
  subst l' y' z'
  exact Go.via k (g v T' L hQ X')
theorem gSpecial (X : Stand p l e R s m args below meth c T locs cells slots) (H : p.tables.exec = Jvm.exec ∧ c.code = bs) (hZ : Z.Warmed39 s.vm) {own : String} {index : Nat} (hown : s.vm.findClass own = some m.cls) {y : MethodName} {bytes : ByteArray} {maxL : Nat} {ret : Option FieldType} {rm : Room} {as : Array Value} {Q : Option Value → Heap → List Loc → Prop} {W maxO : Nat} {argsL rest : List Value} {ps : List FieldType} {r : Option FieldType} (hin : y.name = "<init>") (hrn : ret = none) (wl : (Cond.methodLink own index y).before a0 Z = true) (wi : (Cond.instanceMethod y).before a0 Z = true) (hy : y.cls ≠ "java/lang/invoke/MethodHandle" ∧ y.cls ≠ "java/lang/invoke/VarHandle") {b : Addr} (wc : (Cond.code y bytes maxL ret).before a0 Z = true) (wz : (Cond.initialized (y).cls).before a0 Z = true) (M : Con l Z y bytes maxL ret rm as h Q) (eT : T.heap = h) (hml : c.maxLocals = maxO) (hs : Ls.size = maxO) (hpd : parseMethodDescriptor y.desc = some ⟨ps, r⟩) (hlen : argsL.length = ps.length) (hstack : st = argsL.reverse ++ .ref b :: rest) (has : (.ref b :: argsL).toArray = as) (hd : decode bs pc = .ok (.invokespecial index, 3)) (pc' : Nat) (hp : pc + 3 = pc')
    (g : ∀ v T' L, Q v T'.heap L → Stand p l e R s m args below meth c T' (locs ++ L) (cells + rm.cells) (slots + rm.slots) → Go p e below K (T'.setTop (mkF m pc' Ls (v.toList ++ rest)))) (hW : (rest.map fun v => v.category).sum ≤ W := by exact Nat.le_of_eq rfl) (hf : rm.frames + 1 ≤ R.frames := by decide) (hl : W + (maxL + 11) + rm.locals ≤ R.locals := by decide) (hc : cells + rm.cells ≤ R.cells := by decide) (hsl : slots + rm.slots ≤ R.slots := by decide) : Go p e below K (T.setTop (mkF m pc Ls (st))) := by
  subst hp has
  subst hrn
  obtain ⟨v, _, ⟨T', L', k', n'⟩, -, X', ⟨L, hQ, l', y', z'⟩, k⟩ := X.specialBack H.1 (y := y) hin hown (mvT hZ wl) (mvT hZ wi) (mvT hZ wc) hy (backOf (W := W) (M []) hZ wc wz hf hl) (g := mkF m pc Ls st) rfl (hs.trans hml.symm) (Steps.refl _) (a := b) (argsL := argsL) (rest := rest) (lenOf hpd hlen) hstack (by show 2 * 0 + _ ≤ _; omega) (hb H.2 hd) (fun _ _ => ⟨rfl, eT, hc, hsl⟩)
  dsimp only [Pt.U, Pt.locs, Pt.cells, Pt.slots] at X' l' y' z' k hQ
  subst l' y' z'
  exact Go.via (fun t q => k.trans q) (g v T' L hQ X')
theorem gRetN (X : Stand p l e R s m args below meth c T locs cells slots) (H : p.tables.exec = Jvm.exec ∧ c.code = bs) (hlk : meth.locks = false) {Q : Option Value → Heap → List Loc → Prop} {C S : Nat} {t : FieldType} {z : Int32} (hret : meth.sig.returnType = some t) (ht : t = .boolean ∨ t = .byte ∨ t = .char ∨ t = .short) (hd : decode bs pc = .ok (.ireturn, 1)) (eT : T.heap = h) (q : Q (some (.int (nar t z))) h locs) (hC : cells ≤ C := by decide) (hS : slots ≤ S := by decide) : Go p e below (EndK s below Q C S) (T.setTop (mkF m pc Ls (.int z :: st))) := by
  subst eT
  obtain ⟨fs, hr, hrun, hended, hW, hsame⟩ := X.leave (v := (some (.int (nar t z)))) (fun h => by rw [hret] at h; cases h) hlk
  exact ⟨_, _, retN X H.1 hret ht (hb H.2 hd) hr, hrun, hended, _, _, rfl, q, ⟨_, rfl⟩, hW, hsame.mono hC hS⟩
theorem gRetA (X : Stand p l e R s m args below meth c T locs cells slots) (H : p.tables.exec = Jvm.exec ∧ c.code = bs) (hlk : meth.locks = false) {Q : Option Value → Heap → List Loc → Prop} {C S : Nat} {w : Value} {t : FieldType} (hret : meth.sig.returnType = some t) (hn : narrow t w = w) (ht : t.isReference = true) (hv : w.isRef = true) (hd : decode bs pc = .ok (.areturn, 1)) (eT : T.heap = h) (q : Q (some w) h locs) (hC : cells ≤ C := by decide) (hS : slots ≤ S := by decide) : Go p e below (EndK s below Q C S) (T.setTop (mkF m pc Ls (w :: st))) := by
  subst eT
  obtain ⟨fs, hr, hrun, hended, hW, hsame⟩ := X.leave (v := (some w)) (fun h => by rw [hret] at h; cases h) hlk
  exact ⟨_, _, retOut X H.1 hret hn (Or.inr (Or.inr (Or.inr (Or.inr ⟨rfl, ht, hv⟩)))) (hb H.2 hd) hr, hrun, hended, _, _, rfl, q, ⟨_, rfl⟩, hW, hsame.mono hC hS⟩
theorem gRetV (X : Stand p l e R s m args below meth c T locs cells slots) (H : p.tables.exec = Jvm.exec ∧ c.code = bs) (hlk : meth.locks = false) {Q : Option Value → Heap → List Loc → Prop} {C S : Nat}  (hret : meth.sig.returnType = none) (hd : decode bs pc = .ok (.return_, 1)) (eT : T.heap = h) (q : Q none h locs) (hC : cells ≤ C := by decide) (hS : slots ≤ S := by decide) : Go p e below (EndK s below Q C S) (T.setTop (mkF m pc Ls ([]))) := by
  subst eT
  obtain ⟨fs, hr, hrun, hended, hW, hsame⟩ := X.leave (v := none) (fun _ => rfl) hlk
  exact ⟨_, _, X.returnOut H.1 hret (hb H.2 hd) hr, hrun, hended, _, _, rfl, q, ⟨_, rfl⟩, hW, hsame.mono hC hS⟩
theorem gNew (X : Stand p l e R s m args below meth c T locs cells slots) (H : p.tables.exec = Jvm.exec ∧ c.code = bs) (hZ : Z.Warmed39 s.vm) {own : String} {index : Nat} (hown : s.vm.findClass own = some m.cls) {C : String} {n : Nat} (w : (Cond.classLink own index C).before a0 Z = true) (wi : (Cond.instantiable C n).before a0 Z = true) (wz : (Cond.initialized C).before a0 Z = true) (eT : T.heap = h) (hc : cells + 1 ≤ R.cells) (hsl : slots + n ≤ R.slots) (hd : decode bs pc = .ok (.new index, 3)) (pc' : Nat) (hp : pc + 3 = pc')
    (g : ∀ T' h' b, Stand p l e R s m args below meth c T' locs (cells + 1) (slots + n) → T'.heap = h' → h.size = b → Ext h h' → Exa Z h' b C → (∀ {O nm d : String} {ty : FieldType}, Laid Z a0 C O nm d → parseFieldDescriptor d = some ty → Fld Z h' b O nm d (defaultValue ty)) → Go p e below K (T'.setTop (mkF m pc' Ls (.ref b :: st)))) : Go p e below K (T.setTop (mkF m pc Ls (st))) := by
  subst hp
  obtain ⟨T', h', X', e', E', A', D', -, k⟩ := newO X H.1 hZ hown w wi wz eT (g := mkF m pc Ls st) rfl (hb H.2 hd) hc hsl
  exact Go.via k (g T' h' _ X' e' rfl E' A' D')
theorem gInitO (X : Stand p l e R s m args below meth c T locs cells slots) (H : p.tables.exec = Jvm.exec ∧ c.code = bs) (hZ : Z.Warmed39 s.vm) {own : String} {index : Nat} (hown : s.vm.findClass own = some m.cls) (w1 : (Cond.methodLink own index Lib.objectInit).before a0 Z = true) (w2 : (Cond.instanceMethod Lib.objectInit).before a0 Z = true) (w3 : (Cond.code Lib.objectInit ⟨#[0xb1]⟩ 1 none).before a0 Z = true) (eT : T.heap = h) {a : Addr} {V maxO : Nat} (hml : c.maxLocals = maxO) (hs : Ls.size = maxO) (hW : (st.map fun v => v.category).sum ≤ V) (hf : 1 ≤ R.frames) (hl : V + 12 ≤ R.locals) (hd : decode bs pc = .ok (.invokespecial index, 3)) (pc' : Nat) (hp : pc + 3 = pc')
    (g : ∀ T', Stand p l e R s m args below meth c T' locs cells slots → T'.heap = h → Go p e below K (T'.setTop (mkF m pc' Ls st))) : Go p e below K (T.setTop (mkF m pc Ls (.ref a :: st))) := by
  subst hp
  obtain ⟨T', X', e', k⟩ := initO X H.1 hZ hown w1 w2 w3 eT (g := mkF m pc Ls (.ref a :: st)) rfl (hs.trans hml.symm) rfl (hb H.2 hd) hf (W := V) (by show 2 * 0 + _ ≤ _; omega) hl
  exact Go.via k (g T' X' e')
theorem gPutF (X : Stand p l e R s m args below meth c T locs cells slots) (H : p.tables.exec = Jvm.exec ∧ c.code = bs) (hZ : Z.Warmed39 s.vm) {own : String} {index : Nat} (hown : s.vm.findClass own = some m.cls) {R0 O n d C : String} {kk : Nat} {ty : FieldType} (w : (Cond.fieldLink own index R0 n d).before a0 Z = true) (via : Via Z R0 O n d) (eT : T.heap = h) {a : Addr} {v v' old : Value} (F : Fld Z h a O n d old) (E : Exa Z h a C) (L : (Cond.lays C O n d).before a0 Z = true ∨ ((Cond.laysFinal C O n d).before a0 Z = true ∧ own = O ∧ meth.name = "<init>")) (wi : (Cond.instantiable C kk).before a0 Z = true) (hty : parseFieldDescriptor d = some ty) (hn : narrow ty v = v') (hf : fits ty v' = true) (hd : decode bs pc = .ok (.putfield index, 3)) (pc' : Nat) (hp : pc + 3 = pc')
    (g : ∀ T' h', Stand p l e R s m args below meth c T' (locs ++ [⟨a, Jvm.RoadKit.slotOf Z O n d⟩]) cells slots → T'.heap = h' → Wr h h' a (Jvm.RoadKit.slotOf Z O n d) v' → Fld Z h' a O n d v' → Go p e below K (T'.setTop (mkF m pc' Ls st))) : Go p e below K (T.setTop (mkF m pc Ls (v :: .ref a :: st))) := by
  subst hp
  obtain ⟨T', h', X', e', W', k⟩ := putFN X H.1 hZ hown w via eT F E L wi hty hn hf (g := mkF m pc Ls (v :: .ref a :: st)) rfl rfl (hb H.2 hd)
  exact Go.via k (g T' h' X' e' W' (F.same W'))
theorem gInstY (X : Stand p l e R s m args below meth c T locs cells slots) (H : p.tables.exec = Jvm.exec ∧ c.code = bs) (hZ : Z.Warmed39 s.vm) {own : String} {index : Nat} (hown : s.vm.findClass own = some m.cls) {C : String} (w : (Cond.classLink own index C).before a0 Z = true) (eT : T.heap = h) {a : Addr} (F : Ins Z h a C true) (hd : decode bs pc = .ok (.instanceof index, 3)) (pc' : Nat) (hp : pc + 3 = pc') (g : ∀ T', Stand p l e R s m args below meth c T' locs cells slots → T'.heap = h → Go p e below K (T'.setTop (mkF m pc' Ls (.int 1 :: st)))) : Go p e below K (T.setTop (mkF m pc Ls (.ref a :: st))) := by
  subst hp
  obtain ⟨T', X', e', k⟩ := instY X H.1 hZ hown w eT F (g := mkF m pc Ls (.ref a :: st)) rfl rfl (hb H.2 hd)
  exact Go.via k (g T' X' e')
theorem gInstNo (X : Stand p l e R s m args below meth c T locs cells slots) (H : p.tables.exec = Jvm.exec ∧ c.code = bs) (hZ : Z.Warmed39 s.vm) {own : String} {index : Nat} (hown : s.vm.findClass own = some m.cls) {C : String} (w : (Cond.classLink own index C).before a0 Z = true) (eT : T.heap = h) {a : Addr} {D : String} (E : Exa Z h a D) (F : ∃ c t, Z.vm.findClass D = some c ∧ Z.vm.findClass C = some t ∧ Z.vm.assignable c t = false) (hd : decode bs pc = .ok (.instanceof index, 3)) (pc' : Nat) (hp : pc + 3 = pc') (g : ∀ T', Stand p l e R s m args below meth c T' locs cells slots → T'.heap = h → Go p e below K (T'.setTop (mkF m pc' Ls (.int 0 :: st)))) : Go p e below K (T.setTop (mkF m pc Ls (.ref a :: st))) := by
  subst hp
  obtain ⟨T', X', e', k⟩ := instNo X H.1 hZ hown w eT E F (g := mkF m pc Ls (.ref a :: st)) rfl rfl (hb H.2 hd)
  exact Go.via k (g T' X' e')
theorem gCastY (X : Stand p l e R s m args below meth c T locs cells slots) (H : p.tables.exec = Jvm.exec ∧ c.code = bs) (hZ : Z.Warmed39 s.vm) {own : String} {index : Nat} (hown : s.vm.findClass own = some m.cls) {C : String} (w : (Cond.classLink own index C).before a0 Z = true) (eT : T.heap = h) {a : Addr} (F : Ins Z h a C true) (hd : decode bs pc = .ok (.checkcast index, 3)) (pc' : Nat) (hp : pc + 3 = pc') (g : ∀ T', Stand p l e R s m args below meth c T' locs cells slots → T'.heap = h → Go p e below K (T'.setTop (mkF m pc' Ls (.ref a :: st)))) : Go p e below K (T.setTop (mkF m pc Ls (.ref a :: st))) := by
  subst hp
  obtain ⟨T', X', e', k⟩ := castY X H.1 hZ hown w eT F (g := mkF m pc Ls (.ref a :: st)) rfl rfl (hb H.2 hd)
  exact Go.via k (g T' X' e')
theorem gInstNull (X : Stand p l e R s m args below meth c T locs cells slots) (H : p.tables.exec = Jvm.exec ∧ c.code = bs) {index : Nat} (hd : decode bs pc = .ok (.instanceof index, 3)) (pc' : Nat) (hp : pc + 3 = pc') (g : Go p e below K (T.setTop (mkF m pc' Ls (.int 0 :: st)))) : Go p e below K (T.setTop (mkF m pc Ls (.null :: st))) := by
  subst hp
  exact Go.via (X.instanceofNull H.1 (g := mkF m pc Ls (.null :: st)) rfl rfl (hb H.2 hd)) g
theorem gVirt (X : Stand p l e R s m args below meth c T locs cells slots) (H : p.tables.exec = Jvm.exec ∧ c.code = bs) (hZ : Z.Warmed39 s.vm) {own : String} {index : Nat} (hown : s.vm.findClass own = some m.cls) {C : String} {y : MethodName} {bytes : ByteArray} {maxL : Nat} {ret : Option FieldType} {rm : Room} {as : Array Value} {Q : Option Value → Heap → List Loc → Prop} {W maxO : Nat} {argsL rest : List Value} {ps : List FieldType} {r : Option FieldType} (wl : (Cond.methodLink own index y).before a0 Z = true) (wd : (Cond.declares y).before a0 Z = true) (wse : (Cond.selects C y y).before a0 Z = true) (wi : (Cond.instanceMethod y).before a0 Z = true) (hy : y.cls ≠ "java/lang/invoke/MethodHandle" ∧ y.cls ≠ "java/lang/invoke/VarHandle") {b : Addr} (E : Exa Z h b C) (wc : (Cond.code y bytes maxL ret).before a0 Z = true) (wz : (Cond.initialized (y).cls).before a0 Z = true) (M : Con l Z y bytes maxL ret rm as h Q) (eT : T.heap = h) (hml : c.maxLocals = maxO) (hs : Ls.size = maxO) (hpd : parseMethodDescriptor y.desc = some ⟨ps, r⟩) (hlen : argsL.length = ps.length) (hstack : st = argsL.reverse ++ .ref b :: rest) (has : (.ref b :: argsL).toArray = as) (hd : decode bs pc = .ok (.invokevirtual index, 3)) (pc' : Nat) (hp : pc + 3 = pc')
    (g : ∀ v T' L, Q v T'.heap L → Stand p l e R s m args below meth c T' (locs ++ L) (cells + rm.cells) (slots + rm.slots) → Go p e below K (T'.setTop (mkF m pc' Ls (v.toList ++ rest)))) (hW : (rest.map fun v => v.category).sum ≤ W := by exact Nat.le_of_eq rfl) (hf : rm.frames + 1 ≤ R.frames := by decide) (hl : W + (maxL + 11) + rm.locals ≤ R.locals := by decide) (hc : cells + rm.cells ≤ R.cells := by decide) (hsl : slots + rm.slots ≤ R.slots := by decide) : Go p e below K (T.setTop (mkF m pc Ls (st))) := by
  subst hp has
  obtain ⟨cB, kB, q1, q2, q3⟩ := isOf hZ eT E
  obtain ⟨v, _, ⟨T', L', k', n'⟩, -, X', ⟨L, hQ, l', y', z'⟩, k⟩ := X.virtualBack H.1 (y := y) (z := y) hown (mvT hZ wl) (mvT hZ wd) (notFace_of_selects (args := #[]) (mvT hZ wse)) (mvT hZ wse) (mvT hZ wi) hy (backOf (W := W) (M []) hZ wc wz hf hl) q1 q3 (g := mkF m pc Ls st) rfl (hs.trans hml.symm) (Steps.refl _) (argsL := argsL) (rest := rest) (lenOf hpd hlen) hstack (by show 2 * 0 + _ ≤ _; omega) (hb H.2 hd) (fun _ _ => ⟨rfl, eT, hc, hsl⟩)
  dsimp only [Pt.U, Pt.locs, Pt.cells, Pt.slots] at X' l' y' z' k hQ
  subst l' y' z'
  exact Go.via (fun t q => k.trans q) (g v T' L hQ X')
theorem gBoxload (X : Stand p l e R s m args below meth c T locs cells slots) (H : p.tables.exec = Jvm.exec ∧ c.code = bs) (hZ : Z.Warmed39 s.vm) (eT : T.heap = h) {a b : Addr} {cl : Cell} {ty : FieldType} {j : Int32} (hty : ty.isReference = true) (A : Arr Z h a cl ty) (hin : ¬ (j < 0 ∨ cl.slots.size ≤ j.toNatClampNeg)) (hv : cl.slots[j.toNatClampNeg]? = some (.ref b)) (hd : decode bs pc = .ok (.aaload, 1)) (pc' : Nat) (hp : pc + 1 = pc') (g : Go p e below K (T.setTop (mkF m pc' Ls (.ref b :: st)))) : Go p e below K (T.setTop (mkF m pc Ls (.int j :: .ref a :: st))) := by
  subst hp
  exact Go.via (X.aaload H.1 (j := j) (v := .ref b) (by rw [eT]; exact A.1) (State.isArrayOf_alike hZ.alike A.2.1) hty A.2.2 hin hv (g := mkF m pc Ls (.int j :: .ref a :: st)) rfl rfl (hb H.2 hd)) g
end Steps
theorem wd0 : (Jvm.Cond.classLink "com/example/rolling_quorum/rollingquorum/protocol/TimestampedOffsetEqualsPinLaw" (7 : Nat) "com/example/rolling_quorum/rollingquorum/protocol/TimestampedOffset") ∈ tables_1 := List.mem_of_getElem? (i := 0) rfl
theorem wd1 : (Jvm.Cond.instantiable "com/example/rolling_quorum/rollingquorum/protocol/TimestampedOffset" (2 : Nat)) ∈ tables_1 := List.mem_of_getElem? (i := 1) rfl
theorem wd2 : (Jvm.Cond.initialized "com/example/rolling_quorum/rollingquorum/protocol/TimestampedOffset") ∈ tables_1 := List.mem_of_getElem? (i := 2) rfl
theorem wd3 : (Jvm.Cond.methodLink "com/example/rolling_quorum/rollingquorum/protocol/TimestampedOffsetEqualsPinLaw" (9 : Nat) ({ cls := "com/example/rolling_quorum/rollingquorum/protocol/TimestampedOffset", name := "<init>", desc := "(JJ)V" } : Jvm.MethodName)) ∈ tables_1 := List.mem_of_getElem? (i := 3) rfl
theorem wd4 : (Jvm.Cond.instanceMethod ({ cls := "com/example/rolling_quorum/rollingquorum/protocol/TimestampedOffset", name := "<init>", desc := "(JJ)V" } : Jvm.MethodName)) ∈ tables_1 := List.mem_of_getElem? (i := 4) rfl
theorem wd5 : (Jvm.Cond.code ({ cls := "com/example/rolling_quorum/rollingquorum/protocol/TimestampedOffset", name := "<init>", desc := "(JJ)V" } : Jvm.MethodName) prog_64_method_1_code (5 : Nat) (Option.none : Option Jvm.ClassFile.FieldType)) ∈ tables_1 := List.mem_of_getElem? (i := 5) rfl
theorem wd6 : (Jvm.Cond.methodLink "com/example/rolling_quorum/rollingquorum/protocol/TimestampedOffset" (1 : Nat) ({ cls := "java/lang/Object", name := "<init>", desc := "()V" } : Jvm.MethodName)) ∈ tables_1 := List.mem_of_getElem? (i := 6) rfl
theorem wd7 : (Jvm.Cond.instanceMethod ({ cls := "java/lang/Object", name := "<init>", desc := "()V" } : Jvm.MethodName)) ∈ tables_1 := List.mem_of_getElem? (i := 7) rfl
theorem wd8 : (Jvm.Cond.code ({ cls := "java/lang/Object", name := "<init>", desc := "()V" } : Jvm.MethodName) object_method_1_code (1 : Nat) (Option.none : Option Jvm.ClassFile.FieldType)) ∈ tables_1 := List.mem_of_getElem? (i := 8) rfl
theorem wd9 : (Jvm.Cond.fieldLink "com/example/rolling_quorum/rollingquorum/protocol/TimestampedOffset" (7 : Nat) "com/example/rolling_quorum/rollingquorum/protocol/TimestampedOffset" "offset" "J") ∈ tables_1 := List.mem_of_getElem? (i := 9) rfl
theorem wd10 : (Jvm.Cond.laysFinal "com/example/rolling_quorum/rollingquorum/protocol/TimestampedOffset" "com/example/rolling_quorum/rollingquorum/protocol/TimestampedOffset" "offset" "J") ∈ tables_1 := List.mem_of_getElem? (i := 10) rfl
theorem wd11 : (Jvm.Cond.fieldLink "com/example/rolling_quorum/rollingquorum/protocol/TimestampedOffset" (13 : Nat) "com/example/rolling_quorum/rollingquorum/protocol/TimestampedOffset" "timestamp" "J") ∈ tables_1 := List.mem_of_getElem? (i := 11) rfl
theorem wd12 : (Jvm.Cond.laysFinal "com/example/rolling_quorum/rollingquorum/protocol/TimestampedOffset" "com/example/rolling_quorum/rollingquorum/protocol/TimestampedOffset" "timestamp" "J") ∈ tables_1 := List.mem_of_getElem? (i := 12) rfl
theorem wd13 : (Jvm.Cond.methodLink "com/example/rolling_quorum/rollingquorum/protocol/TimestampedOffsetEqualsPinLaw" (18 : Nat) ({ cls := "com/example/rolling_quorum/rollingquorum/protocol/TimestampedOffset", name := "equals", desc := "(Ljava/lang/Object;)Z" } : Jvm.MethodName)) ∈ tables_1 := List.mem_of_getElem? (i := 13) rfl
theorem wd14 : (Jvm.Cond.declares ({ cls := "com/example/rolling_quorum/rollingquorum/protocol/TimestampedOffset", name := "equals", desc := "(Ljava/lang/Object;)Z" } : Jvm.MethodName)) ∈ tables_1 := List.mem_of_getElem? (i := 14) rfl
theorem wd15 : (Jvm.Cond.instanceMethod ({ cls := "com/example/rolling_quorum/rollingquorum/protocol/TimestampedOffset", name := "equals", desc := "(Ljava/lang/Object;)Z" } : Jvm.MethodName)) ∈ tables_1 := List.mem_of_getElem? (i := 15) rfl
theorem wd16 : (Jvm.Cond.selects "com/example/rolling_quorum/rollingquorum/protocol/TimestampedOffset" ({ cls := "com/example/rolling_quorum/rollingquorum/protocol/TimestampedOffset", name := "equals", desc := "(Ljava/lang/Object;)Z" } : Jvm.MethodName) ({ cls := "com/example/rolling_quorum/rollingquorum/protocol/TimestampedOffset", name := "equals", desc := "(Ljava/lang/Object;)Z" } : Jvm.MethodName)) ∈ tables_1 := List.mem_of_getElem? (i := 16) rfl
theorem wd17 : (Jvm.Cond.code ({ cls := "com/example/rolling_quorum/rollingquorum/protocol/TimestampedOffset", name := "equals", desc := "(Ljava/lang/Object;)Z" } : Jvm.MethodName) prog_64_method_4_code (3 : Nat) (Option.some Jvm.ClassFile.FieldType.boolean)) ∈ tables_1 := List.mem_of_getElem? (i := 17) rfl
theorem wd18 : (Jvm.Cond.classLink "com/example/rolling_quorum/rollingquorum/protocol/TimestampedOffset" (8 : Nat) "com/example/rolling_quorum/rollingquorum/protocol/TimestampedOffset") ∈ tables_1 := List.mem_of_getElem? (i := 18) rfl
theorem wd20 : (Jvm.Cond.methodLink "com/example/rolling_quorum/rollingquorum/protocol/TimestampedOffsetEqualsPinLaw" (12 : Nat) ({ cls := "java/lang/Long", name := "valueOf", desc := "(J)Ljava/lang/Long;" } : Jvm.MethodName)) ∈ tables_1 := List.mem_of_getElem? (i := 20) rfl
theorem wd21 : (Jvm.Cond.static ({ cls := "java/lang/Long", name := "valueOf", desc := "(J)Ljava/lang/Long;" } : Jvm.MethodName)) ∈ tables_1 := List.mem_of_getElem? (i := 21) rfl
theorem wd22 : (Jvm.Cond.initialized "java/lang/Long") ∈ tables_1 := List.mem_of_getElem? (i := 22) rfl
theorem wd23 : (Jvm.Cond.code ({ cls := "java/lang/Long", name := "valueOf", desc := "(J)Ljava/lang/Long;" } : Jvm.MethodName) jdk_35_method_24_code (3 : Nat) (Option.some (Jvm.ClassFile.FieldType.object "java/lang/Long"))) ∈ tables_1 := List.mem_of_getElem? (i := 23) rfl
theorem wd24 : (Jvm.Cond.constantLong "java/lang/Long" (230 : Nat) (-128 : Int64)) ∈ tables_1 := List.mem_of_getElem? (i := 24) rfl
theorem wd25 : (Jvm.Cond.classLink "java/lang/Long" (1 : Nat) "java/lang/Long") ∈ tables_1 := List.mem_of_getElem? (i := 25) rfl
theorem wd26 : (Jvm.Cond.instantiable "java/lang/Long" (1 : Nat)) ∈ tables_1 := List.mem_of_getElem? (i := 26) rfl
theorem wd27 : (Jvm.Cond.methodLink "java/lang/Long" (240 : Nat) ({ cls := "java/lang/Long", name := "<init>", desc := "(J)V" } : Jvm.MethodName)) ∈ tables_1 := List.mem_of_getElem? (i := 27) rfl
theorem wd28 : (Jvm.Cond.instanceMethod ({ cls := "java/lang/Long", name := "<init>", desc := "(J)V" } : Jvm.MethodName)) ∈ tables_1 := List.mem_of_getElem? (i := 28) rfl
theorem wd30 : (Jvm.Cond.code ({ cls := "java/lang/Long", name := "<init>", desc := "(J)V" } : Jvm.MethodName) jdk_35_method_26_code (3 : Nat) (Option.none : Option Jvm.ClassFile.FieldType)) ∈ tables_1 := List.mem_of_getElem? (i := 30) rfl
theorem wd31 : (Jvm.Cond.methodLink "java/lang/Long" (270 : Nat) ({ cls := "java/lang/Number", name := "<init>", desc := "()V" } : Jvm.MethodName)) ∈ tables_1 := List.mem_of_getElem? (i := 31) rfl
theorem wd32 : (Jvm.Cond.instanceMethod ({ cls := "java/lang/Number", name := "<init>", desc := "()V" } : Jvm.MethodName)) ∈ tables_1 := List.mem_of_getElem? (i := 32) rfl
theorem wd35 : (Jvm.Cond.initialized "java/lang/Number") ∈ tables_1 := List.mem_of_getElem? (i := 35) rfl
theorem wd36 : (Jvm.Cond.code ({ cls := "java/lang/Number", name := "<init>", desc := "()V" } : Jvm.MethodName) jdk_18_method_1_code (1 : Nat) (Option.none : Option Jvm.ClassFile.FieldType)) ∈ tables_1 := List.mem_of_getElem? (i := 36) rfl
theorem wd37 : (Jvm.Cond.methodLink "java/lang/Number" (1 : Nat) ({ cls := "java/lang/Object", name := "<init>", desc := "()V" } : Jvm.MethodName)) ∈ tables_1 := List.mem_of_getElem? (i := 37) rfl
theorem wd38 : (Jvm.Cond.fieldLink "java/lang/Long" (273 : Nat) "java/lang/Long" "value" "J") ∈ tables_1 := List.mem_of_getElem? (i := 38) rfl
theorem wd39 : (Jvm.Cond.laysFinal "java/lang/Long" "java/lang/Long" "value" "J") ∈ tables_1 := List.mem_of_getElem? (i := 39) rfl
theorem wd40 : (Jvm.Cond.superclass "java/lang/Long" "java/lang/Number") ∈ tables_1 := List.mem_of_getElem? (i := 40) rfl
theorem wd41 : (Jvm.Cond.superclass "java/lang/Number" "java/lang/Object") ∈ tables_1 := List.mem_of_getElem? (i := 41) rfl
theorem wd42 : (Jvm.Cond.noSuperclass "java/lang/Object") ∈ tables_1 := List.mem_of_getElem? (i := 42) rfl
theorem wd43 : (Jvm.Cond.constantLong "java/lang/Long" (232 : Nat) (127 : Int64)) ∈ tables_1 := List.mem_of_getElem? (i := 43) rfl
theorem wd44 : (Jvm.Cond.fieldLink "java/lang/Long" (234 : Nat) "java/lang/Long$LongCache" "cache" "[Ljava/lang/Long;") ∈ tables_1 := List.mem_of_getElem? (i := 44) rfl
theorem wd45 : (Jvm.Cond.initialized "java/lang/Long$LongCache") ∈ tables_1 := List.mem_of_getElem? (i := 45) rfl
theorem d1_0 : decode prog_64_method_1_code 0 = .ok (.aload_n 0, 1) := by decide +kernel
theorem d1_1 : decode prog_64_method_1_code 1 = .ok (.invokespecial 1, 3) := by decide +kernel
theorem d1_4 : decode prog_64_method_1_code 4 = .ok (.aload_n 0, 1) := by decide +kernel
theorem d1_5 : decode prog_64_method_1_code 5 = .ok (.lload_n 1, 1) := by decide +kernel
theorem d1_6 : decode prog_64_method_1_code 6 = .ok (.putfield 7, 3) := by decide +kernel
theorem d1_9 : decode prog_64_method_1_code 9 = .ok (.aload_n 0, 1) := by decide +kernel
theorem d1_10 : decode prog_64_method_1_code 10 = .ok (.lload_n 3, 1) := by decide +kernel
theorem d1_11 : decode prog_64_method_1_code 11 = .ok (.putfield 13, 3) := by decide +kernel
theorem d1_14 : decode prog_64_method_1_code 14 = .ok (.return_, 1) := by decide +kernel
theorem d3_0 : decode prog_64_method_4_code 0 = .ok (.aload_n 1, 1) := by decide +kernel
theorem d3_1 : decode prog_64_method_4_code 1 = .ok (.instanceof 8, 3) := by decide +kernel
theorem d3_4 : decode prog_64_method_4_code 4 = .ok (.ifCond .eq 36, 3) := by decide +kernel
theorem d3_7 : decode prog_64_method_4_code 7 = .ok (.aload_n 1, 1) := by decide +kernel
theorem d3_8 : decode prog_64_method_4_code 8 = .ok (.checkcast 8, 3) := by decide +kernel
theorem d3_11 : decode prog_64_method_4_code 11 = .ok (.astore_n 2, 1) := by decide +kernel
theorem d3_12 : decode prog_64_method_4_code 12 = .ok (.aload_n 0, 1) := by decide +kernel
theorem d3_13 : decode prog_64_method_4_code 13 = .ok (.getfield 7, 3) := by decide +kernel
theorem d3_16 : decode prog_64_method_4_code 16 = .ok (.aload_n 2, 1) := by decide +kernel
theorem d3_17 : decode prog_64_method_4_code 17 = .ok (.getfield 7, 3) := by decide +kernel
theorem d3_20 : decode prog_64_method_4_code 20 = .ok (.lcmp, 1) := by decide +kernel
theorem d3_21 : decode prog_64_method_4_code 21 = .ok (.ifCond .ne 19, 3) := by decide +kernel
theorem d3_24 : decode prog_64_method_4_code 24 = .ok (.aload_n 0, 1) := by decide +kernel
theorem d3_25 : decode prog_64_method_4_code 25 = .ok (.getfield 13, 3) := by decide +kernel
theorem d3_28 : decode prog_64_method_4_code 28 = .ok (.aload_n 2, 1) := by decide +kernel
theorem d3_29 : decode prog_64_method_4_code 29 = .ok (.getfield 13, 3) := by decide +kernel
theorem d3_32 : decode prog_64_method_4_code 32 = .ok (.lcmp, 1) := by decide +kernel
theorem d3_33 : decode prog_64_method_4_code 33 = .ok (.ifCond .ne 7, 3) := by decide +kernel
theorem d3_36 : decode prog_64_method_4_code 36 = .ok (.iconst 1, 1) := by decide +kernel
theorem d3_37 : decode prog_64_method_4_code 37 = .ok (.goto 4, 3) := by decide +kernel
theorem d3_40 : decode prog_64_method_4_code 40 = .ok (.iconst 0, 1) := by decide +kernel
theorem d3_41 : decode prog_64_method_4_code 41 = .ok (.ireturn, 1) := by decide +kernel
theorem d4_0 : decode jdk_35_method_24_code 0 = .ok (.sipush 128, 3) := by decide +kernel
theorem d4_3 : decode jdk_35_method_24_code 3 = .ok (.istore_n 2, 1) := by decide +kernel
theorem d4_4 : decode jdk_35_method_24_code 4 = .ok (.lload_n 0, 1) := by decide +kernel
theorem d4_5 : decode jdk_35_method_24_code 5 = .ok (.ldc2_w 230, 3) := by decide +kernel
theorem d4_8 : decode jdk_35_method_24_code 8 = .ok (.lcmp, 1) := by decide +kernel
theorem d4_9 : decode jdk_35_method_24_code 9 = .ok (.ifCond .lt 22, 3) := by decide +kernel
theorem d4_12 : decode jdk_35_method_24_code 12 = .ok (.lload_n 0, 1) := by decide +kernel
theorem d4_13 : decode jdk_35_method_24_code 13 = .ok (.ldc2_w 232, 3) := by decide +kernel
theorem d4_16 : decode jdk_35_method_24_code 16 = .ok (.lcmp, 1) := by decide +kernel
theorem d4_17 : decode jdk_35_method_24_code 17 = .ok (.ifCond .gt 14, 3) := by decide +kernel
theorem d4_20 : decode jdk_35_method_24_code 20 = .ok (.getstatic 234, 3) := by decide +kernel
theorem d4_23 : decode jdk_35_method_24_code 23 = .ok (.lload_n 0, 1) := by decide +kernel
theorem d4_24 : decode jdk_35_method_24_code 24 = .ok (.l2i, 1) := by decide +kernel
theorem d4_25 : decode jdk_35_method_24_code 25 = .ok (.sipush 128, 3) := by decide +kernel
theorem d4_28 : decode jdk_35_method_24_code 28 = .ok (.iadd, 1) := by decide +kernel
theorem d4_29 : decode jdk_35_method_24_code 29 = .ok (.aaload, 1) := by decide +kernel
theorem d4_30 : decode jdk_35_method_24_code 30 = .ok (.areturn, 1) := by decide +kernel
theorem d4_31 : decode jdk_35_method_24_code 31 = .ok (.new 1, 3) := by decide +kernel
theorem d4_34 : decode jdk_35_method_24_code 34 = .ok (.dup, 1) := by decide +kernel
theorem d4_35 : decode jdk_35_method_24_code 35 = .ok (.lload_n 0, 1) := by decide +kernel
theorem d4_36 : decode jdk_35_method_24_code 36 = .ok (.invokespecial 240, 3) := by decide +kernel
theorem d4_39 : decode jdk_35_method_24_code 39 = .ok (.areturn, 1) := by decide +kernel
theorem d5_0 : decode jdk_35_method_26_code 0 = .ok (.aload_n 0, 1) := by decide +kernel
theorem d5_1 : decode jdk_35_method_26_code 1 = .ok (.invokespecial 270, 3) := by decide +kernel
theorem d5_4 : decode jdk_35_method_26_code 4 = .ok (.aload_n 0, 1) := by decide +kernel
theorem d5_5 : decode jdk_35_method_26_code 5 = .ok (.lload_n 1, 1) := by decide +kernel
theorem d5_6 : decode jdk_35_method_26_code 6 = .ok (.putfield 273, 3) := by decide +kernel
theorem d5_9 : decode jdk_35_method_26_code 9 = .ok (.return_, 1) := by decide +kernel
theorem d6_0 : decode jdk_18_method_1_code 0 = .ok (.aload_n 0, 1) := by decide +kernel
theorem d6_1 : decode jdk_18_method_1_code 1 = .ok (.invokespecial 1, 3) := by decide +kernel
theorem d6_4 : decode jdk_18_method_1_code 4 = .ok (.return_, 1) := by decide +kernel
theorem pd0 : parseMethodDescriptor "(JJ)V" = some ⟨[.long, .long], none⟩ := by decide +kernel
theorem pd1 : parseMethodDescriptor "(Ljava/lang/Object;)Z" = some ⟨[(.object "java/lang/Object")], some .boolean⟩ := by decide +kernel
theorem pd2 : parseMethodDescriptor "()V" = some ⟨[], none⟩ := by decide +kernel
theorem pd3 : parseMethodDescriptor "(J)V" = some ⟨[.long], none⟩ := by decide +kernel
theorem pd4 : parseMethodDescriptor "(J)Ljava/lang/Long;" = some ⟨[.long], some (.object "java/lang/Long")⟩ := by decide +kernel
theorem pn0 : plainName "com/example/rolling_quorum/rollingquorum/protocol/TimestampedOffsetEqualsPinLaw" = true := by first | (simp [plainName, overriddenIn]; done) | decide +kernel
theorem pn1 : plainName "com/example/rolling_quorum/rollingquorum/protocol/TimestampedOffset" = true := by first | (simp [plainName, overriddenIn]; done) | decide +kernel
theorem pn3 : plainName "com/example/rolling_quorum/rollingquorum/protocol/TimestampedOffset" = true := by first | (simp [plainName, overriddenIn]; done) | decide +kernel
theorem pn4 : plainName "java/lang/Long" = true := by first | (simp [plainName, overriddenIn]; done) | decide +kernel
theorem pn5 : plainName "java/lang/Long" = true := by first | (simp [plainName, overriddenIn]; done) | decide +kernel
theorem pn6 : plainName "java/lang/Number" = true := by first | (simp [plainName, overriddenIn]; done) | decide +kernel
def World (Z : State) (w_cacheJ : Addr) (cl_cacheJ : Cell) : Prop :=
  Sta Z Z.heap "java/lang/Long$LongCache" "cache" "[Ljava/lang/Long;" (.ref w_cacheJ) ∧
  Bxs Z w_cacheJ cl_cacheJ "java/lang/Long" "J" (256 : Int32) (fun j => .long (j - 128).toInt64)
abbrev Bg (Z : State) (a0 : Array Value) (w_cacheJ : Addr) (cl_cacheJ : Cell) : Prop := (∀ d ∈ tables_1, d.before a0 Z = true) ∧ World Z w_cacheJ cl_cacheJ
abbrev yM5 : MethodName := ⟨"java/lang/Long", "<init>", "(J)V"⟩
abbrev yM6 : MethodName := ⟨"java/lang/Number", "<init>", "()V"⟩
abbrev yM3 : MethodName := ⟨"com/example/rolling_quorum/rollingquorum/protocol/TimestampedOffset", "equals", "(Ljava/lang/Object;)Z"⟩
abbrev yM1 : MethodName := ⟨"com/example/rolling_quorum/rollingquorum/protocol/TimestampedOffset", "<init>", "(JJ)V"⟩
abbrev cs0 : String := "com/example/rolling_quorum/rollingquorum/protocol/TimestampedOffset"
theorem extT {a b c : Heap} (x : Ext a b) (y : Ext b c) : Ext a c := ⟨Nat.le_trans x.1 y.1, fun q r s => y.2 q r (x.2 q r s)⟩
theorem extR (a : Heap) : Ext a a := ⟨Nat.le_refl _, fun _ _ q => q⟩
theorem extK {h0 h h' : Heap} {ws : List Addr} (O : Ext h0 h) (K : Keep h h' ws) (q : ∀ x ∈ ws, h0.size ≤ x) : Ext h0 h' := ⟨Nat.le_trans O.1 K.1, fun x c r => K.2.1 x c (O.2 x c r) fun z => absurd (Array.getElem?_eq_some_iff.mp r).1 (Nat.not_lt.mpr (q x z))⟩
theorem extW {h0 h h' : Heap} {a : Addr} {sl : Nat} {v : Value} (O : Ext h0 h) (W : Wr h h' a sl v) (q : h0.size ≤ a) : Ext h0 h' := extK O (Keep.of_wr W) (allS q all0)
theorem leW {h0 h h' : Heap} {a : Addr} {sl : Nat} {v : Value} (q : h0.size ≤ h.size) (W : Wr h h' a sl v) : h0.size ≤ h'.size := by rw [W.size]; exact q
theorem neB {a b : Addr} {h : Heap} (x : a < h.size) (y : h.size ≤ b) : a ≠ b := Nat.ne_of_lt (Nat.lt_of_lt_of_le x y)
theorem stoV {Z : State} {h : Heap} {a y : Addr} {k : ClassId} {ty : FieldType} {n : Int32} {vs : List Value} {d : Value} {C : String} (A : Arv Z h a k ty n vs d) (O : Ovr Z k C) (I : Ins Z h y C true) : Sto Z h a (.ref y) := by
  obtain ⟨c, Ar, q, -⟩ := A
  exact Sto.ofV Ar q O I
theorem found_inst {Z : State} {a0 : Array Value} {K : String} {n : Nat} (w : (Cond.instantiable K n).before a0 Z = true) : ∃ t, Z.vm.findClass K = some t := by
  obtain ⟨c, k, h, -⟩ := Cond.instantiable_spec w; exact ⟨c, h⟩
theorem ns_root {Z : State} {a0 : Array Value} {O K : String} {n : Nat} (w : (Cond.noSuperclass O).before a0 Z = true) (wk : (Cond.instantiable K n).before a0 Z = true) (hn : O ≠ K) : NS Z O K := by
  obtain ⟨c, k, h1, h2, h3, -, -⟩ := Cond.noSuperclass_spec w
  obtain ⟨t, g1⟩ := found_inst wk
  have ne := ids_ne h1 g1 hn
  refine ⟨c, t, h1, g1, fun fuel => ?_⟩
  cases fuel with
  | zero => rfl
  | succ f => simp [Vm.isSubclassAux, ne, h2, h3]
theorem ns_no {Z : State} {a0 : Array Value} {C S K : String} {n : Nat} (w : (Cond.superclass C S).before a0 Z = true) (wk : (Cond.instantiable K n).before a0 Z = true) (q : NS Z C K) (hn : C ≠ K) : ∃ c t, Z.vm.findClass C = some c ∧ Z.vm.findClass K = some t ∧ Z.vm.assignable c t = false := by
  obtain ⟨c, t, h0, g0, n3⟩ := q
  obtain ⟨p, k, kp, h1, h2, h3, h4, h5, -, h7⟩ := Cond.superclass_spec h0 w
  obtain ⟨t', k', g1, g2, g3, g4⟩ := Cond.instantiable_spec wk
  cases g0.symm.trans g1
  have g5 : k'.isInterface = false := (Bool.or_eq_false_iff.mp g4.1).1
  have ne := ids_ne h0 g0 hn
  refine ⟨c, t, h0, g0, ?_⟩
  show Z.vm.assignableAux (255 + 1) c t = false
  simp [Vm.assignableAux, ne, h2, g2, g3, g5, h5, Vm.isSubclass, n3]
theorem box_in {x : Int32} (h1 : ¬ (x < (-128 : Int32))) (h2 : ¬ ((127 : Int32) < x)) {c : Cell} (S : c.slots.size = (256 : Int32).toNatClampNeg) : ¬ ((x + (128 : Int32)) < 0 ∨ c.slots.size ≤ (x + (128 : Int32)).toNatClampNeg) := by
  refine inb_of S ?_
  have h3 := c_iadd x (128 : Int32)
  have r := rng32 (x + (128 : Int32))
  have e1 : (128 : Int32).toInt = 128 := by decide
  have e2 : (-128 : Int32).toInt = -128 := by decide
  have e3 : (127 : Int32).toInt = 127 := by decide
  have e4 : (256 : Int32).toInt = 256 := by decide
  have e5 : (0 : Int32).toInt = 0 := by decide
  rw [Int32.lt_iff_toInt_lt] at h1 h2
  rw [Int32.lt_iff_toInt_lt, Int32.lt_iff_toInt_lt]
  omega
theorem box_v (x : Int32) : (x + (128 : Int32)) - 128 = x := by
  rw [← Int32.toInt_inj]
  have h3 := c_iadd x (128 : Int32)
  have h4 := c_isub (x + (128 : Int32)) 128
  have e1 : (128 : Int32).toInt = 128 := by decide
  have r := rng32 x
  have r2 := rng32 ((x + (128 : Int32)) - 128)
  rw [e1] at h3 h4
  omega
theorem boxL_r {x : Int64} (h1 : ¬ (x < (-128 : Int64))) (h2 : ¬ ((127 : Int64) < x)) : ¬ ((x.toInt32) < (-128 : Int32)) ∧ ¬ ((127 : Int32) < (x.toInt32)) ∧ (x.toInt32).toInt64 = x := by
  have h3 := c_l2i x
  have r := rng32 x.toInt32
  have e2 : (-128 : Int64).toInt = -128 := by decide
  have e3 : (127 : Int64).toInt = 127 := by decide
  have e4 : (-128 : Int32).toInt = -128 := by decide
  have e5 : (127 : Int32).toInt = 127 := by decide
  rw [Int64.lt_iff_toInt_lt] at h1 h2
  refine ⟨?_, ?_, ?_⟩
  · rw [Int32.lt_iff_toInt_lt]; omega
  · rw [Int32.lt_iff_toInt_lt]; omega
  · rw [← Int64.toInt_inj, c_i2l]; omega
theorem sn0 {Z : State} {a0 : Array Value} (hw : ∀ d ∈ tables_1, d.before a0 Z = true) : Jvm.RoadKit.slotOf Z "com/example/rolling_quorum/rollingquorum/protocol/TimestampedOffset" "timestamp" "J" ≠ Jvm.RoadKit.slotOf Z "com/example/rolling_quorum/rollingquorum/protocol/TimestampedOffset" "offset" "J" := slot_ne (Or.inr (hw _ wd12)) (Or.inr (hw _ wd10)) (by decide) (t := .long) (t' := .long) (by decide) (by decide)
theorem sn1 {Z : State} {a0 : Array Value} (hw : ∀ d ∈ tables_1, d.before a0 Z = true) : Jvm.RoadKit.slotOf Z "com/example/rolling_quorum/rollingquorum/protocol/TimestampedOffset" "offset" "J" ≠ Jvm.RoadKit.slotOf Z "com/example/rolling_quorum/rollingquorum/protocol/TimestampedOffset" "timestamp" "J" := slot_ne (Or.inr (hw _ wd10)) (Or.inr (hw _ wd12)) (by decide) (t := .long) (t' := .long) (by decide) (by decide)
section Walk
variable {l : Launch} {Z : State} {a0 : Array Value} {w_cacheJ : Addr} {cl_cacheJ : Cell}
theorem rm17_1 (B : Bg Z a0 w_cacheJ cl_cacheJ) (ro0 : Addr) (vj1 vj2 : Int64) (h : Heap) (O : Ext Z.heap h) (q6 : Exa Z h ro0 cs0) (q7 : Fld Z h ro0 cs0 "offset" "J" (.long 0)) (q8 : Z.heap.size ≤ ro0) (q11 : Fld Z h ro0 cs0 "timestamp" "J" (.long 0)) :
    Con l Z yM1 prog_64_method_1_code 5 none ({ frames := 1, cells := 0, slots := 0, locals := 12 } : Room) #[(.ref ro0), (.long vj1), (.long vj2)] h (fun v h' L => v = none ∧ Fr Z.heap.size L ∧ Keep h h' [ro0] ∧ Exa Z h' ro0 cs0 ∧ Fld Z h' ro0 cs0 "offset" "J" (.long vj1) ∧ Fld Z h' ro0 cs0 "timestamp" "J" (.long vj2)) := by
  have hw := B.1
  refine Con.of (plainFor_of_name pn1) (Ls := #[vR ro0, vJ vj1, .second, vJ vj2, .second]) (fun _ => by first | (simp [entryFrame, mkF, argsToLocals, Value.category, maxLocals]; done) | rfl) ?_
  intro p e s m below meth c T0 X0 H hml hZ hown hnm hret hlk e0
  have N0 := Fr.nil Z.heap.size
  refine gAloadN X0 H d1_0 rfl rfl 1 rfl ?_
  refine gInitO X0 H hZ hown (hw _ wd6) (hw _ wd7) (hw _ wd8) e0 hml rfl (V := 0) (Nat.le_of_eq rfl) (by decide) (by decide) d1_1 4 rfl ?_
  intro T4 X4 e4
  refine gAloadN X4 H d1_4 rfl rfl 5 rfl ?_
  refine gLloadN X4 H d1_5 rfl 6 rfl ?_
  refine gPutF X4 H hZ hown (hw _ wd9) Via.refl e4 q7 q6 (Or.inr ⟨(hw _ wd10), rfl, hnm⟩) (hw _ wd1) (ty := .long) (by decide) (v' := (.long vj1)) rfl rfl d1_6 9 rfl ?_
  intro T5 h5 X5 e5 W5 F5
  have O5 := extW O W5 q8
  have N5 := Fr.snoc X5 N0 q8
  refine gAloadN X5 H d1_9 rfl rfl 10 rfl ?_
  refine gLloadN X5 H d1_10 rfl 11 rfl ?_
  have c10 := (q6.wr W5)
  have c12 := (q11.other W5 (Or.inr (sn0 hw)))
  refine gPutF X5 H hZ hown (hw _ wd11) Via.refl e5 c12 c10 (Or.inr ⟨(hw _ wd12), rfl, hnm⟩) (hw _ wd1) (ty := .long) (by decide) (v' := (.long vj2)) rfl rfl d1_11 14 rfl ?_
  intro T9 h9 X9 e9 W9 F9
  have O9 := extW O5 W9 q8
  have N9 := Fr.snoc X9 N5 q8
  have c13 := (c10.wr W9)
  have c14 := (F5.other W9 (Or.inr (sn1 hw)))
  have K_15 := (Keep.refl h [ro0]).wr W5 (Or.inl (List.mem_of_getElem? (i := 0) rfl))
  have K_16 := K_15.wr W9 (Or.inl (List.mem_of_getElem? (i := 0) rfl))
  exact gRetV X9 H hlk hret d1_14 e9 ⟨rfl, N9, K_16, c13, c14, F9⟩
theorem rm39_3 (B : Bg Z a0 w_cacheJ cl_cacheJ) (ro0 ro1 : Addr) (vj2 vj3 vj4 vj5 : Int64) (h : Heap) (O : Ext Z.heap h) (q27 : Exa Z h ro1 cs0) (q29 : Fld Z h ro0 cs0 "offset" "J" (.long vj2)) (q31 : Fld Z h ro1 cs0 "offset" "J" (.long vj3)) (q34 : Fld Z h ro0 cs0 "timestamp" "J" (.long vj4)) (q36 : Fld Z h ro1 cs0 "timestamp" "J" (.long vj5)) (hk33 : vj2 = vj3) (hk38 : vj4 = vj5) :
    Con l Z yM3 prog_64_method_4_code 3 (some .boolean) ({ frames := 0, cells := 0, slots := 0, locals := 0 } : Room) #[(.ref ro0), (.ref ro1)] h (fun v h' L => v = some (.int 1) ∧ h' = h ∧ L = []) := by
  have hw := B.1
  refine Con.of (plainFor_of_name pn3) (Ls := #[vR ro0, vR ro1, .unset]) (fun _ => rfl) ?_
  intro p e s m below meth c T0 X0 H hml hZ hown hnm hret hlk e0
  refine gAloadN X0 H d3_0 rfl rfl 1 rfl ?_
  refine gInstY X0 H hZ hown (hw _ wd18) e0 (Ins.self q27) d3_1 4 rfl ?_
  intro T26 X26 e26
  refine gIfN X26 H d3_4 (by decide) 7 rfl ?_
  refine gAloadN X26 H d3_7 rfl rfl 8 rfl ?_
  refine gCastY X26 H hZ hown (hw _ wd18) e26 (Ins.self q27) d3_8 11 rfl ?_
  intro T28 X28 e28
  refine gAstoreN X28 H d3_11 rfl (Ls' := #[vR ro0, vR ro1, vR ro1]) rfl 12 rfl ?_
  refine gAloadN X28 H d3_12 rfl rfl 13 rfl ?_
  refine gGetF X28 H hZ hown (hw _ wd9) Via.refl e28 q29 d3_13 16 rfl ?_
  intro T30 X30 e30
  refine gAloadN X30 H d3_16 rfl rfl 17 rfl ?_
  refine gGetF X30 H hZ hown (hw _ wd9) Via.refl e30 q31 d3_17 20 rfl ?_
  intro T32 X32 e32
  refine g_lcmp X32 H d3_20 (z := (lcmpW vj2 vj3)) rfl 21 rfl ?_
  refine gIfN X32 H d3_21 ((if0 _ _).trans (teq ((lw_eq _ _).mpr hk33)).2) 24 rfl ?_
  refine gAloadN X32 H d3_24 rfl rfl 25 rfl ?_
  refine gGetF X32 H hZ hown (hw _ wd11) Via.refl e32 q34 d3_25 28 rfl ?_
  intro T35 X35 e35
  refine gAloadN X35 H d3_28 rfl rfl 29 rfl ?_
  refine gGetF X35 H hZ hown (hw _ wd11) Via.refl e35 q36 d3_29 32 rfl ?_
  intro T37 X37 e37
  refine g_lcmp X37 H d3_32 (z := (lcmpW vj4 vj5)) rfl 33 rfl ?_
  refine gIfN X37 H d3_33 ((if0 _ _).trans (teq ((lw_eq _ _).mpr hk38)).2) 36 rfl ?_
  refine gIconst X37 H d3_36 (z := 1) rfl 37 rfl ?_
  refine gGoto X37 H d3_37 (by decide) 41 rfl ?_
  exact gRetN X37 H hlk hret (t := .boolean) (by simp) d3_41 e37 ⟨rfl, rfl, rfl⟩
theorem rm57_3 (B : Bg Z a0 w_cacheJ cl_cacheJ) (ro0 ro1 : Addr) (vj2 vj3 vj4 vj5 : Int64) (h : Heap) (O : Ext Z.heap h) (q45 : Exa Z h ro1 cs0) (q47 : Fld Z h ro0 cs0 "offset" "J" (.long vj2)) (q49 : Fld Z h ro1 cs0 "offset" "J" (.long vj3)) (q52 : Fld Z h ro0 cs0 "timestamp" "J" (.long vj4)) (q54 : Fld Z h ro1 cs0 "timestamp" "J" (.long vj5)) (hk51 : vj2 = vj3) (hk56 : ¬ (vj4 = vj5)) :
    Con l Z yM3 prog_64_method_4_code 3 (some .boolean) ({ frames := 0, cells := 0, slots := 0, locals := 0 } : Room) #[(.ref ro0), (.ref ro1)] h (fun v h' L => v = some (.int 0) ∧ h' = h ∧ L = []) := by
  have hw := B.1
  refine Con.of (plainFor_of_name pn3) (Ls := #[vR ro0, vR ro1, .unset]) (fun _ => rfl) ?_
  intro p e s m below meth c T0 X0 H hml hZ hown hnm hret hlk e0
  refine gAloadN X0 H d3_0 rfl rfl 1 rfl ?_
  refine gInstY X0 H hZ hown (hw _ wd18) e0 (Ins.self q45) d3_1 4 rfl ?_
  intro T44 X44 e44
  refine gIfN X44 H d3_4 (by decide) 7 rfl ?_
  refine gAloadN X44 H d3_7 rfl rfl 8 rfl ?_
  refine gCastY X44 H hZ hown (hw _ wd18) e44 (Ins.self q45) d3_8 11 rfl ?_
  intro T46 X46 e46
  refine gAstoreN X46 H d3_11 rfl (Ls' := #[vR ro0, vR ro1, vR ro1]) rfl 12 rfl ?_
  refine gAloadN X46 H d3_12 rfl rfl 13 rfl ?_
  refine gGetF X46 H hZ hown (hw _ wd9) Via.refl e46 q47 d3_13 16 rfl ?_
  intro T48 X48 e48
  refine gAloadN X48 H d3_16 rfl rfl 17 rfl ?_
  refine gGetF X48 H hZ hown (hw _ wd9) Via.refl e48 q49 d3_17 20 rfl ?_
  intro T50 X50 e50
  refine g_lcmp X50 H d3_20 (z := (lcmpW vj2 vj3)) rfl 21 rfl ?_
  refine gIfN X50 H d3_21 ((if0 _ _).trans (teq ((lw_eq _ _).mpr hk51)).2) 24 rfl ?_
  refine gAloadN X50 H d3_24 rfl rfl 25 rfl ?_
  refine gGetF X50 H hZ hown (hw _ wd11) Via.refl e50 q52 d3_25 28 rfl ?_
  intro T53 X53 e53
  refine gAloadN X53 H d3_28 rfl rfl 29 rfl ?_
  refine gGetF X53 H hZ hown (hw _ wd11) Via.refl e53 q54 d3_29 32 rfl ?_
  intro T55 X55 e55
  refine g_lcmp X55 H d3_32 (z := (lcmpW vj4 vj5)) rfl 33 rfl ?_
  refine gIfY X55 H d3_33 ((if0 _ _).trans (feq (fun q => hk56 ((lw_eq _ _).mp q))).2) (by decide) 40 rfl ?_
  refine gIconst X55 H d3_40 (z := 0) rfl 41 rfl ?_
  exact gRetN X55 H hlk hret (t := .boolean) (by simp) d3_41 e55 ⟨rfl, rfl, rfl⟩
theorem rm70_3 (B : Bg Z a0 w_cacheJ cl_cacheJ) (ro0 ro1 : Addr) (vj2 vj3 : Int64) (h : Heap) (O : Ext Z.heap h) (q63 : Exa Z h ro1 cs0) (q65 : Fld Z h ro0 cs0 "offset" "J" (.long vj2)) (q67 : Fld Z h ro1 cs0 "offset" "J" (.long vj3)) (hk69 : ¬ (vj2 = vj3)) :
    Con l Z yM3 prog_64_method_4_code 3 (some .boolean) ({ frames := 0, cells := 0, slots := 0, locals := 0 } : Room) #[(.ref ro0), (.ref ro1)] h (fun v h' L => v = some (.int 0) ∧ h' = h ∧ L = []) := by
  have hw := B.1
  refine Con.of (plainFor_of_name pn3) (Ls := #[vR ro0, vR ro1, .unset]) (fun _ => rfl) ?_
  intro p e s m below meth c T0 X0 H hml hZ hown hnm hret hlk e0
  refine gAloadN X0 H d3_0 rfl rfl 1 rfl ?_
  refine gInstY X0 H hZ hown (hw _ wd18) e0 (Ins.self q63) d3_1 4 rfl ?_
  intro T62 X62 e62
  refine gIfN X62 H d3_4 (by decide) 7 rfl ?_
  refine gAloadN X62 H d3_7 rfl rfl 8 rfl ?_
  refine gCastY X62 H hZ hown (hw _ wd18) e62 (Ins.self q63) d3_8 11 rfl ?_
  intro T64 X64 e64
  refine gAstoreN X64 H d3_11 rfl (Ls' := #[vR ro0, vR ro1, vR ro1]) rfl 12 rfl ?_
  refine gAloadN X64 H d3_12 rfl rfl 13 rfl ?_
  refine gGetF X64 H hZ hown (hw _ wd9) Via.refl e64 q65 d3_13 16 rfl ?_
  intro T66 X66 e66
  refine gAloadN X66 H d3_16 rfl rfl 17 rfl ?_
  refine gGetF X66 H hZ hown (hw _ wd9) Via.refl e66 q67 d3_17 20 rfl ?_
  intro T68 X68 e68
  refine g_lcmp X68 H d3_20 (z := (lcmpW vj2 vj3)) rfl 21 rfl ?_
  refine gIfY X68 H d3_21 ((if0 _ _).trans (feq (fun q => hk69 ((lw_eq _ _).mp q))).2) (by decide) 40 rfl ?_
  refine gIconst X68 H d3_40 (z := 0) rfl 41 rfl ?_
  exact gRetN X68 H hlk hret (t := .boolean) (by simp) d3_41 e68 ⟨rfl, rfl, rfl⟩
theorem rm76_3 (B : Bg Z a0 w_cacheJ cl_cacheJ) (ro0 : Addr) (h : Heap) (O : Ext Z.heap h) :
    Con l Z yM3 prog_64_method_4_code 3 (some .boolean) ({ frames := 0, cells := 0, slots := 0, locals := 0 } : Room) #[(.ref ro0), .null] h (fun v h' L => v = some (.int 0) ∧ h' = h ∧ L = []) := by
  refine Con.of (plainFor_of_name pn3) (Ls := #[vR ro0, vN, .unset]) (fun _ => rfl) ?_
  intro p e s m below meth c T0 X0 H hml hZ hown hnm hret hlk e0
  refine gAloadN X0 H d3_0 rfl rfl 1 rfl ?_
  refine gInstNull X0 H d3_1 4 rfl ?_
  refine gIfY X0 H d3_4 (by decide) (by decide) 40 rfl ?_
  refine gIconst X0 H d3_40 (z := 0) rfl 41 rfl ?_
  exact gRetN X0 H hlk hret (t := .boolean) (by simp) d3_41 e0 ⟨rfl, rfl, rfl⟩
theorem rm82_6 (B : Bg Z a0 w_cacheJ cl_cacheJ) (ro0 : Addr) (h : Heap) (O : Ext Z.heap h) :
    Con l Z yM6 jdk_18_method_1_code 1 none ({ frames := 1, cells := 0, slots := 0, locals := 12 } : Room) #[(.ref ro0)] h (fun v h' L => v = none ∧ h' = h ∧ L = []) := by
  have hw := B.1
  refine Con.of (plainFor_of_name pn6) (Ls := #[vR ro0]) (fun _ => rfl) ?_
  intro p e s m below meth c T0 X0 H hml hZ hown hnm hret hlk e0
  refine gAloadN X0 H d6_0 rfl rfl 1 rfl ?_
  refine gInitO X0 H hZ hown (hw _ wd37) (hw _ wd7) (hw _ wd8) e0 hml rfl (V := 0) (Nat.le_of_eq rfl) (by decide) (by decide) d6_1 4 rfl ?_
  intro T81 X81 e81
  exact gRetV X81 H hlk hret d6_4 e81 ⟨rfl, rfl, rfl⟩
theorem rm90_5 (B : Bg Z a0 w_cacheJ cl_cacheJ) (ro0 : Addr) (vj1 : Int64) (h : Heap) (O : Ext Z.heap h) (q85 : Exa Z h ro0 "java/lang/Long") (q86 : Fld Z h ro0 "java/lang/Long" "value" "J" (.long 0)) (q87 : Z.heap.size ≤ ro0) :
    Con l Z yM5 jdk_35_method_26_code 3 none ({ frames := 2, cells := 0, slots := 0, locals := 24 } : Room) #[(.ref ro0), (.long vj1)] h (fun v h' L => v = none ∧ Fr Z.heap.size L ∧ Keep h h' [ro0] ∧ Exa Z h' ro0 "java/lang/Long" ∧ Fld Z h' ro0 "java/lang/Long" "value" "J" (.long vj1)) := by
  have hw := B.1
  refine Con.of (plainFor_of_name pn5) (Ls := #[vR ro0, vJ vj1, .second]) (fun _ => rfl) ?_
  intro p e s m below meth c T0 X0 H hml hZ hown hnm hret hlk e0
  have N0 := Fr.nil Z.heap.size
  refine gAloadN X0 H d5_0 rfl rfl 1 rfl ?_
  refine gSpecial X0 H hZ hown rfl rfl (hw _ wd31) (hw _ wd32) (by decide) (hw _ wd36) (hw _ wd35) (rm82_6 B ro0 _ O) e0 hml rfl pd2 rfl (W := 0) (argsL := []) (rest := []) rfl rfl d5_1 4 rfl ?_
  intro v83 T83 L83 hq83 X83
  obtain ⟨rfl, e83, rfl⟩ := hq83
  have N83 := Fr.app N0 (Fr.nil _)
  show Go _ _ _ _ (State.setTop _ (mkF _ 4 _ []))
  refine gAloadN X83 H d5_4 rfl rfl 5 rfl ?_
  refine gLloadN X83 H d5_5 rfl 6 rfl ?_
  refine gPutF X83 H hZ hown (hw _ wd38) Via.refl e83 q86 q85 (Or.inr ⟨(hw _ wd39), rfl, hnm⟩) (hw _ wd26) (ty := .long) (by decide) (v' := (.long vj1)) rfl rfl d5_6 9 rfl ?_
  intro T84 h84 X84 e84 W84 F84
  have O84 := extW O W84 q87
  have N84 := Fr.snoc X84 N83 q87
  have c88 := (q85.wr W84)
  have K_89 := (Keep.refl h [ro0]).wr W84 (Or.inl (List.mem_of_getElem? (i := 0) rfl))
  exact gRetV X84 H hlk hret d5_9 e84 ⟨rfl, N84, K_89, c88, F84⟩
theorem boxJ (B : Bg Z a0 w_cacheJ cl_cacheJ) (vj0 : Int64) (h : Heap) (O : Ext Z.heap h) :
    Con l Z (⟨"java/lang/Long", "valueOf", "(J)Ljava/lang/Long;"⟩ : MethodName) jdk_35_method_24_code 3 (some (.object "java/lang/Long")) ({ frames := 3, cells := 1, slots := 1, locals := 39 } : Room) #[(.long vj0)] h (fun v h' L => ∃ (b : Addr), v = some (.ref b) ∧ Fr Z.heap.size L ∧ Keep h h' [] ∧ Exa Z h' b "java/lang/Long" ∧ Fld Z h' b "java/lang/Long" "value" "J" (.long vj0)) := by
  have hw := B.1
  obtain ⟨S_cacheJ, B_cacheJ⟩ := B.2
  refine Con.of (plainFor_of_name pn4) (Ls := #[vJ vj0, .second, .unset]) (fun _ => rfl) ?_
  intro p e s m below meth c T0 X0 H hml hZ hown hnm hret hlk e0
  have M0 := Nat.le_refl h.size
  have N0 := Fr.nil Z.heap.size
  refine gSipush X0 H d4_0 (z := 128) rfl 3 rfl ?_
  refine gIstoreN X0 H d4_3 (Ls' := #[vJ vj0, .second, vI 128]) rfl 4 rfl ?_
  refine gLloadN X0 H d4_4 rfl 5 rfl ?_
  refine gLdc2 X0 H hZ hown (hw _ wd24) d4_5 8 rfl ?_
  refine g_lcmp X0 H d4_8 (z := (lcmpW vj0 (-128 : Int64))) rfl 9 rfl ?_
  by_cases hc79 : vj0 < (-128 : Int64)
  · refine gIfY X0 H d4_9 ((if0 _ _).trans (tlt ((lw_lt _ _).mpr hc79)).1) (by decide) 31 rfl ?_
    refine gNew X0 H hZ hown (hw _ wd25) (hw _ wd26) (hw _ wd22) e0 (by decide) (by decide) d4_31 34 rfl ?_
    intro T80 h80 b80 X80 e80 z80 E80 A80 D80
    have G_b80 := Nat.le_trans O.1 (Nat.le_of_eq z80)
    have sz_b80 := Nat.le_trans M0 (Nat.le_of_eq z80)
    have O80 := extT O E80
    have F80_value : Fld Z h80 b80 "java/lang/Long" "value" "J" (.long 0) := D80 (Or.inr (hw _ wd39)) (ty := .long) (by decide)
    refine gDup X80 H d4_34 rfl 35 rfl ?_
    refine gLloadN X80 H d4_35 rfl 36 rfl ?_
    refine gSpecial X80 H hZ hown rfl rfl (hw _ wd27) (hw _ wd28) (by decide) (hw _ wd30) (hw _ wd22) (rm90_5 B b80 vj0 _ O80 A80 F80_value G_b80) e80 hml rfl pd3 rfl (W := 1) (argsL := [(.long vj0)]) (rest := [(.ref b80)]) rfl rfl d4_36 39 rfl ?_
    intro v91 T91 L91 hq91 X91
    obtain ⟨rfl, N91q, K91, f91_0, f91_1⟩ := hq91
    have O91 := extK O80 K91 (allS G_b80 all0)
    have N91 := Fr.app N0 N91q
    show Go _ _ _ _ (State.setTop _ (mkF _ 39 _ [(.ref b80)]))
    have K_92 := (Keep.refl h []).ext E80
    have K_93 := K_92.trans K91 (allS (Or.inr sz_b80) all0)
    exact gRetA X91 H hlk hret rfl rfl rfl d4_39 rfl ⟨b80, rfl, N91, K_93, f91_0, f91_1⟩
  · refine gIfN X0 H d4_9 ((if0 _ _).trans (flt (fun q => hc79 ((lw_lt _ _).mp q))).1) 12 rfl ?_
    refine gLloadN X0 H d4_12 rfl 13 rfl ?_
    refine gLdc2 X0 H hZ hown (hw _ wd43) d4_13 16 rfl ?_
    refine g_lcmp X0 H d4_16 (z := (lcmpW vj0 (127 : Int64))) rfl 17 rfl ?_
    by_cases hc94 : (127 : Int64) < vj0
    · refine gIfY X0 H d4_17 ((if0 _ _).trans (tlt ((lw_gt _ _).mpr hc94)).2.2.1) (by decide) 31 rfl ?_
      refine gNew X0 H hZ hown (hw _ wd25) (hw _ wd26) (hw _ wd22) e0 (by decide) (by decide) d4_31 34 rfl ?_
      intro T95 h95 b95 X95 e95 z95 E95 A95 D95
      have G_b95 := Nat.le_trans O.1 (Nat.le_of_eq z95)
      have sz_b95 := Nat.le_trans M0 (Nat.le_of_eq z95)
      have O95 := extT O E95
      have F95_value : Fld Z h95 b95 "java/lang/Long" "value" "J" (.long 0) := D95 (Or.inr (hw _ wd39)) (ty := .long) (by decide)
      refine gDup X95 H d4_34 rfl 35 rfl ?_
      refine gLloadN X95 H d4_35 rfl 36 rfl ?_
      refine gSpecial X95 H hZ hown rfl rfl (hw _ wd27) (hw _ wd28) (by decide) (hw _ wd30) (hw _ wd22) (rm90_5 B b95 vj0 _ O95 A95 F95_value G_b95) e95 hml rfl pd3 rfl (W := 1) (argsL := [(.long vj0)]) (rest := [(.ref b95)]) rfl rfl d4_36 39 rfl ?_
      intro v96 T96 L96 hq96 X96
      obtain ⟨rfl, N96q, K96, f96_0, f96_1⟩ := hq96
      have O96 := extK O95 K96 (allS G_b95 all0)
      have N96 := Fr.app N0 N96q
      show Go _ _ _ _ (State.setTop _ (mkF _ 39 _ [(.ref b95)]))
      have K_97 := (Keep.refl h []).ext E95
      have K_98 := K_97.trans K96 (allS (Or.inr sz_b95) all0)
      exact gRetA X96 H hlk hret rfl rfl rfl d4_39 rfl ⟨b95, rfl, N96, K_98, f96_0, f96_1⟩
    · refine gIfN X0 H d4_17 ((if0 _ _).trans (flt (fun q => hc94 ((lw_gt _ _).mp q))).2.2.1) 20 rfl ?_
      refine gGetS X0 H hZ hown (hw _ wd44) e0 (S_cacheJ.ext O) d4_20 23 rfl ?_
      intro T99 X99 e99
      refine gLloadN X99 H d4_23 rfl 24 rfl ?_
      refine g_l2i X99 H d4_24 (z := (vj0.toInt32)) rfl 25 rfl ?_
      refine gSipush X99 H d4_25 (z := 128) rfl 28 rfl ?_
      refine g_iadd X99 H d4_28 (z := ((vj0.toInt32) + (128 : Int32))) rfl 29 rfl ?_
      obtain ⟨b100, q100, A100, f100⟩ := B_cacheJ.2.2.2 ((vj0.toInt32) + (128 : Int32)) (box_in (boxL_r hc79 hc94).1 (boxL_r hc79 hc94).2.1 B_cacheJ.2.1)
      have F100 : Fld Z Z.heap b100 "java/lang/Long" "value" "J" (.long vj0) := by have z := f100; simp only [box_v, (boxL_r hc79 hc94).2.2] at z; exact z
      refine gBoxload X99 H hZ e99 rfl (B_cacheJ.1.ext O) (box_in (boxL_r hc79 hc94).1 (boxL_r hc79 hc94).2.1 B_cacheJ.2.1) q100 d4_29 30 rfl ?_
      exact gRetA X99 H hlk hret rfl rfl rfl d4_30 e99 ⟨b100, rfl, N0, (Keep.refl h []), (A100.ext O), (F100.ext O)⟩
theorem rm105_3 (B : Bg Z a0 w_cacheJ cl_cacheJ) (ro0 ro1 : Addr) (h : Heap) (O : Ext Z.heap h) (q104 : Exa Z h ro1 "java/lang/Long") :
    Con l Z yM3 prog_64_method_4_code 3 (some .boolean) ({ frames := 0, cells := 0, slots := 0, locals := 0 } : Room) #[(.ref ro0), (.ref ro1)] h (fun v h' L => v = some (.int 0) ∧ h' = h ∧ L = []) := by
  have hw := B.1
  refine Con.of (plainFor_of_name pn3) (Ls := #[vR ro0, vR ro1, .unset]) (fun _ => rfl) ?_
  intro p e s m below meth c T0 X0 H hml hZ hown hnm hret hlk e0
  refine gAloadN X0 H d3_0 rfl rfl 1 rfl ?_
  refine gInstNo X0 H hZ hown (hw _ wd18) e0 q104 (ns_no (hw _ wd40) (hw _ wd1) (NS.step (hw _ wd40) (NS.step (hw _ wd41) (ns_root (hw _ wd42) (hw _ wd1) (by decide)) (by decide)) (by decide)) (by decide)) d3_1 4 rfl ?_
  intro T103 X103 e103
  refine gIfY X103 H d3_4 (by decide) (by decide) 40 rfl ?_
  refine gIconst X103 H d3_40 (z := 0) rfl 41 rfl ?_
  exact gRetN X103 H hlk hret (t := .boolean) (by simp) d3_41 e103 ⟨rfl, rfl, rfl⟩
theorem rm117_3 (B : Bg Z a0 w_cacheJ cl_cacheJ) (ro0 : Addr) (vj1 vj2 : Int64) (h : Heap) (O : Ext Z.heap h) (q109 : Exa Z h ro0 cs0) (q111 : Fld Z h ro0 cs0 "offset" "J" (.long vj1)) (q114 : Fld Z h ro0 cs0 "timestamp" "J" (.long vj2)) :
    Con l Z yM3 prog_64_method_4_code 3 (some .boolean) ({ frames := 0, cells := 0, slots := 0, locals := 0 } : Room) #[(.ref ro0), (.ref ro0)] h (fun v h' L => v = some (.int 1) ∧ h' = h ∧ L = []) := by
  have hw := B.1
  refine Con.of (plainFor_of_name pn3) (Ls := #[vR ro0, vR ro0, .unset]) (fun _ => rfl) ?_
  intro p e s m below meth c T0 X0 H hml hZ hown hnm hret hlk e0
  refine gAloadN X0 H d3_0 rfl rfl 1 rfl ?_
  refine gInstY X0 H hZ hown (hw _ wd18) e0 (Ins.self q109) d3_1 4 rfl ?_
  intro T108 X108 e108
  refine gIfN X108 H d3_4 (by decide) 7 rfl ?_
  refine gAloadN X108 H d3_7 rfl rfl 8 rfl ?_
  refine gCastY X108 H hZ hown (hw _ wd18) e108 (Ins.self q109) d3_8 11 rfl ?_
  intro T110 X110 e110
  refine gAstoreN X110 H d3_11 rfl (Ls' := #[vR ro0, vR ro0, vR ro0]) rfl 12 rfl ?_
  refine gAloadN X110 H d3_12 rfl rfl 13 rfl ?_
  refine gGetF X110 H hZ hown (hw _ wd9) Via.refl e110 q111 d3_13 16 rfl ?_
  intro T112 X112 e112
  refine gAloadN X112 H d3_16 rfl rfl 17 rfl ?_
  refine gGetF X112 H hZ hown (hw _ wd9) Via.refl e112 q111 d3_17 20 rfl ?_
  intro T113 X113 e113
  refine g_lcmp X113 H d3_20 (z := (lcmpW vj1 vj1)) rfl 21 rfl ?_
  refine gIfN X113 H d3_21 ((if0 _ _).trans (teq ((lw_eq _ _).mpr rfl)).2) 24 rfl ?_
  refine gAloadN X113 H d3_24 rfl rfl 25 rfl ?_
  refine gGetF X113 H hZ hown (hw _ wd11) Via.refl e113 q114 d3_25 28 rfl ?_
  intro T115 X115 e115
  refine gAloadN X115 H d3_28 rfl rfl 29 rfl ?_
  refine gGetF X115 H hZ hown (hw _ wd11) Via.refl e115 q114 d3_29 32 rfl ?_
  intro T116 X116 e116
  refine g_lcmp X116 H d3_32 (z := (lcmpW vj2 vj2)) rfl 33 rfl ?_
  refine gIfN X116 H d3_33 ((if0 _ _).trans (teq ((lw_eq _ _).mpr rfl)).2) 36 rfl ?_
  refine gIconst X116 H d3_36 (z := 1) rfl 37 rfl ?_
  refine gGoto X116 H d3_37 (by decide) 41 rfl ?_
  exact gRetN X116 H hlk hret (t := .boolean) (by simp) d3_41 e116 ⟨rfl, rfl, rfl⟩
theorem rm141_3 (B : Bg Z a0 w_cacheJ cl_cacheJ) (ro0 ro1 : Addr) (vj2 vj3 vj4 : Int64) (h : Heap) (O : Ext Z.heap h) (q130 : Exa Z h ro1 cs0) (q132 : Fld Z h ro0 cs0 "offset" "J" (.long vj2)) (q134 : Fld Z h ro1 cs0 "offset" "J" (.long vj3)) (q137 : Fld Z h ro0 cs0 "timestamp" "J" (.long vj4)) (q139 : Fld Z h ro1 cs0 "timestamp" "J" (.long vj4)) (hk136 : vj2 = vj3) :
    Con l Z yM3 prog_64_method_4_code 3 (some .boolean) ({ frames := 0, cells := 0, slots := 0, locals := 0 } : Room) #[(.ref ro0), (.ref ro1)] h (fun v h' L => v = some (.int 1) ∧ h' = h ∧ L = []) := by
  have hw := B.1
  refine Con.of (plainFor_of_name pn3) (Ls := #[vR ro0, vR ro1, .unset]) (fun _ => rfl) ?_
  intro p e s m below meth c T0 X0 H hml hZ hown hnm hret hlk e0
  refine gAloadN X0 H d3_0 rfl rfl 1 rfl ?_
  refine gInstY X0 H hZ hown (hw _ wd18) e0 (Ins.self q130) d3_1 4 rfl ?_
  intro T129 X129 e129
  refine gIfN X129 H d3_4 (by decide) 7 rfl ?_
  refine gAloadN X129 H d3_7 rfl rfl 8 rfl ?_
  refine gCastY X129 H hZ hown (hw _ wd18) e129 (Ins.self q130) d3_8 11 rfl ?_
  intro T131 X131 e131
  refine gAstoreN X131 H d3_11 rfl (Ls' := #[vR ro0, vR ro1, vR ro1]) rfl 12 rfl ?_
  refine gAloadN X131 H d3_12 rfl rfl 13 rfl ?_
  refine gGetF X131 H hZ hown (hw _ wd9) Via.refl e131 q132 d3_13 16 rfl ?_
  intro T133 X133 e133
  refine gAloadN X133 H d3_16 rfl rfl 17 rfl ?_
  refine gGetF X133 H hZ hown (hw _ wd9) Via.refl e133 q134 d3_17 20 rfl ?_
  intro T135 X135 e135
  refine g_lcmp X135 H d3_20 (z := (lcmpW vj2 vj3)) rfl 21 rfl ?_
  refine gIfN X135 H d3_21 ((if0 _ _).trans (teq ((lw_eq _ _).mpr hk136)).2) 24 rfl ?_
  refine gAloadN X135 H d3_24 rfl rfl 25 rfl ?_
  refine gGetF X135 H hZ hown (hw _ wd11) Via.refl e135 q137 d3_25 28 rfl ?_
  intro T138 X138 e138
  refine gAloadN X138 H d3_28 rfl rfl 29 rfl ?_
  refine gGetF X138 H hZ hown (hw _ wd11) Via.refl e138 q139 d3_29 32 rfl ?_
  intro T140 X140 e140
  refine g_lcmp X140 H d3_32 (z := (lcmpW vj4 vj4)) rfl 33 rfl ?_
  refine gIfN X140 H d3_33 ((if0 _ _).trans (teq ((lw_eq _ _).mpr rfl)).2) 36 rfl ?_
  refine gIconst X140 H d3_36 (z := 1) rfl 37 rfl ?_
  refine gGoto X140 H d3_37 (by decide) 41 rfl ?_
  exact gRetN X140 H hlk hret (t := .boolean) (by simp) d3_41 e140 ⟨rfl, rfl, rfl⟩
theorem rm180_3 (B : Bg Z a0 w_cacheJ cl_cacheJ) (ro0 ro1 : Addr) (vj2 vj3 vj4 : Int64) (h : Heap) (O : Ext Z.heap h) (q169 : Exa Z h ro1 cs0) (q171 : Fld Z h ro0 cs0 "offset" "J" (.long vj2)) (q173 : Fld Z h ro1 cs0 "offset" "J" (.long vj2)) (q175 : Fld Z h ro0 cs0 "timestamp" "J" (.long vj3)) (q177 : Fld Z h ro1 cs0 "timestamp" "J" (.long vj4)) (hk179 : vj3 = vj4) :
    Con l Z yM3 prog_64_method_4_code 3 (some .boolean) ({ frames := 0, cells := 0, slots := 0, locals := 0 } : Room) #[(.ref ro0), (.ref ro1)] h (fun v h' L => v = some (.int 1) ∧ h' = h ∧ L = []) := by
  have hw := B.1
  refine Con.of (plainFor_of_name pn3) (Ls := #[vR ro0, vR ro1, .unset]) (fun _ => rfl) ?_
  intro p e s m below meth c T0 X0 H hml hZ hown hnm hret hlk e0
  refine gAloadN X0 H d3_0 rfl rfl 1 rfl ?_
  refine gInstY X0 H hZ hown (hw _ wd18) e0 (Ins.self q169) d3_1 4 rfl ?_
  intro T168 X168 e168
  refine gIfN X168 H d3_4 (by decide) 7 rfl ?_
  refine gAloadN X168 H d3_7 rfl rfl 8 rfl ?_
  refine gCastY X168 H hZ hown (hw _ wd18) e168 (Ins.self q169) d3_8 11 rfl ?_
  intro T170 X170 e170
  refine gAstoreN X170 H d3_11 rfl (Ls' := #[vR ro0, vR ro1, vR ro1]) rfl 12 rfl ?_
  refine gAloadN X170 H d3_12 rfl rfl 13 rfl ?_
  refine gGetF X170 H hZ hown (hw _ wd9) Via.refl e170 q171 d3_13 16 rfl ?_
  intro T172 X172 e172
  refine gAloadN X172 H d3_16 rfl rfl 17 rfl ?_
  refine gGetF X172 H hZ hown (hw _ wd9) Via.refl e172 q173 d3_17 20 rfl ?_
  intro T174 X174 e174
  refine g_lcmp X174 H d3_20 (z := (lcmpW vj2 vj2)) rfl 21 rfl ?_
  refine gIfN X174 H d3_21 ((if0 _ _).trans (teq ((lw_eq _ _).mpr rfl)).2) 24 rfl ?_
  refine gAloadN X174 H d3_24 rfl rfl 25 rfl ?_
  refine gGetF X174 H hZ hown (hw _ wd11) Via.refl e174 q175 d3_25 28 rfl ?_
  intro T176 X176 e176
  refine gAloadN X176 H d3_28 rfl rfl 29 rfl ?_
  refine gGetF X176 H hZ hown (hw _ wd11) Via.refl e176 q177 d3_29 32 rfl ?_
  intro T178 X178 e178
  refine g_lcmp X178 H d3_32 (z := (lcmpW vj3 vj4)) rfl 33 rfl ?_
  refine gIfN X178 H d3_33 ((if0 _ _).trans (teq ((lw_eq _ _).mpr hk179)).2) 36 rfl ?_
  refine gIconst X178 H d3_36 (z := 1) rfl 37 rfl ?_
  refine gGoto X178 H d3_37 (by decide) 41 rfl ?_
  exact gRetN X178 H hlk hret (t := .boolean) (by simp) d3_41 e178 ⟨rfl, rfl, rfl⟩
theorem rm197_3 (B : Bg Z a0 w_cacheJ cl_cacheJ) (ro0 ro1 : Addr) (vj2 vj3 vj4 : Int64) (h : Heap) (O : Ext Z.heap h) (q186 : Exa Z h ro1 cs0) (q188 : Fld Z h ro0 cs0 "offset" "J" (.long vj2)) (q190 : Fld Z h ro1 cs0 "offset" "J" (.long vj2)) (q192 : Fld Z h ro0 cs0 "timestamp" "J" (.long vj3)) (q194 : Fld Z h ro1 cs0 "timestamp" "J" (.long vj4)) (hk196 : ¬ (vj3 = vj4)) :
    Con l Z yM3 prog_64_method_4_code 3 (some .boolean) ({ frames := 0, cells := 0, slots := 0, locals := 0 } : Room) #[(.ref ro0), (.ref ro1)] h (fun v h' L => v = some (.int 0) ∧ h' = h ∧ L = []) := by
  have hw := B.1
  refine Con.of (plainFor_of_name pn3) (Ls := #[vR ro0, vR ro1, .unset]) (fun _ => rfl) ?_
  intro p e s m below meth c T0 X0 H hml hZ hown hnm hret hlk e0
  refine gAloadN X0 H d3_0 rfl rfl 1 rfl ?_
  refine gInstY X0 H hZ hown (hw _ wd18) e0 (Ins.self q186) d3_1 4 rfl ?_
  intro T185 X185 e185
  refine gIfN X185 H d3_4 (by decide) 7 rfl ?_
  refine gAloadN X185 H d3_7 rfl rfl 8 rfl ?_
  refine gCastY X185 H hZ hown (hw _ wd18) e185 (Ins.self q186) d3_8 11 rfl ?_
  intro T187 X187 e187
  refine gAstoreN X187 H d3_11 rfl (Ls' := #[vR ro0, vR ro1, vR ro1]) rfl 12 rfl ?_
  refine gAloadN X187 H d3_12 rfl rfl 13 rfl ?_
  refine gGetF X187 H hZ hown (hw _ wd9) Via.refl e187 q188 d3_13 16 rfl ?_
  intro T189 X189 e189
  refine gAloadN X189 H d3_16 rfl rfl 17 rfl ?_
  refine gGetF X189 H hZ hown (hw _ wd9) Via.refl e189 q190 d3_17 20 rfl ?_
  intro T191 X191 e191
  refine g_lcmp X191 H d3_20 (z := (lcmpW vj2 vj2)) rfl 21 rfl ?_
  refine gIfN X191 H d3_21 ((if0 _ _).trans (teq ((lw_eq _ _).mpr rfl)).2) 24 rfl ?_
  refine gAloadN X191 H d3_24 rfl rfl 25 rfl ?_
  refine gGetF X191 H hZ hown (hw _ wd11) Via.refl e191 q192 d3_25 28 rfl ?_
  intro T193 X193 e193
  refine gAloadN X193 H d3_28 rfl rfl 29 rfl ?_
  refine gGetF X193 H hZ hown (hw _ wd11) Via.refl e193 q194 d3_29 32 rfl ?_
  intro T195 X195 e195
  refine g_lcmp X195 H d3_32 (z := (lcmpW vj3 vj4)) rfl 33 rfl ?_
  refine gIfY X195 H d3_33 ((if0 _ _).trans (feq (fun q => hk196 ((lw_eq _ _).mp q))).2) (by decide) 40 rfl ?_
  refine gIconst X195 H d3_40 (z := 0) rfl 41 rfl ?_
  exact gRetN X195 H hlk hret (t := .boolean) (by simp) d3_41 e195 ⟨rfl, rfl, rfl⟩
theorem rm230_3 (B : Bg Z a0 w_cacheJ cl_cacheJ) (ro0 ro1 : Addr) (vj2 vj3 : Int64) (h : Heap) (O : Ext Z.heap h) (q220 : Exa Z h ro1 cs0) (q222 : Fld Z h ro0 cs0 "offset" "J" (.long vj2)) (q224 : Fld Z h ro1 cs0 "offset" "J" (.long vj2)) (q226 : Fld Z h ro0 cs0 "timestamp" "J" (.long vj3)) (q228 : Fld Z h ro1 cs0 "timestamp" "J" (.long vj3)) :
    Con l Z yM3 prog_64_method_4_code 3 (some .boolean) ({ frames := 0, cells := 0, slots := 0, locals := 0 } : Room) #[(.ref ro0), (.ref ro1)] h (fun v h' L => v = some (.int 1) ∧ h' = h ∧ L = []) := by
  have hw := B.1
  refine Con.of (plainFor_of_name pn3) (Ls := #[vR ro0, vR ro1, .unset]) (fun _ => rfl) ?_
  intro p e s m below meth c T0 X0 H hml hZ hown hnm hret hlk e0
  refine gAloadN X0 H d3_0 rfl rfl 1 rfl ?_
  refine gInstY X0 H hZ hown (hw _ wd18) e0 (Ins.self q220) d3_1 4 rfl ?_
  intro T219 X219 e219
  refine gIfN X219 H d3_4 (by decide) 7 rfl ?_
  refine gAloadN X219 H d3_7 rfl rfl 8 rfl ?_
  refine gCastY X219 H hZ hown (hw _ wd18) e219 (Ins.self q220) d3_8 11 rfl ?_
  intro T221 X221 e221
  refine gAstoreN X221 H d3_11 rfl (Ls' := #[vR ro0, vR ro1, vR ro1]) rfl 12 rfl ?_
  refine gAloadN X221 H d3_12 rfl rfl 13 rfl ?_
  refine gGetF X221 H hZ hown (hw _ wd9) Via.refl e221 q222 d3_13 16 rfl ?_
  intro T223 X223 e223
  refine gAloadN X223 H d3_16 rfl rfl 17 rfl ?_
  refine gGetF X223 H hZ hown (hw _ wd9) Via.refl e223 q224 d3_17 20 rfl ?_
  intro T225 X225 e225
  refine g_lcmp X225 H d3_20 (z := (lcmpW vj2 vj2)) rfl 21 rfl ?_
  refine gIfN X225 H d3_21 ((if0 _ _).trans (teq ((lw_eq _ _).mpr rfl)).2) 24 rfl ?_
  refine gAloadN X225 H d3_24 rfl rfl 25 rfl ?_
  refine gGetF X225 H hZ hown (hw _ wd11) Via.refl e225 q226 d3_25 28 rfl ?_
  intro T227 X227 e227
  refine gAloadN X227 H d3_28 rfl rfl 29 rfl ?_
  refine gGetF X227 H hZ hown (hw _ wd11) Via.refl e227 q228 d3_29 32 rfl ?_
  intro T229 X229 e229
  refine g_lcmp X229 H d3_32 (z := (lcmpW vj3 vj3)) rfl 33 rfl ?_
  refine gIfN X229 H d3_33 ((if0 _ _).trans (teq ((lw_eq _ _).mpr rfl)).2) 36 rfl ?_
  refine gIconst X229 H d3_36 (z := 1) rfl 37 rfl ?_
  refine gGoto X229 H d3_37 (by decide) 41 rfl ?_
  exact gRetN X229 H hlk hret (t := .boolean) (by simp) d3_41 e229 ⟨rfl, rfl, rfl⟩
theorem lawAll (B : Bg Z a0 w_cacheJ cl_cacheJ) (p0 : Int64) (p1 : Int64) (p2 : Int64) (p3 : Int64) (p4 : Int32) :
    Con l Z x code maxLocals ret room_1 #[(.long p0), (.long p1), (.long p2), (.long p3), (.int p4)] Z.heap (fun v h' L => v = some (.int 1) ∧ Fr Z.heap.size L) := by
  have hw := B.1
  obtain ⟨S_cacheJ, B_cacheJ⟩ := B.2
  refine Con.of (plainFor_of_name pn0) (Ls := #[vJ p0, .second, vJ p1, .second, vJ p2, .second, vJ p3, .second, vI p4, .unset, .unset, .unset, .unset, .unset, .unset, .unset, .unset, .unset, .unset, .unset]) (fun _ => by first | (simp [entryFrame, mkF, argsToLocals, Value.category, maxLocals]; done) | rfl) ?_
  intro p e s m below meth c T0 X0 H hml hZ hown hnm hret hlk e0
  have O0 := extR Z.heap
  have M0 := Nat.le_refl Z.heap.size
  have N0 := Fr.nil Z.heap.size
  refine gIload X0 H at_0 rfl 2 rfl ?_
  refine gIconst X0 H at_2 (z := 1) rfl 3 rfl ?_
  refine g_iand X0 H at_3 (z := (p4 &&& (1 : Int32))) rfl 4 rfl ?_
  by_cases hc1 : (p4 &&& (1 : Int32)) = (0 : Int32)
  · refine gIfY X0 H at_4 ((if0 _ _).trans (teq hc1).1) (by decide) 11 rfl ?_
    refine gIconst X0 H at_11 (z := 0) rfl 12 rfl ?_
    refine gIstore X0 H at_12 (Ls' := #[vJ p0, .second, vJ p1, .second, vJ p2, .second, vJ p3, .second, vI p4, vI 0, .unset, .unset, .unset, .unset, .unset, .unset, .unset, .unset, .unset, .unset]) rfl 14 rfl ?_
    refine gIload X0 H at_14 rfl 16 rfl ?_
    refine gIconst X0 H at_16 (z := 2) rfl 17 rfl ?_
    refine g_iand X0 H at_17 (z := (p4 &&& (2 : Int32))) rfl 18 rfl ?_
    by_cases hc2 : (p4 &&& (2 : Int32)) = (0 : Int32)
    · refine gIfY X0 H at_18 ((if0 _ _).trans (teq hc2).1) (by decide) 25 rfl ?_
      refine gIconst X0 H at_25 (z := 0) rfl 26 rfl ?_
      refine gIstore X0 H at_26 (Ls' := #[vJ p0, .second, vJ p1, .second, vJ p2, .second, vJ p3, .second, vI p4, vI 0, vI 0, .unset, .unset, .unset, .unset, .unset, .unset, .unset, .unset, .unset]) rfl 28 rfl ?_
      refine gIload X0 H at_28 rfl 30 rfl ?_
      refine gIfY X0 H at_30 (by decide) (by decide) 37 rfl ?_
      refine gLload X0 H at_37 rfl 39 rfl ?_
      refine gLstore X0 H at_39 (Ls' := #[vJ p0, .second, vJ p1, .second, vJ p2, .second, vJ p3, .second, vI p4, vI 0, vI 0, vJ p2, .second, .unset, .unset, .unset, .unset, .unset, .unset, .unset]) rfl 41 rfl ?_
      refine gIload X0 H at_41 rfl 43 rfl ?_
      refine gIfY X0 H at_43 (by decide) (by decide) 50 rfl ?_
      refine gLload X0 H at_50 rfl 52 rfl ?_
      refine gLstore X0 H at_52 (Ls' := #[vJ p0, .second, vJ p1, .second, vJ p2, .second, vJ p3, .second, vI p4, vI 0, vI 0, vJ p2, .second, vJ p3, .second, .unset, .unset, .unset, .unset, .unset]) rfl 54 rfl ?_
      refine gIload X0 H at_54 rfl 56 rfl ?_
      refine gIconst X0 H at_56 (z := 2) rfl 57 rfl ?_
      refine g_iushr X0 H at_57 (z := ((p4.toUInt32 >>> ((2 : Int32) &&& 31).toUInt32).toInt32)) rfl 58 rfl ?_
      refine gIconst X0 H at_58 (z := 3) rfl 59 rfl ?_
      refine g_iand X0 H at_59 (z := (((p4.toUInt32 >>> ((2 : Int32) &&& 31).toUInt32).toInt32) &&& (3 : Int32))) rfl 60 rfl ?_
      refine gIstore X0 H at_60 (Ls' := #[vJ p0, .second, vJ p1, .second, vJ p2, .second, vJ p3, .second, vI p4, vI 0, vI 0, vJ p2, .second, vJ p3, .second, vI (((p4.toUInt32 >>> ((2 : Int32) &&& 31).toUInt32).toInt32) &&& (3 : Int32)), .unset, .unset, .unset, .unset]) rfl 62 rfl ?_
      refine gNew X0 H hZ hown (hw _ wd0) (hw _ wd1) (hw _ wd2) e0 (by decide) (by decide) at_62 65 rfl ?_
      intro T3 h3 b3 X3 e3 z3 E3 A3 D3
      have G_b3 := Nat.le_trans O0.1 (Nat.le_of_eq z3)
      have sz_b3 := Nat.le_trans M0 (Nat.le_of_eq z3)
      have O3 := extT O0 E3
      have F3_offset : Fld Z h3 b3 cs0 "offset" "J" (.long 0) := D3 (Or.inr (hw _ wd10)) (ty := .long) (by decide)
      have F3_timestamp : Fld Z h3 b3 cs0 "timestamp" "J" (.long 0) := D3 (Or.inr (hw _ wd12)) (ty := .long) (by decide)
      refine gDup X3 H at_65 rfl 66 rfl ?_
      refine gLloadN X3 H at_66 rfl 67 rfl ?_
      refine gLloadN X3 H at_67 rfl 68 rfl ?_
      refine gSpecial X3 H hZ hown rfl rfl (hw _ wd3) (hw _ wd4) (by decide) (hw _ wd5) (hw _ wd2) (rm17_1 B b3 p0 p1 _ O3 A3 F3_offset G_b3 F3_timestamp) e3 hml rfl pd0 rfl (W := 1) (argsL := [(.long p0), (.long p1)]) (rest := [(.ref b3)]) rfl rfl at_68 71 rfl ?_
      intro v18 T18 L18 hq18 X18
      obtain ⟨rfl, N18q, K18, f18_0, f18_1, f18_2⟩ := hq18
      have O18 := extK O3 K18 (allS G_b3 all0)
      have N18 := Fr.app N0 N18q
      show Go _ _ _ _ (State.setTop _ (mkF _ 71 _ [(.ref b3)]))
      refine gAstore X18 H at_71 rfl (Ls' := #[vJ p0, .second, vJ p1, .second, vJ p2, .second, vJ p3, .second, vI p4, vI 0, vI 0, vJ p2, .second, vJ p3, .second, vI (((p4.toUInt32 >>> ((2 : Int32) &&& 31).toUInt32).toInt32) &&& (3 : Int32)), vR b3, .unset, .unset, .unset]) rfl 73 rfl ?_
      refine gNew X18 H hZ hown (hw _ wd0) (hw _ wd1) (hw _ wd2) rfl (by decide) (by decide) at_73 76 rfl ?_
      intro T19 h19 b19 X19 e19 z19 E19 A19 D19
      have M20 := (Nat.le_trans (Nat.le_trans M0 E3.1) K18.1)
      have G_b19 := Nat.le_trans O18.1 (Nat.le_of_eq z19)
      have sz_b19 := Nat.le_trans M20 (Nat.le_of_eq z19)
      have ne_b3_b19 : b3 ≠ b19 := neB f18_0.lt (Nat.le_of_eq z19)
      have O19 := extT O18 E19
      have F19_offset : Fld Z h19 b19 cs0 "offset" "J" (.long 0) := D19 (Or.inr (hw _ wd10)) (ty := .long) (by decide)
      have F19_timestamp : Fld Z h19 b19 cs0 "timestamp" "J" (.long 0) := D19 (Or.inr (hw _ wd12)) (ty := .long) (by decide)
      refine gDup X19 H at_76 rfl 77 rfl ?_
      refine gLload X19 H at_77 rfl 79 rfl ?_
      refine gLload X19 H at_79 rfl 81 rfl ?_
      refine gSpecial X19 H hZ hown rfl rfl (hw _ wd3) (hw _ wd4) (by decide) (hw _ wd5) (hw _ wd2) (rm17_1 B b19 p2 p3 _ O19 A19 F19_offset G_b19 F19_timestamp) e19 hml rfl pd0 rfl (W := 1) (argsL := [(.long p2), (.long p3)]) (rest := [(.ref b19)]) rfl rfl at_81 84 rfl ?_
      intro v21 T21 L21 hq21 X21
      obtain ⟨rfl, N21q, K21, f21_0, f21_1, f21_2⟩ := hq21
      have O21 := extK O19 K21 (allS G_b19 all0)
      have N21 := Fr.app N18 N21q
      show Go _ _ _ _ (State.setTop _ (mkF _ 84 _ [(.ref b19)]))
      refine gAstore X21 H at_84 rfl (Ls' := #[vJ p0, .second, vJ p1, .second, vJ p2, .second, vJ p3, .second, vI p4, vI 0, vI 0, vJ p2, .second, vJ p3, .second, vI (((p4.toUInt32 >>> ((2 : Int32) &&& 31).toUInt32).toInt32) &&& (3 : Int32)), vR b3, vR b19, .unset, .unset]) rfl 86 rfl ?_
      refine gIload X21 H at_86 rfl 88 rfl ?_
      by_cases hc22 : (((p4.toUInt32 >>> ((2 : Int32) &&& 31).toUInt32).toInt32) &&& (3 : Int32)) = (0 : Int32)
      · refine gIfN X21 H at_88 ((if0 _ _).trans (teq hc22).2) 91 rfl ?_
        refine gAload X21 H at_91 rfl rfl 93 rfl ?_
        refine gAstore X21 H at_93 rfl (Ls' := #[vJ p0, .second, vJ p1, .second, vJ p2, .second, vJ p3, .second, vI p4, vI 0, vI 0, vJ p2, .second, vJ p3, .second, vI (((p4.toUInt32 >>> ((2 : Int32) &&& 31).toUInt32).toInt32) &&& (3 : Int32)), vR b3, vR b19, vR b19, .unset]) rfl 95 rfl ?_
        refine gLload X21 H at_95 rfl 97 rfl ?_
        refine gLloadN X21 H at_97 rfl 98 rfl ?_
        refine g_lcmp X21 H at_98 (z := (lcmpW p2 p0)) rfl 99 rfl ?_
        by_cases hc23 : p2 = p0
        · refine gIfN X21 H at_99 ((if0 _ _).trans (teq ((lw_eq _ _).mpr hc23)).2) 102 rfl ?_
          refine gLload X21 H at_102 rfl 104 rfl ?_
          refine gLloadN X21 H at_104 rfl 105 rfl ?_
          refine g_lcmp X21 H at_105 (z := (lcmpW p3 p1)) rfl 106 rfl ?_
          by_cases hc24 : p3 = p1
          · refine gIfN X21 H at_106 ((if0 _ _).trans (teq ((lw_eq _ _).mpr hc24)).2) 109 rfl ?_
            refine gIconst X21 H at_109 (z := 1) rfl 110 rfl ?_
            refine gGoto X21 H at_110 (by decide) 114 rfl ?_
            refine gIstore X21 H at_114 (Ls' := #[vJ p0, .second, vJ p1, .second, vJ p2, .second, vJ p3, .second, vI p4, vI 0, vI 0, vJ p2, .second, vJ p3, .second, vI (((p4.toUInt32 >>> ((2 : Int32) &&& 31).toUInt32).toInt32) &&& (3 : Int32)), vR b3, vR b19, vR b19, vI 1]) rfl 116 rfl ?_
            refine gGoto X21 H at_116 (by decide) 159 rfl ?_
            refine gAload X21 H at_159 rfl rfl 161 rfl ?_
            refine gAload X21 H at_161 rfl rfl 163 rfl ?_
            have c25 := ((f18_0.ext E19).keep K21)
            have c40 := ((f18_1.ext E19).keep K21 (ninS ne_b3_b19 nin0))
            have c41 := ((f18_2.ext E19).keep K21 (ninS ne_b3_b19 nin0))
            refine gVirt X21 H hZ hown (hw _ wd13) (hw _ wd14) (hw _ wd16) (hw _ wd15) (by decide) c25 (hw _ wd17) (hw _ wd2) (rm39_3 B b3 b19 p0 p2 p1 p3 _ O21 f21_0 c40 f21_1 c41 f21_2 (Eq.symm hc23) (Eq.symm hc24)) rfl hml rfl pd1 rfl (W := 0) (argsL := [(.ref b19)]) (rest := []) rfl rfl at_163 166 rfl ?_
            intro v42 T42 L42 hq42 X42
            obtain ⟨rfl, e42, rfl⟩ := hq42
            have N42 := Fr.app N21 (Fr.nil _)
            show Go _ _ _ _ (State.setTop _ (mkF _ 166 _ [(.int 1)]))
            refine gIload X42 H at_166 rfl 168 rfl ?_
            refine gCmpN X42 H at_168 (by decide) 171 rfl ?_
            refine gIconst X42 H at_171 (z := 1) rfl 172 rfl ?_
            refine gGoto X42 H at_172 (by decide) 176 rfl ?_
            exact gRetN X42 H hlk hret (t := .boolean) (by simp) at_176 e42 ⟨rfl, N42⟩
          · refine gIfY X21 H at_106 ((if0 _ _).trans (feq (fun q => hc24 ((lw_eq _ _).mp q))).2) (by decide) 113 rfl ?_
            refine gIconst X21 H at_113 (z := 0) rfl 114 rfl ?_
            refine gIstore X21 H at_114 (Ls' := #[vJ p0, .second, vJ p1, .second, vJ p2, .second, vJ p3, .second, vI p4, vI 0, vI 0, vJ p2, .second, vJ p3, .second, vI (((p4.toUInt32 >>> ((2 : Int32) &&& 31).toUInt32).toInt32) &&& (3 : Int32)), vR b3, vR b19, vR b19, vI 0]) rfl 116 rfl ?_
            refine gGoto X21 H at_116 (by decide) 159 rfl ?_
            refine gAload X21 H at_159 rfl rfl 161 rfl ?_
            refine gAload X21 H at_161 rfl rfl 163 rfl ?_
            have c43 := ((f18_0.ext E19).keep K21)
            have c58 := ((f18_1.ext E19).keep K21 (ninS ne_b3_b19 nin0))
            have c59 := ((f18_2.ext E19).keep K21 (ninS ne_b3_b19 nin0))
            refine gVirt X21 H hZ hown (hw _ wd13) (hw _ wd14) (hw _ wd16) (hw _ wd15) (by decide) c43 (hw _ wd17) (hw _ wd2) (rm57_3 B b3 b19 p0 p2 p1 p3 _ O21 f21_0 c58 f21_1 c59 f21_2 (Eq.symm hc23) (Ne.symm hc24)) rfl hml rfl pd1 rfl (W := 0) (argsL := [(.ref b19)]) (rest := []) rfl rfl at_163 166 rfl ?_
            intro v60 T60 L60 hq60 X60
            obtain ⟨rfl, e60, rfl⟩ := hq60
            have N60 := Fr.app N21 (Fr.nil _)
            show Go _ _ _ _ (State.setTop _ (mkF _ 166 _ [(.int 0)]))
            refine gIload X60 H at_166 rfl 168 rfl ?_
            refine gCmpN X60 H at_168 (by decide) 171 rfl ?_
            refine gIconst X60 H at_171 (z := 1) rfl 172 rfl ?_
            refine gGoto X60 H at_172 (by decide) 176 rfl ?_
            exact gRetN X60 H hlk hret (t := .boolean) (by simp) at_176 e60 ⟨rfl, N60⟩
        · refine gIfY X21 H at_99 ((if0 _ _).trans (feq (fun q => hc23 ((lw_eq _ _).mp q))).2) (by decide) 113 rfl ?_
          refine gIconst X21 H at_113 (z := 0) rfl 114 rfl ?_
          refine gIstore X21 H at_114 (Ls' := #[vJ p0, .second, vJ p1, .second, vJ p2, .second, vJ p3, .second, vI p4, vI 0, vI 0, vJ p2, .second, vJ p3, .second, vI (((p4.toUInt32 >>> ((2 : Int32) &&& 31).toUInt32).toInt32) &&& (3 : Int32)), vR b3, vR b19, vR b19, vI 0]) rfl 116 rfl ?_
          refine gGoto X21 H at_116 (by decide) 159 rfl ?_
          refine gAload X21 H at_159 rfl rfl 161 rfl ?_
          refine gAload X21 H at_161 rfl rfl 163 rfl ?_
          have c61 := ((f18_0.ext E19).keep K21)
          have c71 := ((f18_1.ext E19).keep K21 (ninS ne_b3_b19 nin0))
          refine gVirt X21 H hZ hown (hw _ wd13) (hw _ wd14) (hw _ wd16) (hw _ wd15) (by decide) c61 (hw _ wd17) (hw _ wd2) (rm70_3 B b3 b19 p0 p2 _ O21 f21_0 c71 f21_1 (Ne.symm hc23)) rfl hml rfl pd1 rfl (W := 0) (argsL := [(.ref b19)]) (rest := []) rfl rfl at_163 166 rfl ?_
          intro v72 T72 L72 hq72 X72
          obtain ⟨rfl, e72, rfl⟩ := hq72
          have N72 := Fr.app N21 (Fr.nil _)
          show Go _ _ _ _ (State.setTop _ (mkF _ 166 _ [(.int 0)]))
          refine gIload X72 H at_166 rfl 168 rfl ?_
          refine gCmpN X72 H at_168 (by decide) 171 rfl ?_
          refine gIconst X72 H at_171 (z := 1) rfl 172 rfl ?_
          refine gGoto X72 H at_172 (by decide) 176 rfl ?_
          exact gRetN X72 H hlk hret (t := .boolean) (by simp) at_176 e72 ⟨rfl, N72⟩
      · refine gIfY X21 H at_88 ((if0 _ _).trans (feq hc22).2) (by decide) 119 rfl ?_
        refine gIload X21 H at_119 rfl 121 rfl ?_
        refine gIconst X21 H at_121 (z := 1) rfl 122 rfl ?_
        by_cases hc73 : (((p4.toUInt32 >>> ((2 : Int32) &&& 31).toUInt32).toInt32) &&& (3 : Int32)) = (1 : Int32)
        · refine gCmpN X21 H at_122 (teq hc73).2 125 rfl ?_
          refine gNull X21 H at_125 126 rfl ?_
          refine gAstore X21 H at_126 rfl (Ls' := #[vJ p0, .second, vJ p1, .second, vJ p2, .second, vJ p3, .second, vI p4, vI 0, vI 0, vJ p2, .second, vJ p3, .second, vI (((p4.toUInt32 >>> ((2 : Int32) &&& 31).toUInt32).toInt32) &&& (3 : Int32)), vR b3, vR b19, vN, .unset]) rfl 128 rfl ?_
          refine gIconst X21 H at_128 (z := 0) rfl 129 rfl ?_
          refine gIstore X21 H at_129 (Ls' := #[vJ p0, .second, vJ p1, .second, vJ p2, .second, vJ p3, .second, vI p4, vI 0, vI 0, vJ p2, .second, vJ p3, .second, vI (((p4.toUInt32 >>> ((2 : Int32) &&& 31).toUInt32).toInt32) &&& (3 : Int32)), vR b3, vR b19, vN, vI 0]) rfl 131 rfl ?_
          refine gGoto X21 H at_131 (by decide) 159 rfl ?_
          refine gAload X21 H at_159 rfl rfl 161 rfl ?_
          refine gAload X21 H at_161 rfl rfl 163 rfl ?_
          have c74 := ((f18_0.ext E19).keep K21)
          refine gVirt X21 H hZ hown (hw _ wd13) (hw _ wd14) (hw _ wd16) (hw _ wd15) (by decide) c74 (hw _ wd17) (hw _ wd2) (rm76_3 B b3 _ O21) rfl hml rfl pd1 rfl (W := 0) (argsL := [.null]) (rest := []) rfl rfl at_163 166 rfl ?_
          intro v77 T77 L77 hq77 X77
          obtain ⟨rfl, e77, rfl⟩ := hq77
          have N77 := Fr.app N21 (Fr.nil _)
          show Go _ _ _ _ (State.setTop _ (mkF _ 166 _ [(.int 0)]))
          refine gIload X77 H at_166 rfl 168 rfl ?_
          refine gCmpN X77 H at_168 (by decide) 171 rfl ?_
          refine gIconst X77 H at_171 (z := 1) rfl 172 rfl ?_
          refine gGoto X77 H at_172 (by decide) 176 rfl ?_
          exact gRetN X77 H hlk hret (t := .boolean) (by simp) at_176 e77 ⟨rfl, N77⟩
        · refine gCmpY X21 H at_122 (feq hc73).2 (by decide) 134 rfl ?_
          refine gIload X21 H at_134 rfl 136 rfl ?_
          refine gIconst X21 H at_136 (z := 2) rfl 137 rfl ?_
          by_cases hc78 : (((p4.toUInt32 >>> ((2 : Int32) &&& 31).toUInt32).toInt32) &&& (3 : Int32)) = (2 : Int32)
          · refine gCmpN X21 H at_137 (teq hc78).2 140 rfl ?_
            refine gLloadN X21 H at_140 rfl 141 rfl ?_
            refine gStatic X21 H hZ hown (hw _ wd20) (hw _ wd21) (by decide) (hw _ wd23) (hw _ wd22) (boxJ B p0 _ O21) rfl hml rfl pd4 rfl (W := 0) (argsL := [(.long p0)]) (rest := []) rfl rfl at_141 144 rfl ?_
            intro v101 T101 L101 hq101 X101
            obtain ⟨b101, rfl, N101q, K101, f101_0, f101_1⟩ := hq101
            have O101 := extK O21 K101 all0
            have N101 := Fr.app N21 N101q
            show Go _ _ _ _ (State.setTop _ (mkF _ 144 _ [(.ref b101)]))
            refine gAstore X101 H at_144 rfl (Ls' := #[vJ p0, .second, vJ p1, .second, vJ p2, .second, vJ p3, .second, vI p4, vI 0, vI 0, vJ p2, .second, vJ p3, .second, vI (((p4.toUInt32 >>> ((2 : Int32) &&& 31).toUInt32).toInt32) &&& (3 : Int32)), vR b3, vR b19, vR b101, .unset]) rfl 146 rfl ?_
            refine gIconst X101 H at_146 (z := 0) rfl 147 rfl ?_
            refine gIstore X101 H at_147 (Ls' := #[vJ p0, .second, vJ p1, .second, vJ p2, .second, vJ p3, .second, vI p4, vI 0, vI 0, vJ p2, .second, vJ p3, .second, vI (((p4.toUInt32 >>> ((2 : Int32) &&& 31).toUInt32).toInt32) &&& (3 : Int32)), vR b3, vR b19, vR b101, vI 0]) rfl 149 rfl ?_
            refine gGoto X101 H at_149 (by decide) 159 rfl ?_
            refine gAload X101 H at_159 rfl rfl 161 rfl ?_
            refine gAload X101 H at_161 rfl rfl 163 rfl ?_
            have c102 := (((f18_0.ext E19).keep K21).keep K101)
            refine gVirt X101 H hZ hown (hw _ wd13) (hw _ wd14) (hw _ wd16) (hw _ wd15) (by decide) c102 (hw _ wd17) (hw _ wd2) (rm105_3 B b3 b101 _ O101 f101_0) rfl hml rfl pd1 rfl (W := 0) (argsL := [(.ref b101)]) (rest := []) rfl rfl at_163 166 rfl ?_
            intro v106 T106 L106 hq106 X106
            obtain ⟨rfl, e106, rfl⟩ := hq106
            have N106 := Fr.app N101 (Fr.nil _)
            show Go _ _ _ _ (State.setTop _ (mkF _ 166 _ [(.int 0)]))
            refine gIload X106 H at_166 rfl 168 rfl ?_
            refine gCmpN X106 H at_168 (by decide) 171 rfl ?_
            refine gIconst X106 H at_171 (z := 1) rfl 172 rfl ?_
            refine gGoto X106 H at_172 (by decide) 176 rfl ?_
            exact gRetN X106 H hlk hret (t := .boolean) (by simp) at_176 e106 ⟨rfl, N106⟩
          · refine gCmpY X21 H at_137 (feq hc78).2 (by decide) 152 rfl ?_
            refine gAload X21 H at_152 rfl rfl 154 rfl ?_
            refine gAstore X21 H at_154 rfl (Ls' := #[vJ p0, .second, vJ p1, .second, vJ p2, .second, vJ p3, .second, vI p4, vI 0, vI 0, vJ p2, .second, vJ p3, .second, vI (((p4.toUInt32 >>> ((2 : Int32) &&& 31).toUInt32).toInt32) &&& (3 : Int32)), vR b3, vR b19, vR b3, .unset]) rfl 156 rfl ?_
            refine gIconst X21 H at_156 (z := 1) rfl 157 rfl ?_
            refine gIstore X21 H at_157 (Ls' := #[vJ p0, .second, vJ p1, .second, vJ p2, .second, vJ p3, .second, vI p4, vI 0, vI 0, vJ p2, .second, vJ p3, .second, vI (((p4.toUInt32 >>> ((2 : Int32) &&& 31).toUInt32).toInt32) &&& (3 : Int32)), vR b3, vR b19, vR b3, vI 1]) rfl 159 rfl ?_
            refine gAload X21 H at_159 rfl rfl 161 rfl ?_
            refine gAload X21 H at_161 rfl rfl 163 rfl ?_
            have c107 := ((f18_0.ext E19).keep K21)
            have c118 := ((f18_1.ext E19).keep K21 (ninS ne_b3_b19 nin0))
            have c119 := ((f18_2.ext E19).keep K21 (ninS ne_b3_b19 nin0))
            refine gVirt X21 H hZ hown (hw _ wd13) (hw _ wd14) (hw _ wd16) (hw _ wd15) (by decide) c107 (hw _ wd17) (hw _ wd2) (rm117_3 B b3 p0 p1 _ O21 c107 c118 c119) rfl hml rfl pd1 rfl (W := 0) (argsL := [(.ref b3)]) (rest := []) rfl rfl at_163 166 rfl ?_
            intro v120 T120 L120 hq120 X120
            obtain ⟨rfl, e120, rfl⟩ := hq120
            have N120 := Fr.app N21 (Fr.nil _)
            show Go _ _ _ _ (State.setTop _ (mkF _ 166 _ [(.int 1)]))
            refine gIload X120 H at_166 rfl 168 rfl ?_
            refine gCmpN X120 H at_168 (by decide) 171 rfl ?_
            refine gIconst X120 H at_171 (z := 1) rfl 172 rfl ?_
            refine gGoto X120 H at_172 (by decide) 176 rfl ?_
            exact gRetN X120 H hlk hret (t := .boolean) (by simp) at_176 e120 ⟨rfl, N120⟩
    · refine gIfN X0 H at_18 ((if0 _ _).trans (feq hc2).1) 21 rfl ?_
      refine gIconst X0 H at_21 (z := 1) rfl 22 rfl ?_
      refine gGoto X0 H at_22 (by decide) 26 rfl ?_
      refine gIstore X0 H at_26 (Ls' := #[vJ p0, .second, vJ p1, .second, vJ p2, .second, vJ p3, .second, vI p4, vI 0, vI 1, .unset, .unset, .unset, .unset, .unset, .unset, .unset, .unset, .unset]) rfl 28 rfl ?_
      refine gIload X0 H at_28 rfl 30 rfl ?_
      refine gIfY X0 H at_30 (by decide) (by decide) 37 rfl ?_
      refine gLload X0 H at_37 rfl 39 rfl ?_
      refine gLstore X0 H at_39 (Ls' := #[vJ p0, .second, vJ p1, .second, vJ p2, .second, vJ p3, .second, vI p4, vI 0, vI 1, vJ p2, .second, .unset, .unset, .unset, .unset, .unset, .unset, .unset]) rfl 41 rfl ?_
      refine gIload X0 H at_41 rfl 43 rfl ?_
      refine gIfN X0 H at_43 (by decide) 46 rfl ?_
      refine gLloadN X0 H at_46 rfl 47 rfl ?_
      refine gGoto X0 H at_47 (by decide) 52 rfl ?_
      refine gLstore X0 H at_52 (Ls' := #[vJ p0, .second, vJ p1, .second, vJ p2, .second, vJ p3, .second, vI p4, vI 0, vI 1, vJ p2, .second, vJ p1, .second, .unset, .unset, .unset, .unset, .unset]) rfl 54 rfl ?_
      refine gIload X0 H at_54 rfl 56 rfl ?_
      refine gIconst X0 H at_56 (z := 2) rfl 57 rfl ?_
      refine g_iushr X0 H at_57 (z := ((p4.toUInt32 >>> ((2 : Int32) &&& 31).toUInt32).toInt32)) rfl 58 rfl ?_
      refine gIconst X0 H at_58 (z := 3) rfl 59 rfl ?_
      refine g_iand X0 H at_59 (z := (((p4.toUInt32 >>> ((2 : Int32) &&& 31).toUInt32).toInt32) &&& (3 : Int32))) rfl 60 rfl ?_
      refine gIstore X0 H at_60 (Ls' := #[vJ p0, .second, vJ p1, .second, vJ p2, .second, vJ p3, .second, vI p4, vI 0, vI 1, vJ p2, .second, vJ p1, .second, vI (((p4.toUInt32 >>> ((2 : Int32) &&& 31).toUInt32).toInt32) &&& (3 : Int32)), .unset, .unset, .unset, .unset]) rfl 62 rfl ?_
      refine gNew X0 H hZ hown (hw _ wd0) (hw _ wd1) (hw _ wd2) e0 (by decide) (by decide) at_62 65 rfl ?_
      intro T121 h121 b121 X121 e121 z121 E121 A121 D121
      have G_b121 := Nat.le_trans O0.1 (Nat.le_of_eq z121)
      have sz_b121 := Nat.le_trans M0 (Nat.le_of_eq z121)
      have O121 := extT O0 E121
      have F121_offset : Fld Z h121 b121 cs0 "offset" "J" (.long 0) := D121 (Or.inr (hw _ wd10)) (ty := .long) (by decide)
      have F121_timestamp : Fld Z h121 b121 cs0 "timestamp" "J" (.long 0) := D121 (Or.inr (hw _ wd12)) (ty := .long) (by decide)
      refine gDup X121 H at_65 rfl 66 rfl ?_
      refine gLloadN X121 H at_66 rfl 67 rfl ?_
      refine gLloadN X121 H at_67 rfl 68 rfl ?_
      refine gSpecial X121 H hZ hown rfl rfl (hw _ wd3) (hw _ wd4) (by decide) (hw _ wd5) (hw _ wd2) (rm17_1 B b121 p0 p1 _ O121 A121 F121_offset G_b121 F121_timestamp) e121 hml rfl pd0 rfl (W := 1) (argsL := [(.long p0), (.long p1)]) (rest := [(.ref b121)]) rfl rfl at_68 71 rfl ?_
      intro v122 T122 L122 hq122 X122
      obtain ⟨rfl, N122q, K122, f122_0, f122_1, f122_2⟩ := hq122
      have O122 := extK O121 K122 (allS G_b121 all0)
      have N122 := Fr.app N0 N122q
      show Go _ _ _ _ (State.setTop _ (mkF _ 71 _ [(.ref b121)]))
      refine gAstore X122 H at_71 rfl (Ls' := #[vJ p0, .second, vJ p1, .second, vJ p2, .second, vJ p3, .second, vI p4, vI 0, vI 1, vJ p2, .second, vJ p1, .second, vI (((p4.toUInt32 >>> ((2 : Int32) &&& 31).toUInt32).toInt32) &&& (3 : Int32)), vR b121, .unset, .unset, .unset]) rfl 73 rfl ?_
      refine gNew X122 H hZ hown (hw _ wd0) (hw _ wd1) (hw _ wd2) rfl (by decide) (by decide) at_73 76 rfl ?_
      intro T123 h123 b123 X123 e123 z123 E123 A123 D123
      have M124 := (Nat.le_trans (Nat.le_trans M0 E121.1) K122.1)
      have G_b123 := Nat.le_trans O122.1 (Nat.le_of_eq z123)
      have sz_b123 := Nat.le_trans M124 (Nat.le_of_eq z123)
      have ne_b121_b123 : b121 ≠ b123 := neB f122_0.lt (Nat.le_of_eq z123)
      have O123 := extT O122 E123
      have F123_offset : Fld Z h123 b123 cs0 "offset" "J" (.long 0) := D123 (Or.inr (hw _ wd10)) (ty := .long) (by decide)
      have F123_timestamp : Fld Z h123 b123 cs0 "timestamp" "J" (.long 0) := D123 (Or.inr (hw _ wd12)) (ty := .long) (by decide)
      refine gDup X123 H at_76 rfl 77 rfl ?_
      refine gLload X123 H at_77 rfl 79 rfl ?_
      refine gLload X123 H at_79 rfl 81 rfl ?_
      refine gSpecial X123 H hZ hown rfl rfl (hw _ wd3) (hw _ wd4) (by decide) (hw _ wd5) (hw _ wd2) (rm17_1 B b123 p2 p1 _ O123 A123 F123_offset G_b123 F123_timestamp) e123 hml rfl pd0 rfl (W := 1) (argsL := [(.long p2), (.long p1)]) (rest := [(.ref b123)]) rfl rfl at_81 84 rfl ?_
      intro v125 T125 L125 hq125 X125
      obtain ⟨rfl, N125q, K125, f125_0, f125_1, f125_2⟩ := hq125
      have O125 := extK O123 K125 (allS G_b123 all0)
      have N125 := Fr.app N122 N125q
      show Go _ _ _ _ (State.setTop _ (mkF _ 84 _ [(.ref b123)]))
      refine gAstore X125 H at_84 rfl (Ls' := #[vJ p0, .second, vJ p1, .second, vJ p2, .second, vJ p3, .second, vI p4, vI 0, vI 1, vJ p2, .second, vJ p1, .second, vI (((p4.toUInt32 >>> ((2 : Int32) &&& 31).toUInt32).toInt32) &&& (3 : Int32)), vR b121, vR b123, .unset, .unset]) rfl 86 rfl ?_
      refine gIload X125 H at_86 rfl 88 rfl ?_
      by_cases hc126 : (((p4.toUInt32 >>> ((2 : Int32) &&& 31).toUInt32).toInt32) &&& (3 : Int32)) = (0 : Int32)
      · refine gIfN X125 H at_88 ((if0 _ _).trans (teq hc126).2) 91 rfl ?_
        refine gAload X125 H at_91 rfl rfl 93 rfl ?_
        refine gAstore X125 H at_93 rfl (Ls' := #[vJ p0, .second, vJ p1, .second, vJ p2, .second, vJ p3, .second, vI p4, vI 0, vI 1, vJ p2, .second, vJ p1, .second, vI (((p4.toUInt32 >>> ((2 : Int32) &&& 31).toUInt32).toInt32) &&& (3 : Int32)), vR b121, vR b123, vR b123, .unset]) rfl 95 rfl ?_
        refine gLload X125 H at_95 rfl 97 rfl ?_
        refine gLloadN X125 H at_97 rfl 98 rfl ?_
        refine g_lcmp X125 H at_98 (z := (lcmpW p2 p0)) rfl 99 rfl ?_
        by_cases hc127 : p2 = p0
        · refine gIfN X125 H at_99 ((if0 _ _).trans (teq ((lw_eq _ _).mpr hc127)).2) 102 rfl ?_
          refine gLload X125 H at_102 rfl 104 rfl ?_
          refine gLloadN X125 H at_104 rfl 105 rfl ?_
          refine g_lcmp X125 H at_105 (z := (lcmpW p1 p1)) rfl 106 rfl ?_
          refine gIfN X125 H at_106 ((if0 _ _).trans (teq ((lw_eq _ _).mpr rfl)).2) 109 rfl ?_
          refine gIconst X125 H at_109 (z := 1) rfl 110 rfl ?_
          refine gGoto X125 H at_110 (by decide) 114 rfl ?_
          refine gIstore X125 H at_114 (Ls' := #[vJ p0, .second, vJ p1, .second, vJ p2, .second, vJ p3, .second, vI p4, vI 0, vI 1, vJ p2, .second, vJ p1, .second, vI (((p4.toUInt32 >>> ((2 : Int32) &&& 31).toUInt32).toInt32) &&& (3 : Int32)), vR b121, vR b123, vR b123, vI 1]) rfl 116 rfl ?_
          refine gGoto X125 H at_116 (by decide) 159 rfl ?_
          refine gAload X125 H at_159 rfl rfl 161 rfl ?_
          refine gAload X125 H at_161 rfl rfl 163 rfl ?_
          have c128 := ((f122_0.ext E123).keep K125)
          have c142 := ((f122_1.ext E123).keep K125 (ninS ne_b121_b123 nin0))
          have c143 := ((f122_2.ext E123).keep K125 (ninS ne_b121_b123 nin0))
          refine gVirt X125 H hZ hown (hw _ wd13) (hw _ wd14) (hw _ wd16) (hw _ wd15) (by decide) c128 (hw _ wd17) (hw _ wd2) (rm141_3 B b121 b123 p0 p2 p1 _ O125 f125_0 c142 f125_1 c143 f125_2 (Eq.symm hc127)) rfl hml rfl pd1 rfl (W := 0) (argsL := [(.ref b123)]) (rest := []) rfl rfl at_163 166 rfl ?_
          intro v144 T144 L144 hq144 X144
          obtain ⟨rfl, e144, rfl⟩ := hq144
          have N144 := Fr.app N125 (Fr.nil _)
          show Go _ _ _ _ (State.setTop _ (mkF _ 166 _ [(.int 1)]))
          refine gIload X144 H at_166 rfl 168 rfl ?_
          refine gCmpN X144 H at_168 (by decide) 171 rfl ?_
          refine gIconst X144 H at_171 (z := 1) rfl 172 rfl ?_
          refine gGoto X144 H at_172 (by decide) 176 rfl ?_
          exact gRetN X144 H hlk hret (t := .boolean) (by simp) at_176 e144 ⟨rfl, N144⟩
        · refine gIfY X125 H at_99 ((if0 _ _).trans (feq (fun q => hc127 ((lw_eq _ _).mp q))).2) (by decide) 113 rfl ?_
          refine gIconst X125 H at_113 (z := 0) rfl 114 rfl ?_
          refine gIstore X125 H at_114 (Ls' := #[vJ p0, .second, vJ p1, .second, vJ p2, .second, vJ p3, .second, vI p4, vI 0, vI 1, vJ p2, .second, vJ p1, .second, vI (((p4.toUInt32 >>> ((2 : Int32) &&& 31).toUInt32).toInt32) &&& (3 : Int32)), vR b121, vR b123, vR b123, vI 0]) rfl 116 rfl ?_
          refine gGoto X125 H at_116 (by decide) 159 rfl ?_
          refine gAload X125 H at_159 rfl rfl 161 rfl ?_
          refine gAload X125 H at_161 rfl rfl 163 rfl ?_
          have c145 := ((f122_0.ext E123).keep K125)
          have c146 := ((f122_1.ext E123).keep K125 (ninS ne_b121_b123 nin0))
          refine gVirt X125 H hZ hown (hw _ wd13) (hw _ wd14) (hw _ wd16) (hw _ wd15) (by decide) c145 (hw _ wd17) (hw _ wd2) (rm70_3 B b121 b123 p0 p2 _ O125 f125_0 c146 f125_1 (Ne.symm hc127)) rfl hml rfl pd1 rfl (W := 0) (argsL := [(.ref b123)]) (rest := []) rfl rfl at_163 166 rfl ?_
          intro v147 T147 L147 hq147 X147
          obtain ⟨rfl, e147, rfl⟩ := hq147
          have N147 := Fr.app N125 (Fr.nil _)
          show Go _ _ _ _ (State.setTop _ (mkF _ 166 _ [(.int 0)]))
          refine gIload X147 H at_166 rfl 168 rfl ?_
          refine gCmpN X147 H at_168 (by decide) 171 rfl ?_
          refine gIconst X147 H at_171 (z := 1) rfl 172 rfl ?_
          refine gGoto X147 H at_172 (by decide) 176 rfl ?_
          exact gRetN X147 H hlk hret (t := .boolean) (by simp) at_176 e147 ⟨rfl, N147⟩
      · refine gIfY X125 H at_88 ((if0 _ _).trans (feq hc126).2) (by decide) 119 rfl ?_
        refine gIload X125 H at_119 rfl 121 rfl ?_
        refine gIconst X125 H at_121 (z := 1) rfl 122 rfl ?_
        by_cases hc148 : (((p4.toUInt32 >>> ((2 : Int32) &&& 31).toUInt32).toInt32) &&& (3 : Int32)) = (1 : Int32)
        · refine gCmpN X125 H at_122 (teq hc148).2 125 rfl ?_
          refine gNull X125 H at_125 126 rfl ?_
          refine gAstore X125 H at_126 rfl (Ls' := #[vJ p0, .second, vJ p1, .second, vJ p2, .second, vJ p3, .second, vI p4, vI 0, vI 1, vJ p2, .second, vJ p1, .second, vI (((p4.toUInt32 >>> ((2 : Int32) &&& 31).toUInt32).toInt32) &&& (3 : Int32)), vR b121, vR b123, vN, .unset]) rfl 128 rfl ?_
          refine gIconst X125 H at_128 (z := 0) rfl 129 rfl ?_
          refine gIstore X125 H at_129 (Ls' := #[vJ p0, .second, vJ p1, .second, vJ p2, .second, vJ p3, .second, vI p4, vI 0, vI 1, vJ p2, .second, vJ p1, .second, vI (((p4.toUInt32 >>> ((2 : Int32) &&& 31).toUInt32).toInt32) &&& (3 : Int32)), vR b121, vR b123, vN, vI 0]) rfl 131 rfl ?_
          refine gGoto X125 H at_131 (by decide) 159 rfl ?_
          refine gAload X125 H at_159 rfl rfl 161 rfl ?_
          refine gAload X125 H at_161 rfl rfl 163 rfl ?_
          have c149 := ((f122_0.ext E123).keep K125)
          refine gVirt X125 H hZ hown (hw _ wd13) (hw _ wd14) (hw _ wd16) (hw _ wd15) (by decide) c149 (hw _ wd17) (hw _ wd2) (rm76_3 B b121 _ O125) rfl hml rfl pd1 rfl (W := 0) (argsL := [.null]) (rest := []) rfl rfl at_163 166 rfl ?_
          intro v150 T150 L150 hq150 X150
          obtain ⟨rfl, e150, rfl⟩ := hq150
          have N150 := Fr.app N125 (Fr.nil _)
          show Go _ _ _ _ (State.setTop _ (mkF _ 166 _ [(.int 0)]))
          refine gIload X150 H at_166 rfl 168 rfl ?_
          refine gCmpN X150 H at_168 (by decide) 171 rfl ?_
          refine gIconst X150 H at_171 (z := 1) rfl 172 rfl ?_
          refine gGoto X150 H at_172 (by decide) 176 rfl ?_
          exact gRetN X150 H hlk hret (t := .boolean) (by simp) at_176 e150 ⟨rfl, N150⟩
        · refine gCmpY X125 H at_122 (feq hc148).2 (by decide) 134 rfl ?_
          refine gIload X125 H at_134 rfl 136 rfl ?_
          refine gIconst X125 H at_136 (z := 2) rfl 137 rfl ?_
          by_cases hc151 : (((p4.toUInt32 >>> ((2 : Int32) &&& 31).toUInt32).toInt32) &&& (3 : Int32)) = (2 : Int32)
          · refine gCmpN X125 H at_137 (teq hc151).2 140 rfl ?_
            refine gLloadN X125 H at_140 rfl 141 rfl ?_
            refine gStatic X125 H hZ hown (hw _ wd20) (hw _ wd21) (by decide) (hw _ wd23) (hw _ wd22) (boxJ B p0 _ O125) rfl hml rfl pd4 rfl (W := 0) (argsL := [(.long p0)]) (rest := []) rfl rfl at_141 144 rfl ?_
            intro v152 T152 L152 hq152 X152
            obtain ⟨b152, rfl, N152q, K152, f152_0, f152_1⟩ := hq152
            have O152 := extK O125 K152 all0
            have N152 := Fr.app N125 N152q
            show Go _ _ _ _ (State.setTop _ (mkF _ 144 _ [(.ref b152)]))
            refine gAstore X152 H at_144 rfl (Ls' := #[vJ p0, .second, vJ p1, .second, vJ p2, .second, vJ p3, .second, vI p4, vI 0, vI 1, vJ p2, .second, vJ p1, .second, vI (((p4.toUInt32 >>> ((2 : Int32) &&& 31).toUInt32).toInt32) &&& (3 : Int32)), vR b121, vR b123, vR b152, .unset]) rfl 146 rfl ?_
            refine gIconst X152 H at_146 (z := 0) rfl 147 rfl ?_
            refine gIstore X152 H at_147 (Ls' := #[vJ p0, .second, vJ p1, .second, vJ p2, .second, vJ p3, .second, vI p4, vI 0, vI 1, vJ p2, .second, vJ p1, .second, vI (((p4.toUInt32 >>> ((2 : Int32) &&& 31).toUInt32).toInt32) &&& (3 : Int32)), vR b121, vR b123, vR b152, vI 0]) rfl 149 rfl ?_
            refine gGoto X152 H at_149 (by decide) 159 rfl ?_
            refine gAload X152 H at_159 rfl rfl 161 rfl ?_
            refine gAload X152 H at_161 rfl rfl 163 rfl ?_
            have c153 := (((f122_0.ext E123).keep K125).keep K152)
            refine gVirt X152 H hZ hown (hw _ wd13) (hw _ wd14) (hw _ wd16) (hw _ wd15) (by decide) c153 (hw _ wd17) (hw _ wd2) (rm105_3 B b121 b152 _ O152 f152_0) rfl hml rfl pd1 rfl (W := 0) (argsL := [(.ref b152)]) (rest := []) rfl rfl at_163 166 rfl ?_
            intro v154 T154 L154 hq154 X154
            obtain ⟨rfl, e154, rfl⟩ := hq154
            have N154 := Fr.app N152 (Fr.nil _)
            show Go _ _ _ _ (State.setTop _ (mkF _ 166 _ [(.int 0)]))
            refine gIload X154 H at_166 rfl 168 rfl ?_
            refine gCmpN X154 H at_168 (by decide) 171 rfl ?_
            refine gIconst X154 H at_171 (z := 1) rfl 172 rfl ?_
            refine gGoto X154 H at_172 (by decide) 176 rfl ?_
            exact gRetN X154 H hlk hret (t := .boolean) (by simp) at_176 e154 ⟨rfl, N154⟩
          · refine gCmpY X125 H at_137 (feq hc151).2 (by decide) 152 rfl ?_
            refine gAload X125 H at_152 rfl rfl 154 rfl ?_
            refine gAstore X125 H at_154 rfl (Ls' := #[vJ p0, .second, vJ p1, .second, vJ p2, .second, vJ p3, .second, vI p4, vI 0, vI 1, vJ p2, .second, vJ p1, .second, vI (((p4.toUInt32 >>> ((2 : Int32) &&& 31).toUInt32).toInt32) &&& (3 : Int32)), vR b121, vR b123, vR b121, .unset]) rfl 156 rfl ?_
            refine gIconst X125 H at_156 (z := 1) rfl 157 rfl ?_
            refine gIstore X125 H at_157 (Ls' := #[vJ p0, .second, vJ p1, .second, vJ p2, .second, vJ p3, .second, vI p4, vI 0, vI 1, vJ p2, .second, vJ p1, .second, vI (((p4.toUInt32 >>> ((2 : Int32) &&& 31).toUInt32).toInt32) &&& (3 : Int32)), vR b121, vR b123, vR b121, vI 1]) rfl 159 rfl ?_
            refine gAload X125 H at_159 rfl rfl 161 rfl ?_
            refine gAload X125 H at_161 rfl rfl 163 rfl ?_
            have c155 := ((f122_0.ext E123).keep K125)
            have c156 := ((f122_1.ext E123).keep K125 (ninS ne_b121_b123 nin0))
            have c157 := ((f122_2.ext E123).keep K125 (ninS ne_b121_b123 nin0))
            refine gVirt X125 H hZ hown (hw _ wd13) (hw _ wd14) (hw _ wd16) (hw _ wd15) (by decide) c155 (hw _ wd17) (hw _ wd2) (rm117_3 B b121 p0 p1 _ O125 c155 c156 c157) rfl hml rfl pd1 rfl (W := 0) (argsL := [(.ref b121)]) (rest := []) rfl rfl at_163 166 rfl ?_
            intro v158 T158 L158 hq158 X158
            obtain ⟨rfl, e158, rfl⟩ := hq158
            have N158 := Fr.app N125 (Fr.nil _)
            show Go _ _ _ _ (State.setTop _ (mkF _ 166 _ [(.int 1)]))
            refine gIload X158 H at_166 rfl 168 rfl ?_
            refine gCmpN X158 H at_168 (by decide) 171 rfl ?_
            refine gIconst X158 H at_171 (z := 1) rfl 172 rfl ?_
            refine gGoto X158 H at_172 (by decide) 176 rfl ?_
            exact gRetN X158 H hlk hret (t := .boolean) (by simp) at_176 e158 ⟨rfl, N158⟩
  · refine gIfN X0 H at_4 ((if0 _ _).trans (feq hc1).1) 7 rfl ?_
    refine gIconst X0 H at_7 (z := 1) rfl 8 rfl ?_
    refine gGoto X0 H at_8 (by decide) 12 rfl ?_
    refine gIstore X0 H at_12 (Ls' := #[vJ p0, .second, vJ p1, .second, vJ p2, .second, vJ p3, .second, vI p4, vI 1, .unset, .unset, .unset, .unset, .unset, .unset, .unset, .unset, .unset, .unset]) rfl 14 rfl ?_
    refine gIload X0 H at_14 rfl 16 rfl ?_
    refine gIconst X0 H at_16 (z := 2) rfl 17 rfl ?_
    refine g_iand X0 H at_17 (z := (p4 &&& (2 : Int32))) rfl 18 rfl ?_
    by_cases hc159 : (p4 &&& (2 : Int32)) = (0 : Int32)
    · refine gIfY X0 H at_18 ((if0 _ _).trans (teq hc159).1) (by decide) 25 rfl ?_
      refine gIconst X0 H at_25 (z := 0) rfl 26 rfl ?_
      refine gIstore X0 H at_26 (Ls' := #[vJ p0, .second, vJ p1, .second, vJ p2, .second, vJ p3, .second, vI p4, vI 1, vI 0, .unset, .unset, .unset, .unset, .unset, .unset, .unset, .unset, .unset]) rfl 28 rfl ?_
      refine gIload X0 H at_28 rfl 30 rfl ?_
      refine gIfN X0 H at_30 (by decide) 33 rfl ?_
      refine gLloadN X0 H at_33 rfl 34 rfl ?_
      refine gGoto X0 H at_34 (by decide) 39 rfl ?_
      refine gLstore X0 H at_39 (Ls' := #[vJ p0, .second, vJ p1, .second, vJ p2, .second, vJ p3, .second, vI p4, vI 1, vI 0, vJ p0, .second, .unset, .unset, .unset, .unset, .unset, .unset, .unset]) rfl 41 rfl ?_
      refine gIload X0 H at_41 rfl 43 rfl ?_
      refine gIfY X0 H at_43 (by decide) (by decide) 50 rfl ?_
      refine gLload X0 H at_50 rfl 52 rfl ?_
      refine gLstore X0 H at_52 (Ls' := #[vJ p0, .second, vJ p1, .second, vJ p2, .second, vJ p3, .second, vI p4, vI 1, vI 0, vJ p0, .second, vJ p3, .second, .unset, .unset, .unset, .unset, .unset]) rfl 54 rfl ?_
      refine gIload X0 H at_54 rfl 56 rfl ?_
      refine gIconst X0 H at_56 (z := 2) rfl 57 rfl ?_
      refine g_iushr X0 H at_57 (z := ((p4.toUInt32 >>> ((2 : Int32) &&& 31).toUInt32).toInt32)) rfl 58 rfl ?_
      refine gIconst X0 H at_58 (z := 3) rfl 59 rfl ?_
      refine g_iand X0 H at_59 (z := (((p4.toUInt32 >>> ((2 : Int32) &&& 31).toUInt32).toInt32) &&& (3 : Int32))) rfl 60 rfl ?_
      refine gIstore X0 H at_60 (Ls' := #[vJ p0, .second, vJ p1, .second, vJ p2, .second, vJ p3, .second, vI p4, vI 1, vI 0, vJ p0, .second, vJ p3, .second, vI (((p4.toUInt32 >>> ((2 : Int32) &&& 31).toUInt32).toInt32) &&& (3 : Int32)), .unset, .unset, .unset, .unset]) rfl 62 rfl ?_
      refine gNew X0 H hZ hown (hw _ wd0) (hw _ wd1) (hw _ wd2) e0 (by decide) (by decide) at_62 65 rfl ?_
      intro T160 h160 b160 X160 e160 z160 E160 A160 D160
      have G_b160 := Nat.le_trans O0.1 (Nat.le_of_eq z160)
      have sz_b160 := Nat.le_trans M0 (Nat.le_of_eq z160)
      have O160 := extT O0 E160
      have F160_offset : Fld Z h160 b160 cs0 "offset" "J" (.long 0) := D160 (Or.inr (hw _ wd10)) (ty := .long) (by decide)
      have F160_timestamp : Fld Z h160 b160 cs0 "timestamp" "J" (.long 0) := D160 (Or.inr (hw _ wd12)) (ty := .long) (by decide)
      refine gDup X160 H at_65 rfl 66 rfl ?_
      refine gLloadN X160 H at_66 rfl 67 rfl ?_
      refine gLloadN X160 H at_67 rfl 68 rfl ?_
      refine gSpecial X160 H hZ hown rfl rfl (hw _ wd3) (hw _ wd4) (by decide) (hw _ wd5) (hw _ wd2) (rm17_1 B b160 p0 p1 _ O160 A160 F160_offset G_b160 F160_timestamp) e160 hml rfl pd0 rfl (W := 1) (argsL := [(.long p0), (.long p1)]) (rest := [(.ref b160)]) rfl rfl at_68 71 rfl ?_
      intro v161 T161 L161 hq161 X161
      obtain ⟨rfl, N161q, K161, f161_0, f161_1, f161_2⟩ := hq161
      have O161 := extK O160 K161 (allS G_b160 all0)
      have N161 := Fr.app N0 N161q
      show Go _ _ _ _ (State.setTop _ (mkF _ 71 _ [(.ref b160)]))
      refine gAstore X161 H at_71 rfl (Ls' := #[vJ p0, .second, vJ p1, .second, vJ p2, .second, vJ p3, .second, vI p4, vI 1, vI 0, vJ p0, .second, vJ p3, .second, vI (((p4.toUInt32 >>> ((2 : Int32) &&& 31).toUInt32).toInt32) &&& (3 : Int32)), vR b160, .unset, .unset, .unset]) rfl 73 rfl ?_
      refine gNew X161 H hZ hown (hw _ wd0) (hw _ wd1) (hw _ wd2) rfl (by decide) (by decide) at_73 76 rfl ?_
      intro T162 h162 b162 X162 e162 z162 E162 A162 D162
      have M163 := (Nat.le_trans (Nat.le_trans M0 E160.1) K161.1)
      have G_b162 := Nat.le_trans O161.1 (Nat.le_of_eq z162)
      have sz_b162 := Nat.le_trans M163 (Nat.le_of_eq z162)
      have ne_b160_b162 : b160 ≠ b162 := neB f161_0.lt (Nat.le_of_eq z162)
      have O162 := extT O161 E162
      have F162_offset : Fld Z h162 b162 cs0 "offset" "J" (.long 0) := D162 (Or.inr (hw _ wd10)) (ty := .long) (by decide)
      have F162_timestamp : Fld Z h162 b162 cs0 "timestamp" "J" (.long 0) := D162 (Or.inr (hw _ wd12)) (ty := .long) (by decide)
      refine gDup X162 H at_76 rfl 77 rfl ?_
      refine gLload X162 H at_77 rfl 79 rfl ?_
      refine gLload X162 H at_79 rfl 81 rfl ?_
      refine gSpecial X162 H hZ hown rfl rfl (hw _ wd3) (hw _ wd4) (by decide) (hw _ wd5) (hw _ wd2) (rm17_1 B b162 p0 p3 _ O162 A162 F162_offset G_b162 F162_timestamp) e162 hml rfl pd0 rfl (W := 1) (argsL := [(.long p0), (.long p3)]) (rest := [(.ref b162)]) rfl rfl at_81 84 rfl ?_
      intro v164 T164 L164 hq164 X164
      obtain ⟨rfl, N164q, K164, f164_0, f164_1, f164_2⟩ := hq164
      have O164 := extK O162 K164 (allS G_b162 all0)
      have N164 := Fr.app N161 N164q
      show Go _ _ _ _ (State.setTop _ (mkF _ 84 _ [(.ref b162)]))
      refine gAstore X164 H at_84 rfl (Ls' := #[vJ p0, .second, vJ p1, .second, vJ p2, .second, vJ p3, .second, vI p4, vI 1, vI 0, vJ p0, .second, vJ p3, .second, vI (((p4.toUInt32 >>> ((2 : Int32) &&& 31).toUInt32).toInt32) &&& (3 : Int32)), vR b160, vR b162, .unset, .unset]) rfl 86 rfl ?_
      refine gIload X164 H at_86 rfl 88 rfl ?_
      by_cases hc165 : (((p4.toUInt32 >>> ((2 : Int32) &&& 31).toUInt32).toInt32) &&& (3 : Int32)) = (0 : Int32)
      · refine gIfN X164 H at_88 ((if0 _ _).trans (teq hc165).2) 91 rfl ?_
        refine gAload X164 H at_91 rfl rfl 93 rfl ?_
        refine gAstore X164 H at_93 rfl (Ls' := #[vJ p0, .second, vJ p1, .second, vJ p2, .second, vJ p3, .second, vI p4, vI 1, vI 0, vJ p0, .second, vJ p3, .second, vI (((p4.toUInt32 >>> ((2 : Int32) &&& 31).toUInt32).toInt32) &&& (3 : Int32)), vR b160, vR b162, vR b162, .unset]) rfl 95 rfl ?_
        refine gLload X164 H at_95 rfl 97 rfl ?_
        refine gLloadN X164 H at_97 rfl 98 rfl ?_
        refine g_lcmp X164 H at_98 (z := (lcmpW p0 p0)) rfl 99 rfl ?_
        refine gIfN X164 H at_99 ((if0 _ _).trans (teq ((lw_eq _ _).mpr rfl)).2) 102 rfl ?_
        refine gLload X164 H at_102 rfl 104 rfl ?_
        refine gLloadN X164 H at_104 rfl 105 rfl ?_
        refine g_lcmp X164 H at_105 (z := (lcmpW p3 p1)) rfl 106 rfl ?_
        by_cases hc166 : p3 = p1
        · refine gIfN X164 H at_106 ((if0 _ _).trans (teq ((lw_eq _ _).mpr hc166)).2) 109 rfl ?_
          refine gIconst X164 H at_109 (z := 1) rfl 110 rfl ?_
          refine gGoto X164 H at_110 (by decide) 114 rfl ?_
          refine gIstore X164 H at_114 (Ls' := #[vJ p0, .second, vJ p1, .second, vJ p2, .second, vJ p3, .second, vI p4, vI 1, vI 0, vJ p0, .second, vJ p3, .second, vI (((p4.toUInt32 >>> ((2 : Int32) &&& 31).toUInt32).toInt32) &&& (3 : Int32)), vR b160, vR b162, vR b162, vI 1]) rfl 116 rfl ?_
          refine gGoto X164 H at_116 (by decide) 159 rfl ?_
          refine gAload X164 H at_159 rfl rfl 161 rfl ?_
          refine gAload X164 H at_161 rfl rfl 163 rfl ?_
          have c167 := ((f161_0.ext E162).keep K164)
          have c181 := ((f161_1.ext E162).keep K164 (ninS ne_b160_b162 nin0))
          have c182 := ((f161_2.ext E162).keep K164 (ninS ne_b160_b162 nin0))
          refine gVirt X164 H hZ hown (hw _ wd13) (hw _ wd14) (hw _ wd16) (hw _ wd15) (by decide) c167 (hw _ wd17) (hw _ wd2) (rm180_3 B b160 b162 p0 p1 p3 _ O164 f164_0 c181 f164_1 c182 f164_2 (Eq.symm hc166)) rfl hml rfl pd1 rfl (W := 0) (argsL := [(.ref b162)]) (rest := []) rfl rfl at_163 166 rfl ?_
          intro v183 T183 L183 hq183 X183
          obtain ⟨rfl, e183, rfl⟩ := hq183
          have N183 := Fr.app N164 (Fr.nil _)
          show Go _ _ _ _ (State.setTop _ (mkF _ 166 _ [(.int 1)]))
          refine gIload X183 H at_166 rfl 168 rfl ?_
          refine gCmpN X183 H at_168 (by decide) 171 rfl ?_
          refine gIconst X183 H at_171 (z := 1) rfl 172 rfl ?_
          refine gGoto X183 H at_172 (by decide) 176 rfl ?_
          exact gRetN X183 H hlk hret (t := .boolean) (by simp) at_176 e183 ⟨rfl, N183⟩
        · refine gIfY X164 H at_106 ((if0 _ _).trans (feq (fun q => hc166 ((lw_eq _ _).mp q))).2) (by decide) 113 rfl ?_
          refine gIconst X164 H at_113 (z := 0) rfl 114 rfl ?_
          refine gIstore X164 H at_114 (Ls' := #[vJ p0, .second, vJ p1, .second, vJ p2, .second, vJ p3, .second, vI p4, vI 1, vI 0, vJ p0, .second, vJ p3, .second, vI (((p4.toUInt32 >>> ((2 : Int32) &&& 31).toUInt32).toInt32) &&& (3 : Int32)), vR b160, vR b162, vR b162, vI 0]) rfl 116 rfl ?_
          refine gGoto X164 H at_116 (by decide) 159 rfl ?_
          refine gAload X164 H at_159 rfl rfl 161 rfl ?_
          refine gAload X164 H at_161 rfl rfl 163 rfl ?_
          have c184 := ((f161_0.ext E162).keep K164)
          have c198 := ((f161_1.ext E162).keep K164 (ninS ne_b160_b162 nin0))
          have c199 := ((f161_2.ext E162).keep K164 (ninS ne_b160_b162 nin0))
          refine gVirt X164 H hZ hown (hw _ wd13) (hw _ wd14) (hw _ wd16) (hw _ wd15) (by decide) c184 (hw _ wd17) (hw _ wd2) (rm197_3 B b160 b162 p0 p1 p3 _ O164 f164_0 c198 f164_1 c199 f164_2 (Ne.symm hc166)) rfl hml rfl pd1 rfl (W := 0) (argsL := [(.ref b162)]) (rest := []) rfl rfl at_163 166 rfl ?_
          intro v200 T200 L200 hq200 X200
          obtain ⟨rfl, e200, rfl⟩ := hq200
          have N200 := Fr.app N164 (Fr.nil _)
          show Go _ _ _ _ (State.setTop _ (mkF _ 166 _ [(.int 0)]))
          refine gIload X200 H at_166 rfl 168 rfl ?_
          refine gCmpN X200 H at_168 (by decide) 171 rfl ?_
          refine gIconst X200 H at_171 (z := 1) rfl 172 rfl ?_
          refine gGoto X200 H at_172 (by decide) 176 rfl ?_
          exact gRetN X200 H hlk hret (t := .boolean) (by simp) at_176 e200 ⟨rfl, N200⟩
      · refine gIfY X164 H at_88 ((if0 _ _).trans (feq hc165).2) (by decide) 119 rfl ?_
        refine gIload X164 H at_119 rfl 121 rfl ?_
        refine gIconst X164 H at_121 (z := 1) rfl 122 rfl ?_
        by_cases hc201 : (((p4.toUInt32 >>> ((2 : Int32) &&& 31).toUInt32).toInt32) &&& (3 : Int32)) = (1 : Int32)
        · refine gCmpN X164 H at_122 (teq hc201).2 125 rfl ?_
          refine gNull X164 H at_125 126 rfl ?_
          refine gAstore X164 H at_126 rfl (Ls' := #[vJ p0, .second, vJ p1, .second, vJ p2, .second, vJ p3, .second, vI p4, vI 1, vI 0, vJ p0, .second, vJ p3, .second, vI (((p4.toUInt32 >>> ((2 : Int32) &&& 31).toUInt32).toInt32) &&& (3 : Int32)), vR b160, vR b162, vN, .unset]) rfl 128 rfl ?_
          refine gIconst X164 H at_128 (z := 0) rfl 129 rfl ?_
          refine gIstore X164 H at_129 (Ls' := #[vJ p0, .second, vJ p1, .second, vJ p2, .second, vJ p3, .second, vI p4, vI 1, vI 0, vJ p0, .second, vJ p3, .second, vI (((p4.toUInt32 >>> ((2 : Int32) &&& 31).toUInt32).toInt32) &&& (3 : Int32)), vR b160, vR b162, vN, vI 0]) rfl 131 rfl ?_
          refine gGoto X164 H at_131 (by decide) 159 rfl ?_
          refine gAload X164 H at_159 rfl rfl 161 rfl ?_
          refine gAload X164 H at_161 rfl rfl 163 rfl ?_
          have c202 := ((f161_0.ext E162).keep K164)
          refine gVirt X164 H hZ hown (hw _ wd13) (hw _ wd14) (hw _ wd16) (hw _ wd15) (by decide) c202 (hw _ wd17) (hw _ wd2) (rm76_3 B b160 _ O164) rfl hml rfl pd1 rfl (W := 0) (argsL := [.null]) (rest := []) rfl rfl at_163 166 rfl ?_
          intro v203 T203 L203 hq203 X203
          obtain ⟨rfl, e203, rfl⟩ := hq203
          have N203 := Fr.app N164 (Fr.nil _)
          show Go _ _ _ _ (State.setTop _ (mkF _ 166 _ [(.int 0)]))
          refine gIload X203 H at_166 rfl 168 rfl ?_
          refine gCmpN X203 H at_168 (by decide) 171 rfl ?_
          refine gIconst X203 H at_171 (z := 1) rfl 172 rfl ?_
          refine gGoto X203 H at_172 (by decide) 176 rfl ?_
          exact gRetN X203 H hlk hret (t := .boolean) (by simp) at_176 e203 ⟨rfl, N203⟩
        · refine gCmpY X164 H at_122 (feq hc201).2 (by decide) 134 rfl ?_
          refine gIload X164 H at_134 rfl 136 rfl ?_
          refine gIconst X164 H at_136 (z := 2) rfl 137 rfl ?_
          by_cases hc204 : (((p4.toUInt32 >>> ((2 : Int32) &&& 31).toUInt32).toInt32) &&& (3 : Int32)) = (2 : Int32)
          · refine gCmpN X164 H at_137 (teq hc204).2 140 rfl ?_
            refine gLloadN X164 H at_140 rfl 141 rfl ?_
            refine gStatic X164 H hZ hown (hw _ wd20) (hw _ wd21) (by decide) (hw _ wd23) (hw _ wd22) (boxJ B p0 _ O164) rfl hml rfl pd4 rfl (W := 0) (argsL := [(.long p0)]) (rest := []) rfl rfl at_141 144 rfl ?_
            intro v205 T205 L205 hq205 X205
            obtain ⟨b205, rfl, N205q, K205, f205_0, f205_1⟩ := hq205
            have O205 := extK O164 K205 all0
            have N205 := Fr.app N164 N205q
            show Go _ _ _ _ (State.setTop _ (mkF _ 144 _ [(.ref b205)]))
            refine gAstore X205 H at_144 rfl (Ls' := #[vJ p0, .second, vJ p1, .second, vJ p2, .second, vJ p3, .second, vI p4, vI 1, vI 0, vJ p0, .second, vJ p3, .second, vI (((p4.toUInt32 >>> ((2 : Int32) &&& 31).toUInt32).toInt32) &&& (3 : Int32)), vR b160, vR b162, vR b205, .unset]) rfl 146 rfl ?_
            refine gIconst X205 H at_146 (z := 0) rfl 147 rfl ?_
            refine gIstore X205 H at_147 (Ls' := #[vJ p0, .second, vJ p1, .second, vJ p2, .second, vJ p3, .second, vI p4, vI 1, vI 0, vJ p0, .second, vJ p3, .second, vI (((p4.toUInt32 >>> ((2 : Int32) &&& 31).toUInt32).toInt32) &&& (3 : Int32)), vR b160, vR b162, vR b205, vI 0]) rfl 149 rfl ?_
            refine gGoto X205 H at_149 (by decide) 159 rfl ?_
            refine gAload X205 H at_159 rfl rfl 161 rfl ?_
            refine gAload X205 H at_161 rfl rfl 163 rfl ?_
            have c206 := (((f161_0.ext E162).keep K164).keep K205)
            refine gVirt X205 H hZ hown (hw _ wd13) (hw _ wd14) (hw _ wd16) (hw _ wd15) (by decide) c206 (hw _ wd17) (hw _ wd2) (rm105_3 B b160 b205 _ O205 f205_0) rfl hml rfl pd1 rfl (W := 0) (argsL := [(.ref b205)]) (rest := []) rfl rfl at_163 166 rfl ?_
            intro v207 T207 L207 hq207 X207
            obtain ⟨rfl, e207, rfl⟩ := hq207
            have N207 := Fr.app N205 (Fr.nil _)
            show Go _ _ _ _ (State.setTop _ (mkF _ 166 _ [(.int 0)]))
            refine gIload X207 H at_166 rfl 168 rfl ?_
            refine gCmpN X207 H at_168 (by decide) 171 rfl ?_
            refine gIconst X207 H at_171 (z := 1) rfl 172 rfl ?_
            refine gGoto X207 H at_172 (by decide) 176 rfl ?_
            exact gRetN X207 H hlk hret (t := .boolean) (by simp) at_176 e207 ⟨rfl, N207⟩
          · refine gCmpY X164 H at_137 (feq hc204).2 (by decide) 152 rfl ?_
            refine gAload X164 H at_152 rfl rfl 154 rfl ?_
            refine gAstore X164 H at_154 rfl (Ls' := #[vJ p0, .second, vJ p1, .second, vJ p2, .second, vJ p3, .second, vI p4, vI 1, vI 0, vJ p0, .second, vJ p3, .second, vI (((p4.toUInt32 >>> ((2 : Int32) &&& 31).toUInt32).toInt32) &&& (3 : Int32)), vR b160, vR b162, vR b160, .unset]) rfl 156 rfl ?_
            refine gIconst X164 H at_156 (z := 1) rfl 157 rfl ?_
            refine gIstore X164 H at_157 (Ls' := #[vJ p0, .second, vJ p1, .second, vJ p2, .second, vJ p3, .second, vI p4, vI 1, vI 0, vJ p0, .second, vJ p3, .second, vI (((p4.toUInt32 >>> ((2 : Int32) &&& 31).toUInt32).toInt32) &&& (3 : Int32)), vR b160, vR b162, vR b160, vI 1]) rfl 159 rfl ?_
            refine gAload X164 H at_159 rfl rfl 161 rfl ?_
            refine gAload X164 H at_161 rfl rfl 163 rfl ?_
            have c208 := ((f161_0.ext E162).keep K164)
            have c209 := ((f161_1.ext E162).keep K164 (ninS ne_b160_b162 nin0))
            have c210 := ((f161_2.ext E162).keep K164 (ninS ne_b160_b162 nin0))
            refine gVirt X164 H hZ hown (hw _ wd13) (hw _ wd14) (hw _ wd16) (hw _ wd15) (by decide) c208 (hw _ wd17) (hw _ wd2) (rm117_3 B b160 p0 p1 _ O164 c208 c209 c210) rfl hml rfl pd1 rfl (W := 0) (argsL := [(.ref b160)]) (rest := []) rfl rfl at_163 166 rfl ?_
            intro v211 T211 L211 hq211 X211
            obtain ⟨rfl, e211, rfl⟩ := hq211
            have N211 := Fr.app N164 (Fr.nil _)
            show Go _ _ _ _ (State.setTop _ (mkF _ 166 _ [(.int 1)]))
            refine gIload X211 H at_166 rfl 168 rfl ?_
            refine gCmpN X211 H at_168 (by decide) 171 rfl ?_
            refine gIconst X211 H at_171 (z := 1) rfl 172 rfl ?_
            refine gGoto X211 H at_172 (by decide) 176 rfl ?_
            exact gRetN X211 H hlk hret (t := .boolean) (by simp) at_176 e211 ⟨rfl, N211⟩
    · refine gIfN X0 H at_18 ((if0 _ _).trans (feq hc159).1) 21 rfl ?_
      refine gIconst X0 H at_21 (z := 1) rfl 22 rfl ?_
      refine gGoto X0 H at_22 (by decide) 26 rfl ?_
      refine gIstore X0 H at_26 (Ls' := #[vJ p0, .second, vJ p1, .second, vJ p2, .second, vJ p3, .second, vI p4, vI 1, vI 1, .unset, .unset, .unset, .unset, .unset, .unset, .unset, .unset, .unset]) rfl 28 rfl ?_
      refine gIload X0 H at_28 rfl 30 rfl ?_
      refine gIfN X0 H at_30 (by decide) 33 rfl ?_
      refine gLloadN X0 H at_33 rfl 34 rfl ?_
      refine gGoto X0 H at_34 (by decide) 39 rfl ?_
      refine gLstore X0 H at_39 (Ls' := #[vJ p0, .second, vJ p1, .second, vJ p2, .second, vJ p3, .second, vI p4, vI 1, vI 1, vJ p0, .second, .unset, .unset, .unset, .unset, .unset, .unset, .unset]) rfl 41 rfl ?_
      refine gIload X0 H at_41 rfl 43 rfl ?_
      refine gIfN X0 H at_43 (by decide) 46 rfl ?_
      refine gLloadN X0 H at_46 rfl 47 rfl ?_
      refine gGoto X0 H at_47 (by decide) 52 rfl ?_
      refine gLstore X0 H at_52 (Ls' := #[vJ p0, .second, vJ p1, .second, vJ p2, .second, vJ p3, .second, vI p4, vI 1, vI 1, vJ p0, .second, vJ p1, .second, .unset, .unset, .unset, .unset, .unset]) rfl 54 rfl ?_
      refine gIload X0 H at_54 rfl 56 rfl ?_
      refine gIconst X0 H at_56 (z := 2) rfl 57 rfl ?_
      refine g_iushr X0 H at_57 (z := ((p4.toUInt32 >>> ((2 : Int32) &&& 31).toUInt32).toInt32)) rfl 58 rfl ?_
      refine gIconst X0 H at_58 (z := 3) rfl 59 rfl ?_
      refine g_iand X0 H at_59 (z := (((p4.toUInt32 >>> ((2 : Int32) &&& 31).toUInt32).toInt32) &&& (3 : Int32))) rfl 60 rfl ?_
      refine gIstore X0 H at_60 (Ls' := #[vJ p0, .second, vJ p1, .second, vJ p2, .second, vJ p3, .second, vI p4, vI 1, vI 1, vJ p0, .second, vJ p1, .second, vI (((p4.toUInt32 >>> ((2 : Int32) &&& 31).toUInt32).toInt32) &&& (3 : Int32)), .unset, .unset, .unset, .unset]) rfl 62 rfl ?_
      refine gNew X0 H hZ hown (hw _ wd0) (hw _ wd1) (hw _ wd2) e0 (by decide) (by decide) at_62 65 rfl ?_
      intro T212 h212 b212 X212 e212 z212 E212 A212 D212
      have G_b212 := Nat.le_trans O0.1 (Nat.le_of_eq z212)
      have sz_b212 := Nat.le_trans M0 (Nat.le_of_eq z212)
      have O212 := extT O0 E212
      have F212_offset : Fld Z h212 b212 cs0 "offset" "J" (.long 0) := D212 (Or.inr (hw _ wd10)) (ty := .long) (by decide)
      have F212_timestamp : Fld Z h212 b212 cs0 "timestamp" "J" (.long 0) := D212 (Or.inr (hw _ wd12)) (ty := .long) (by decide)
      refine gDup X212 H at_65 rfl 66 rfl ?_
      refine gLloadN X212 H at_66 rfl 67 rfl ?_
      refine gLloadN X212 H at_67 rfl 68 rfl ?_
      refine gSpecial X212 H hZ hown rfl rfl (hw _ wd3) (hw _ wd4) (by decide) (hw _ wd5) (hw _ wd2) (rm17_1 B b212 p0 p1 _ O212 A212 F212_offset G_b212 F212_timestamp) e212 hml rfl pd0 rfl (W := 1) (argsL := [(.long p0), (.long p1)]) (rest := [(.ref b212)]) rfl rfl at_68 71 rfl ?_
      intro v213 T213 L213 hq213 X213
      obtain ⟨rfl, N213q, K213, f213_0, f213_1, f213_2⟩ := hq213
      have O213 := extK O212 K213 (allS G_b212 all0)
      have N213 := Fr.app N0 N213q
      show Go _ _ _ _ (State.setTop _ (mkF _ 71 _ [(.ref b212)]))
      refine gAstore X213 H at_71 rfl (Ls' := #[vJ p0, .second, vJ p1, .second, vJ p2, .second, vJ p3, .second, vI p4, vI 1, vI 1, vJ p0, .second, vJ p1, .second, vI (((p4.toUInt32 >>> ((2 : Int32) &&& 31).toUInt32).toInt32) &&& (3 : Int32)), vR b212, .unset, .unset, .unset]) rfl 73 rfl ?_
      refine gNew X213 H hZ hown (hw _ wd0) (hw _ wd1) (hw _ wd2) rfl (by decide) (by decide) at_73 76 rfl ?_
      intro T214 h214 b214 X214 e214 z214 E214 A214 D214
      have M215 := (Nat.le_trans (Nat.le_trans M0 E212.1) K213.1)
      have G_b214 := Nat.le_trans O213.1 (Nat.le_of_eq z214)
      have sz_b214 := Nat.le_trans M215 (Nat.le_of_eq z214)
      have ne_b212_b214 : b212 ≠ b214 := neB f213_0.lt (Nat.le_of_eq z214)
      have O214 := extT O213 E214
      have F214_offset : Fld Z h214 b214 cs0 "offset" "J" (.long 0) := D214 (Or.inr (hw _ wd10)) (ty := .long) (by decide)
      have F214_timestamp : Fld Z h214 b214 cs0 "timestamp" "J" (.long 0) := D214 (Or.inr (hw _ wd12)) (ty := .long) (by decide)
      refine gDup X214 H at_76 rfl 77 rfl ?_
      refine gLload X214 H at_77 rfl 79 rfl ?_
      refine gLload X214 H at_79 rfl 81 rfl ?_
      refine gSpecial X214 H hZ hown rfl rfl (hw _ wd3) (hw _ wd4) (by decide) (hw _ wd5) (hw _ wd2) (rm17_1 B b214 p0 p1 _ O214 A214 F214_offset G_b214 F214_timestamp) e214 hml rfl pd0 rfl (W := 1) (argsL := [(.long p0), (.long p1)]) (rest := [(.ref b214)]) rfl rfl at_81 84 rfl ?_
      intro v216 T216 L216 hq216 X216
      obtain ⟨rfl, N216q, K216, f216_0, f216_1, f216_2⟩ := hq216
      have O216 := extK O214 K216 (allS G_b214 all0)
      have N216 := Fr.app N213 N216q
      show Go _ _ _ _ (State.setTop _ (mkF _ 84 _ [(.ref b214)]))
      refine gAstore X216 H at_84 rfl (Ls' := #[vJ p0, .second, vJ p1, .second, vJ p2, .second, vJ p3, .second, vI p4, vI 1, vI 1, vJ p0, .second, vJ p1, .second, vI (((p4.toUInt32 >>> ((2 : Int32) &&& 31).toUInt32).toInt32) &&& (3 : Int32)), vR b212, vR b214, .unset, .unset]) rfl 86 rfl ?_
      refine gIload X216 H at_86 rfl 88 rfl ?_
      by_cases hc217 : (((p4.toUInt32 >>> ((2 : Int32) &&& 31).toUInt32).toInt32) &&& (3 : Int32)) = (0 : Int32)
      · refine gIfN X216 H at_88 ((if0 _ _).trans (teq hc217).2) 91 rfl ?_
        refine gAload X216 H at_91 rfl rfl 93 rfl ?_
        refine gAstore X216 H at_93 rfl (Ls' := #[vJ p0, .second, vJ p1, .second, vJ p2, .second, vJ p3, .second, vI p4, vI 1, vI 1, vJ p0, .second, vJ p1, .second, vI (((p4.toUInt32 >>> ((2 : Int32) &&& 31).toUInt32).toInt32) &&& (3 : Int32)), vR b212, vR b214, vR b214, .unset]) rfl 95 rfl ?_
        refine gLload X216 H at_95 rfl 97 rfl ?_
        refine gLloadN X216 H at_97 rfl 98 rfl ?_
        refine g_lcmp X216 H at_98 (z := (lcmpW p0 p0)) rfl 99 rfl ?_
        refine gIfN X216 H at_99 ((if0 _ _).trans (teq ((lw_eq _ _).mpr rfl)).2) 102 rfl ?_
        refine gLload X216 H at_102 rfl 104 rfl ?_
        refine gLloadN X216 H at_104 rfl 105 rfl ?_
        refine g_lcmp X216 H at_105 (z := (lcmpW p1 p1)) rfl 106 rfl ?_
        refine gIfN X216 H at_106 ((if0 _ _).trans (teq ((lw_eq _ _).mpr rfl)).2) 109 rfl ?_
        refine gIconst X216 H at_109 (z := 1) rfl 110 rfl ?_
        refine gGoto X216 H at_110 (by decide) 114 rfl ?_
        refine gIstore X216 H at_114 (Ls' := #[vJ p0, .second, vJ p1, .second, vJ p2, .second, vJ p3, .second, vI p4, vI 1, vI 1, vJ p0, .second, vJ p1, .second, vI (((p4.toUInt32 >>> ((2 : Int32) &&& 31).toUInt32).toInt32) &&& (3 : Int32)), vR b212, vR b214, vR b214, vI 1]) rfl 116 rfl ?_
        refine gGoto X216 H at_116 (by decide) 159 rfl ?_
        refine gAload X216 H at_159 rfl rfl 161 rfl ?_
        refine gAload X216 H at_161 rfl rfl 163 rfl ?_
        have c218 := ((f213_0.ext E214).keep K216)
        have c231 := ((f213_1.ext E214).keep K216 (ninS ne_b212_b214 nin0))
        have c232 := ((f213_2.ext E214).keep K216 (ninS ne_b212_b214 nin0))
        refine gVirt X216 H hZ hown (hw _ wd13) (hw _ wd14) (hw _ wd16) (hw _ wd15) (by decide) c218 (hw _ wd17) (hw _ wd2) (rm230_3 B b212 b214 p0 p1 _ O216 f216_0 c231 f216_1 c232 f216_2) rfl hml rfl pd1 rfl (W := 0) (argsL := [(.ref b214)]) (rest := []) rfl rfl at_163 166 rfl ?_
        intro v233 T233 L233 hq233 X233
        obtain ⟨rfl, e233, rfl⟩ := hq233
        have N233 := Fr.app N216 (Fr.nil _)
        show Go _ _ _ _ (State.setTop _ (mkF _ 166 _ [(.int 1)]))
        refine gIload X233 H at_166 rfl 168 rfl ?_
        refine gCmpN X233 H at_168 (by decide) 171 rfl ?_
        refine gIconst X233 H at_171 (z := 1) rfl 172 rfl ?_
        refine gGoto X233 H at_172 (by decide) 176 rfl ?_
        exact gRetN X233 H hlk hret (t := .boolean) (by simp) at_176 e233 ⟨rfl, N233⟩
      · refine gIfY X216 H at_88 ((if0 _ _).trans (feq hc217).2) (by decide) 119 rfl ?_
        refine gIload X216 H at_119 rfl 121 rfl ?_
        refine gIconst X216 H at_121 (z := 1) rfl 122 rfl ?_
        by_cases hc234 : (((p4.toUInt32 >>> ((2 : Int32) &&& 31).toUInt32).toInt32) &&& (3 : Int32)) = (1 : Int32)
        · refine gCmpN X216 H at_122 (teq hc234).2 125 rfl ?_
          refine gNull X216 H at_125 126 rfl ?_
          refine gAstore X216 H at_126 rfl (Ls' := #[vJ p0, .second, vJ p1, .second, vJ p2, .second, vJ p3, .second, vI p4, vI 1, vI 1, vJ p0, .second, vJ p1, .second, vI (((p4.toUInt32 >>> ((2 : Int32) &&& 31).toUInt32).toInt32) &&& (3 : Int32)), vR b212, vR b214, vN, .unset]) rfl 128 rfl ?_
          refine gIconst X216 H at_128 (z := 0) rfl 129 rfl ?_
          refine gIstore X216 H at_129 (Ls' := #[vJ p0, .second, vJ p1, .second, vJ p2, .second, vJ p3, .second, vI p4, vI 1, vI 1, vJ p0, .second, vJ p1, .second, vI (((p4.toUInt32 >>> ((2 : Int32) &&& 31).toUInt32).toInt32) &&& (3 : Int32)), vR b212, vR b214, vN, vI 0]) rfl 131 rfl ?_
          refine gGoto X216 H at_131 (by decide) 159 rfl ?_
          refine gAload X216 H at_159 rfl rfl 161 rfl ?_
          refine gAload X216 H at_161 rfl rfl 163 rfl ?_
          have c235 := ((f213_0.ext E214).keep K216)
          refine gVirt X216 H hZ hown (hw _ wd13) (hw _ wd14) (hw _ wd16) (hw _ wd15) (by decide) c235 (hw _ wd17) (hw _ wd2) (rm76_3 B b212 _ O216) rfl hml rfl pd1 rfl (W := 0) (argsL := [.null]) (rest := []) rfl rfl at_163 166 rfl ?_
          intro v236 T236 L236 hq236 X236
          obtain ⟨rfl, e236, rfl⟩ := hq236
          have N236 := Fr.app N216 (Fr.nil _)
          show Go _ _ _ _ (State.setTop _ (mkF _ 166 _ [(.int 0)]))
          refine gIload X236 H at_166 rfl 168 rfl ?_
          refine gCmpN X236 H at_168 (by decide) 171 rfl ?_
          refine gIconst X236 H at_171 (z := 1) rfl 172 rfl ?_
          refine gGoto X236 H at_172 (by decide) 176 rfl ?_
          exact gRetN X236 H hlk hret (t := .boolean) (by simp) at_176 e236 ⟨rfl, N236⟩
        · refine gCmpY X216 H at_122 (feq hc234).2 (by decide) 134 rfl ?_
          refine gIload X216 H at_134 rfl 136 rfl ?_
          refine gIconst X216 H at_136 (z := 2) rfl 137 rfl ?_
          by_cases hc237 : (((p4.toUInt32 >>> ((2 : Int32) &&& 31).toUInt32).toInt32) &&& (3 : Int32)) = (2 : Int32)
          · refine gCmpN X216 H at_137 (teq hc237).2 140 rfl ?_
            refine gLloadN X216 H at_140 rfl 141 rfl ?_
            refine gStatic X216 H hZ hown (hw _ wd20) (hw _ wd21) (by decide) (hw _ wd23) (hw _ wd22) (boxJ B p0 _ O216) rfl hml rfl pd4 rfl (W := 0) (argsL := [(.long p0)]) (rest := []) rfl rfl at_141 144 rfl ?_
            intro v238 T238 L238 hq238 X238
            obtain ⟨b238, rfl, N238q, K238, f238_0, f238_1⟩ := hq238
            have O238 := extK O216 K238 all0
            have N238 := Fr.app N216 N238q
            show Go _ _ _ _ (State.setTop _ (mkF _ 144 _ [(.ref b238)]))
            refine gAstore X238 H at_144 rfl (Ls' := #[vJ p0, .second, vJ p1, .second, vJ p2, .second, vJ p3, .second, vI p4, vI 1, vI 1, vJ p0, .second, vJ p1, .second, vI (((p4.toUInt32 >>> ((2 : Int32) &&& 31).toUInt32).toInt32) &&& (3 : Int32)), vR b212, vR b214, vR b238, .unset]) rfl 146 rfl ?_
            refine gIconst X238 H at_146 (z := 0) rfl 147 rfl ?_
            refine gIstore X238 H at_147 (Ls' := #[vJ p0, .second, vJ p1, .second, vJ p2, .second, vJ p3, .second, vI p4, vI 1, vI 1, vJ p0, .second, vJ p1, .second, vI (((p4.toUInt32 >>> ((2 : Int32) &&& 31).toUInt32).toInt32) &&& (3 : Int32)), vR b212, vR b214, vR b238, vI 0]) rfl 149 rfl ?_
            refine gGoto X238 H at_149 (by decide) 159 rfl ?_
            refine gAload X238 H at_159 rfl rfl 161 rfl ?_
            refine gAload X238 H at_161 rfl rfl 163 rfl ?_
            have c239 := (((f213_0.ext E214).keep K216).keep K238)
            refine gVirt X238 H hZ hown (hw _ wd13) (hw _ wd14) (hw _ wd16) (hw _ wd15) (by decide) c239 (hw _ wd17) (hw _ wd2) (rm105_3 B b212 b238 _ O238 f238_0) rfl hml rfl pd1 rfl (W := 0) (argsL := [(.ref b238)]) (rest := []) rfl rfl at_163 166 rfl ?_
            intro v240 T240 L240 hq240 X240
            obtain ⟨rfl, e240, rfl⟩ := hq240
            have N240 := Fr.app N238 (Fr.nil _)
            show Go _ _ _ _ (State.setTop _ (mkF _ 166 _ [(.int 0)]))
            refine gIload X240 H at_166 rfl 168 rfl ?_
            refine gCmpN X240 H at_168 (by decide) 171 rfl ?_
            refine gIconst X240 H at_171 (z := 1) rfl 172 rfl ?_
            refine gGoto X240 H at_172 (by decide) 176 rfl ?_
            exact gRetN X240 H hlk hret (t := .boolean) (by simp) at_176 e240 ⟨rfl, N240⟩
          · refine gCmpY X216 H at_137 (feq hc237).2 (by decide) 152 rfl ?_
            refine gAload X216 H at_152 rfl rfl 154 rfl ?_
            refine gAstore X216 H at_154 rfl (Ls' := #[vJ p0, .second, vJ p1, .second, vJ p2, .second, vJ p3, .second, vI p4, vI 1, vI 1, vJ p0, .second, vJ p1, .second, vI (((p4.toUInt32 >>> ((2 : Int32) &&& 31).toUInt32).toInt32) &&& (3 : Int32)), vR b212, vR b214, vR b212, .unset]) rfl 156 rfl ?_
            refine gIconst X216 H at_156 (z := 1) rfl 157 rfl ?_
            refine gIstore X216 H at_157 (Ls' := #[vJ p0, .second, vJ p1, .second, vJ p2, .second, vJ p3, .second, vI p4, vI 1, vI 1, vJ p0, .second, vJ p1, .second, vI (((p4.toUInt32 >>> ((2 : Int32) &&& 31).toUInt32).toInt32) &&& (3 : Int32)), vR b212, vR b214, vR b212, vI 1]) rfl 159 rfl ?_
            refine gAload X216 H at_159 rfl rfl 161 rfl ?_
            refine gAload X216 H at_161 rfl rfl 163 rfl ?_
            have c241 := ((f213_0.ext E214).keep K216)
            have c242 := ((f213_1.ext E214).keep K216 (ninS ne_b212_b214 nin0))
            have c243 := ((f213_2.ext E214).keep K216 (ninS ne_b212_b214 nin0))
            refine gVirt X216 H hZ hown (hw _ wd13) (hw _ wd14) (hw _ wd16) (hw _ wd15) (by decide) c241 (hw _ wd17) (hw _ wd2) (rm117_3 B b212 p0 p1 _ O216 c241 c242 c243) rfl hml rfl pd1 rfl (W := 0) (argsL := [(.ref b212)]) (rest := []) rfl rfl at_163 166 rfl ?_
            intro v244 T244 L244 hq244 X244
            obtain ⟨rfl, e244, rfl⟩ := hq244
            have N244 := Fr.app N216 (Fr.nil _)
            show Go _ _ _ _ (State.setTop _ (mkF _ 166 _ [(.int 1)]))
            refine gIload X244 H at_166 rfl 168 rfl ?_
            refine gCmpN X244 H at_168 (by decide) 171 rfl ?_
            refine gIconst X244 H at_171 (z := 1) rfl 172 rfl ?_
            refine gGoto X244 H at_172 (by decide) 176 rfl ?_
            exact gRetN X244 H hlk hret (t := .boolean) (by simp) at_176 e244 ⟨rfl, N244⟩
end Walk
set_option maxHeartbeats 4000000 in
theorem comes_1 {Post : Tables → Env → Array Value → State → Outcome → State → Prop} (hpost : ∀ tb e args s v u, (limb_1_1.after args s (.returned v) u = true ∧ limb_1_2.after args s (.returned v) u = true ∧ True) → FrameEnd s (.returned v) u (Jvm.fieldLocs frame_1_writes args s ++ Jvm.arrayLocs frame_1_arrays args s ++ Jvm.staticLocs frame_1_statics s) 16 128 → Post tb e args s (.returned v) u) :
    ArmFor flags0 classFile x code maxLocals ret World_1 tables_1 room_1 Calls_1 rest_1 Pre_1 Post := by
  intro l hfl _ _ p e ha hc hk s m args below hf hA hF happ hP
  obtain ⟨hcalls, hrest, hpre⟩ := hP
  obtain ⟨-, -, -, hnamed, -, -, -, hat⟩ := (Spec.applies_iff hf).mp happ
  obtain ⟨hg, hn⟩ := and_e (Cond.before_iff.mp (show (Jvm.Cond.and given_1 narrow_1).before args s = true from hpre))
  obtain ⟨n1, n2⟩ := and_e hg
  obtain ⟨n3, n4⟩ := and_e n2
  obtain ⟨n5, n6⟩ := and_e n4
  obtain ⟨n7, n8⟩ := and_e n6
  obtain ⟨n9, n10⟩ := and_e n8
  obtain ⟨w0, w1, w2, w3, w4, rfl⟩ : ∃ w0 w1 w2 w3 w4 : Value, args = #[w0, w1, w2, w3, w4] := by
    have hs : args.size = 5 := by simpa [Cond.value, given_1] using n1
    obtain ⟨L⟩ := args
    match L, hs with
    | [w0, w1, w2, w3, w4], _ => exact ⟨w0, w1, w2, w3, w4, rfl⟩
  obtain ⟨hsets, hown0⟩ := atoms_of _ (rest_1_c_eq ▸ (show rest_1_c.before _ s = true from hrest))
  have hfit : Fit s := fun {y c} hc i hi => by
    obtain ⟨ha, rfl⟩ := Array.getElem?_eq_some_iff.mp hc
    have q := List.all_eq_true.mp ((Array.all_eq_true_iff_forall_mem.mp hF) _ (Array.getElem_mem ha)) i (List.mem_range.mpr hi)
    simpa [Array.getElem?_eq_getElem hi] using q
  have hw := fun d (hd : d ∈ tables_1) => atoms_spec (ws := Jvm.Cond.code x code maxLocals ret :: tables_1) hat d (List.mem_cons_of_mem _ hd)
  obtain ⟨i0, ei0⟩ := isL_v n3
  obtain rfl : w0 = (.long i0) := Option.some.inj ei0
  obtain ⟨i1, ei1⟩ := isL_v n5
  obtain rfl : w1 = (.long i1) := Option.some.inj ei1
  obtain ⟨i2, ei2⟩ := isL_v n7
  obtain rfl : w2 = (.long i2) := Option.some.inj ei2
  obtain ⟨i3, ei3⟩ := isL_v n9
  obtain rfl : w3 = (.long i3) := Option.some.inj ei3
  obtain ⟨i4, ei4⟩ := is_v n10
  obtain rfl : w4 = (.int i4) := Option.some.inj ei4
  obtain ⟨w_cacheJ, ev_w_cacheJ⟩ := arr_v (Cond.before_iff.mp (hsets _ (List.mem_of_getElem? (i := 2) rfl)))
  obtain ⟨cl_cacheJ, Ar_w_cacheJ⟩ := Arr.start ev_w_cacheJ (Cond.before_iff.mp (hsets _ (List.mem_of_getElem? (i := 2) rfl)))
  obtain ⟨ln_w_cacheJ, le_w_cacheJ⟩ := Jvm.Free.IntBox.length_fwd (hsets _ (List.mem_of_getElem? (i := 4) rfl)) ev_w_cacheJ Ar_w_cacheJ.1 Ar_w_cacheJ.2.1 Ar_w_cacheJ.2.2
  have W : World s w_cacheJ cl_cacheJ := ⟨Sta.start ev_w_cacheJ (Or.inr ⟨(hw _ wd45), (hsets _ (List.mem_of_getElem? (i := 0) rfl))⟩), Bxs.start (fun _ => ev_w_cacheJ) Ar_w_cacheJ ln_w_cacheJ le_w_cacheJ (by decide) (Cond.before_iff.mp (hsets _ (List.mem_of_getElem? (i := 5) rfl))) (fun X j nn q => eqv_l (i2l_at (by simp [Term.eval, (back32 nn).1])) q)⟩
  have B : Bg s _ w_cacheJ cl_cacheJ := ⟨hw, W⟩
  obtain ⟨n, o, h1, h2, h3, _, L, rfl, ⟨rfl, N⟩, hq⟩ := (lawAll (l := l) B i0 i1 i2 i3 i4) tables_1 p e ha hc hk s m _ below hf ((Spec.applies_iff_loose hf).mp happ).1 ⟨rfl, State.Warmed39.refl s, rfl⟩ trivial
  refine ⟨n, _, h1, h2, h3, hpost _ _ _ _ _ _ ⟨Cond.after_iff.mpr rfl, Cond.after_iff.mpr (eq_i res_at (Term.int_eval (1)) rfl), trivial⟩ ⟨hq.1, hq.2.1, (hq.2.2.sift fun y hy => Or.inr (N y hy)).mono (by decide) (by decide)⟩⟩
theorem main_1_1 : Claimed_1_1 := comes_1 fun _ _ _ _ _ _ h hF => ⟨h.1, hF⟩
theorem main_1_2 : Claimed_1_2 := comes_1 fun _ _ _ _ _ _ h hF => ⟨h.2.1, hF⟩
end Jvm.Pilot.@@N@@
namespace Jvm.Pilot.@@N@@
open Jvm Jvm.ClassFile Sem Op Lib Jvm.Free Jvm.Stand Jvm.Pilot.@@N@@.Jvm.D
/-! MADE BY PROGRAM (witnessworld.py) out of the Statement's table words and the real class files: 16 classes; the members and pool entries that the words name. The judged class is class 1, her method 1. -/
namespace start1
open Jvm.ClassFile
def u (s : String) : CpInfo := .utf8 (stringToUtf16 s)
/-- a pool by its gaps: so many unusable entries, then the entry; so many at the end -/
def gap : Nat → List CpInfo → List CpInfo
  | 0, r => r
  | n + 1, r => .unusable :: gap n r
def poolList (es : List (Nat × CpInfo)) (last : Nat) : List CpInfo := es.foldr (fun e r => gap e.1 (e.2 :: r)) (gap last [])
def pool (es : List (Nat × CpInfo)) (last : Nat) : Array CpInfo := ⟨poolList es last⟩
def fileOf (pool : Array CpInfo) (this : Nat) (attrs : Array Attribute := #[]) (ms : Array MethodInfo := #[]) (fl : Nat := 33) (sup : Nat := 0) (ifs : Array Nat := #[]) (fds : Array FieldInfo := #[]) : ClassFile where
  minorVersion := 0
  majorVersion := 65
  constantPool := pool
  accessFlags := fl
  thisClass := this
  superClass := sup
  interfaces := ifs
  fields := fds
  methods := ms
  attributes := attrs
def plain (name : String) (sup : Option ClassId) : Class where
  name := name
  kind := .ordinary
  loader := none
  accessFlags := 33
  super := sup
  interfaces := #[]
  cf := none
  fields := #[]
  methods := #[]
  instanceTypes := #[]
  staticTypes := #[]
  resolved := #[]
  callSites := []
  init := .initialized
  statics := none
  mirror := none

def pool0 : Array CpInfo := pool [(5, u "<init>"), (0, u "()V"), (1, .class_ 10), (1, u "java/lang/Object")] 113

def k0c0 : Code := { maxStack := 0, maxLocals := 1, code := object_method_1_code, exceptionTable := #[], attributes := #[] }
def k0m0 : Method := { name := "<init>", desc := "()V", sig := { parameters := [], returnType := none }, accessFlags := 1, code := some k0c0 }
/-- java/lang/Object -/
def k0 : Class := { plain "java/lang/Object" none with
  accessFlags := 33
  interfaces := #[]
  cf := some (fileOf pool0 8 #[] #[{ accessFlags := 1, nameIndex := 5, descriptorIndex := 6, attributes := #[] }] 33 0 #[] #[])
  fields := #[]
  methods := #[k0m0]
  instanceTypes := #[]
  staticTypes := #[]
  resolved := Array.replicate 124 none
  statics := none }

def pool1 : Array CpInfo := pool [(2, .class_ 4), (1, u "java/lang/Object"), (0, u "<init>"), (0, u "()V"), (0, .class_ 8), (0, u "com/example/rolling_quorum/rollingquorum/protocol/TimestampedOffset"), (0, .methodref 7 10), (0, .nameAndType 5 11), (0, u "(JJ)V"), (0, .methodref 13 14), (0, .class_ 15), (0, .nameAndType 16 17), (0, u "java/lang/Long"), (0, u "valueOf"), (0, u "(J)Ljava/lang/Long;"), (0, .methodref 7 19), (0, .nameAndType 20 21), (0, u "equals"), (0, u "(Ljava/lang/Object;)Z"), (0, .class_ 23), (0, u "com/example/rolling_quorum/rollingquorum/protocol/TimestampedOffsetEqualsPinLaw"), (2, u "law"), (0, u "(JJJJI)Z")] 3

def k1m0 : Method := { name := "<init>", desc := "()V", sig := { parameters := [], returnType := none }, accessFlags := 1, code := none }
def k1c1 : Code := { maxStack := 6, maxLocals := 20, code := code, exceptionTable := #[], attributes := #[] }
def k1m1 : Method := { name := "law", desc := "(JJJJI)Z", sig := { parameters := [.long, .long, .long, .long, .int], returnType := some .boolean }, accessFlags := 9, code := some k1c1 }
/-- com/example/rolling_quorum/rollingquorum/protocol/TimestampedOffsetEqualsPinLaw -/
def k1 : Class := { plain "com/example/rolling_quorum/rollingquorum/protocol/TimestampedOffsetEqualsPinLaw" (some 0) with
  accessFlags := 49
  interfaces := #[]
  cf := some (fileOf pool1 22 #[] #[{ accessFlags := 1, nameIndex := 5, descriptorIndex := 6, attributes := #[] }, { accessFlags := 9, nameIndex := 26, descriptorIndex := 27, attributes := #[] }] 49 2 #[] #[])
  fields := #[]
  methods := #[k1m0, k1m1]
  instanceTypes := #[]
  staticTypes := #[]
  resolved := Array.replicate 31 none
  statics := none }

def pool2 : Array CpInfo := pool [(1, .methodref 2 3), (0, .class_ 4), (0, .nameAndType 5 6), (0, u "java/lang/Object"), (0, u "<init>"), (0, u "()V"), (0, .fieldref 8 9), (0, .class_ 10), (0, .nameAndType 11 12), (0, u "com/example/rolling_quorum/rollingquorum/protocol/TimestampedOffset"), (0, u "offset"), (0, u "J"), (0, .fieldref 8 14), (0, .nameAndType 15 12), (0, u "timestamp"), (16, u "(JJ)V"), (3, u "equals"), (0, u "(Ljava/lang/Object;)Z")] 22

def k2c0 : Code := { maxStack := 3, maxLocals := 5, code := prog_64_method_1_code, exceptionTable := #[], attributes := #[] }
def k2m0 : Method := { name := "<init>", desc := "(JJ)V", sig := { parameters := [.long, .long], returnType := none }, accessFlags := 1, code := some k2c0 }
def k2c1 : Code := { maxStack := 4, maxLocals := 3, code := prog_64_method_4_code, exceptionTable := #[], attributes := #[] }
def k2m1 : Method := { name := "equals", desc := "(Ljava/lang/Object;)Z", sig := { parameters := [(.object "java/lang/Object")], returnType := some .boolean }, accessFlags := 1, code := some k2c1 }
/-- com/example/rolling_quorum/rollingquorum/protocol/TimestampedOffset -/
def k2 : Class := { plain "com/example/rolling_quorum/rollingquorum/protocol/TimestampedOffset" (some 0) with
  accessFlags := 33
  interfaces := #[]
  cf := some (fileOf pool2 8 #[] #[{ accessFlags := 1, nameIndex := 5, descriptorIndex := 32, attributes := #[] }, { accessFlags := 1, nameIndex := 36, descriptorIndex := 37, attributes := #[] }] 33 2 #[] #[{ accessFlags := 18, nameIndex := 11, descriptorIndex := 12, attributes := #[] }, { accessFlags := 18, nameIndex := 15, descriptorIndex := 12, attributes := #[] }])
  fields := #[{ name := "offset", type := .long, accessFlags := 18, slot := 0, constantValue := 0 }, { name := "timestamp", type := .long, accessFlags := 18, slot := 1, constantValue := 0 }]
  methods := #[k2m0, k2m1]
  instanceTypes := #[.long, .long]
  staticTypes := #[]
  resolved := Array.replicate 60 none
  statics := none }

def pool3 : Array CpInfo := pool [(1, .class_ 2), (0, u "java/io/Serializable"), (0, .class_ 4), (0, u "java/lang/Object")] 2

/-- java/io/Serializable -/
def k3 : Class := { plain "java/io/Serializable" (some 0) with
  accessFlags := 1537
  interfaces := #[]
  cf := some (fileOf pool3 1 #[] #[] 1537 3 #[] #[])
  fields := #[]
  methods := #[]
  instanceTypes := #[]
  staticTypes := #[]
  resolved := Array.replicate 7 none
  statics := none }

def pool4 : Array CpInfo := pool [(1, .methodref 2 3), (0, .class_ 4), (0, .nameAndType 5 6), (0, u "java/lang/Object"), (0, u "<init>"), (0, u "()V"), (1, .class_ 10), (1, u "java/lang/Number"), (2, .class_ 14), (0, u "java/io/Serializable"), (0, u "serialVersionUID"), (0, u "J")] 20

def k4c0 : Code := { maxStack := 1, maxLocals := 1, code := jdk_18_method_1_code, exceptionTable := #[], attributes := #[] }
def k4m0 : Method := { name := "<init>", desc := "()V", sig := { parameters := [], returnType := none }, accessFlags := 1, code := some k4c0 }
/-- java/lang/Number -/
def k4 : Class := { plain "java/lang/Number" (some 0) with
  accessFlags := 1057
  interfaces := #[3]
  cf := some (fileOf pool4 8 #[] #[{ accessFlags := 1, nameIndex := 5, descriptorIndex := 6, attributes := #[] }] 1057 2 #[13] #[{ accessFlags := 26, nameIndex := 15, descriptorIndex := 16, attributes := #[] }])
  fields := #[{ name := "serialVersionUID", type := .long, accessFlags := 26, slot := 0, constantValue := 0 }]
  methods := #[k4m0]
  instanceTypes := #[]
  staticTypes := #[.long]
  resolved := Array.replicate 37 none
  statics := none }

def pool5 : Array CpInfo := pool [(1, .class_ 2), (0, u "java/lang/Comparable"), (0, .class_ 4), (0, u "java/lang/Object")] 7

/-- java/lang/Comparable -/
def k5 : Class := { plain "java/lang/Comparable" (some 0) with
  accessFlags := 1537
  interfaces := #[]
  cf := some (fileOf pool5 1 #[] #[] 1537 3 #[] #[])
  fields := #[]
  methods := #[]
  instanceTypes := #[]
  staticTypes := #[]
  resolved := Array.replicate 12 none
  statics := none }

def pool6 : Array CpInfo := pool [(1, .class_ 2), (0, u "java/lang/constant/Constable"), (0, .class_ 4), (0, u "java/lang/Object")] 6

/-- java/lang/constant/Constable -/
def k6 : Class := { plain "java/lang/constant/Constable" (some 0) with
  accessFlags := 1537
  interfaces := #[]
  cf := some (fileOf pool6 1 #[] #[] 1537 3 #[] #[])
  fields := #[]
  methods := #[]
  instanceTypes := #[]
  staticTypes := #[]
  resolved := Array.replicate 11 none
  statics := none }

def pool7 : Array CpInfo := pool [(1, .class_ 2), (0, u "java/lang/constant/ConstantDesc"), (0, .class_ 4), (0, u "java/lang/Object")] 32

/-- java/lang/constant/ConstantDesc -/
def k7 : Class := { plain "java/lang/constant/ConstantDesc" (some 0) with
  accessFlags := 1537
  interfaces := #[]
  cf := some (fileOf pool7 1 #[] #[] 1537 3 #[] #[])
  fields := #[]
  methods := #[]
  instanceTypes := #[]
  staticTypes := #[]
  resolved := Array.replicate 37 none
  statics := none }

def pool8 : Array CpInfo := pool [(1, .class_ 2), (0, u "java/lang/Long"), (55, .nameAndType 59 60), (0, u "<init>"), (0, u "()V"), (24, u "valueOf"), (143, u "(J)Ljava/lang/Long;"), (0, .long 18446744073709551488), (1, .long 127), (1, .fieldref 235 236), (0, .class_ 237), (0, .nameAndType 238 239), (0, u "java/lang/Long$LongCache"), (0, u "cache"), (0, u "[Ljava/lang/Long;"), (0, .methodref 1 241), (0, .nameAndType 59 242), (0, u "(J)V"), (27, .methodref 271 58), (0, .class_ 272), (0, u "java/lang/Number"), (0, .fieldref 1 274), (0, .nameAndType 275 276), (0, u "value"), (0, u "J"), (84, u "TYPE"), (0, u "Ljava/lang/Class;"), (0, .class_ 364), (0, u "java/lang/Comparable"), (0, .class_ 366), (0, u "java/lang/constant/Constable"), (0, .class_ 368), (0, u "java/lang/constant/ConstantDesc"), (0, u "MIN_VALUE"), (1, u "MAX_VALUE"), (4, u "SIZE"), (0, u "I"), (1, u "BYTES"), (1, u "serialVersionUID")] 142

def k8c0 : Code := { maxStack := 4, maxLocals := 3, code := jdk_35_method_24_code, exceptionTable := #[], attributes := #[] }
def k8m0 : Method := { name := "valueOf", desc := "(J)Ljava/lang/Long;", sig := { parameters := [.long], returnType := some (.object "java/lang/Long") }, accessFlags := 9, code := some k8c0 }
def k8c1 : Code := { maxStack := 3, maxLocals := 3, code := jdk_35_method_26_code, exceptionTable := #[], attributes := #[] }
def k8m1 : Method := { name := "<init>", desc := "(J)V", sig := { parameters := [.long], returnType := none }, accessFlags := 1, code := some k8c1 }
/-- java/lang/Long -/
def k8 : Class := { plain "java/lang/Long" (some 4) with
  accessFlags := 49
  interfaces := #[5, 6, 7]
  cf := some (fileOf pool8 1 #[.nestMembers #[235]] #[{ accessFlags := 9, nameIndex := 85, descriptorIndex := 229, attributes := #[] }, { accessFlags := 1, nameIndex := 59, descriptorIndex := 242, attributes := #[] }] 49 271 #[363, 365, 367] #[{ accessFlags := 25, nameIndex := 369, descriptorIndex := 276, attributes := #[] }, { accessFlags := 25, nameIndex := 371, descriptorIndex := 276, attributes := #[] }, { accessFlags := 25, nameIndex := 361, descriptorIndex := 362, attributes := #[] }, { accessFlags := 18, nameIndex := 275, descriptorIndex := 276, attributes := #[] }, { accessFlags := 25, nameIndex := 376, descriptorIndex := 377, attributes := #[] }, { accessFlags := 25, nameIndex := 379, descriptorIndex := 377, attributes := #[] }, { accessFlags := 26, nameIndex := 381, descriptorIndex := 276, attributes := #[] }])
  fields := #[{ name := "MIN_VALUE", type := .long, accessFlags := 25, slot := 0, constantValue := 0 }, { name := "MAX_VALUE", type := .long, accessFlags := 25, slot := 1, constantValue := 0 }, { name := "TYPE", type := (.object "java/lang/Class"), accessFlags := 25, slot := 2, constantValue := 0 }, { name := "value", type := .long, accessFlags := 18, slot := 0, constantValue := 0 }, { name := "SIZE", type := .int, accessFlags := 25, slot := 3, constantValue := 0 }, { name := "BYTES", type := .int, accessFlags := 25, slot := 4, constantValue := 0 }, { name := "serialVersionUID", type := .long, accessFlags := 26, slot := 5, constantValue := 0 }]
  methods := #[k8m0, k8m1]
  instanceTypes := #[.long]
  staticTypes := #[.long, .long, (.object "java/lang/Class"), .int, .int, .long]
  resolved := Array.replicate 524 none
  statics := none }

def pool9 : Array CpInfo := pool [(2, .class_ 4), (1, u "java/lang/Object"), (0, u "<init>"), (0, u "()V"), (0, .class_ 8), (0, u "java/lang/Long"), (7, .class_ 18), (1, u "java/lang/Long$LongCache"), (0, u "$assertionsDisabled"), (0, u "Z"), (8, u "archivedCache"), (0, u "[Ljava/lang/Long;"), (7, u "cache")] 24

def k9m0 : Method := { name := "<init>", desc := "()V", sig := { parameters := [], returnType := none }, accessFlags := 2, code := none }
/-- java/lang/Long$LongCache -/
def k9 : Class := { plain "java/lang/Long$LongCache" (some 0) with
  accessFlags := 48
  interfaces := #[]
  cf := some (fileOf pool9 16 #[.nestHost 7] #[{ accessFlags := 2, nameIndex := 5, descriptorIndex := 6, attributes := #[] }] 48 2 #[] #[{ accessFlags := 24, nameIndex := 38, descriptorIndex := 30, attributes := #[] }, { accessFlags := 8, nameIndex := 29, descriptorIndex := 30, attributes := #[] }, { accessFlags := 4120, nameIndex := 19, descriptorIndex := 20, attributes := #[] }])
  fields := #[{ name := "cache", type := (.array (.object "java/lang/Long")), accessFlags := 24, slot := 0, constantValue := 0 }, { name := "archivedCache", type := (.array (.object "java/lang/Long")), accessFlags := 8, slot := 1, constantValue := 0 }, { name := "$assertionsDisabled", type := .boolean, accessFlags := 4120, slot := 2, constantValue := 0 }]
  methods := #[k9m0]
  instanceTypes := #[]
  staticTypes := #[(.array (.object "java/lang/Long")), (.array (.object "java/lang/Long")), .boolean]
  resolved := Array.replicate 63 none
  statics := some 0 }

def pool10 : Array CpInfo := pool [(1, u "java/lang/Cloneable"), (0, .class_ 1), (0, u "java/lang/Object"), (0, .class_ 3)] 3

/-- java/lang/Cloneable -/
def k10 : Class := { plain "java/lang/Cloneable" (some 0) with
  accessFlags := 1537
  interfaces := #[]
  cf := some (fileOf pool10 2 #[] #[] 1537 4 #[] #[])
  fields := #[]
  methods := #[]
  instanceTypes := #[]
  staticTypes := #[]
  resolved := Array.replicate 8 none
  statics := none }

/-- the primitive byte -/
def k11 : Class := { plain "byte" none with kind := .primitive 'B', accessFlags := 0x411 }
/-- [B -/
def k12 : Class := { plain "[B" (some 0) with kind := .array 11 .byte, interfaces := #[10, 3], accessFlags := 1041 }

/-- the primitive int -/
def k13 : Class := { plain "int" none with kind := .primitive 'I', accessFlags := 0x411 }
/-- [I -/
def k14 : Class := { plain "[I" (some 0) with kind := .array 13 .int, interfaces := #[10, 3], accessFlags := 1041 }

/-- [Ljava/lang/Long; -/
def k15 : Class := { plain "[Ljava/lang/Long;" (some 0) with kind := .array 8 (.object "java/lang/Long"), interfaces := #[10, 3], accessFlags := 1041 }

def heap : Heap := #[{ cls := 9, slots := #[.ref 1, .null, .int 0], vm := .statics 9 },
  { cls := 15, slots := #[.ref 2, .ref 3, .ref 4, .ref 5, .ref 6, .ref 7, .ref 8, .ref 9, .ref 10, .ref 11, .ref 12, .ref 13, .ref 14, .ref 15, .ref 16, .ref 17, .ref 18, .ref 19, .ref 20, .ref 21, .ref 22, .ref 23, .ref 24, .ref 25, .ref 26, .ref 27, .ref 28, .ref 29, .ref 30, .ref 31, .ref 32, .ref 33, .ref 34, .ref 35, .ref 36, .ref 37, .ref 38, .ref 39, .ref 40, .ref 41, .ref 42, .ref 43, .ref 44, .ref 45, .ref 46, .ref 47, .ref 48, .ref 49, .ref 50, .ref 51, .ref 52, .ref 53, .ref 54, .ref 55, .ref 56, .ref 57, .ref 58, .ref 59, .ref 60, .ref 61, .ref 62, .ref 63, .ref 64, .ref 65, .ref 66, .ref 67, .ref 68, .ref 69, .ref 70, .ref 71, .ref 72, .ref 73, .ref 74, .ref 75, .ref 76, .ref 77, .ref 78, .ref 79, .ref 80, .ref 81, .ref 82, .ref 83, .ref 84, .ref 85, .ref 86, .ref 87, .ref 88, .ref 89, .ref 90, .ref 91, .ref 92, .ref 93, .ref 94, .ref 95, .ref 96, .ref 97, .ref 98, .ref 99, .ref 100, .ref 101, .ref 102, .ref 103, .ref 104, .ref 105, .ref 106, .ref 107, .ref 108, .ref 109, .ref 110, .ref 111, .ref 112, .ref 113, .ref 114, .ref 115, .ref 116, .ref 117, .ref 118, .ref 119, .ref 120, .ref 121, .ref 122, .ref 123, .ref 124, .ref 125, .ref 126, .ref 127, .ref 128, .ref 129, .ref 130, .ref 131, .ref 132, .ref 133, .ref 134, .ref 135, .ref 136, .ref 137, .ref 138, .ref 139, .ref 140, .ref 141, .ref 142, .ref 143, .ref 144, .ref 145, .ref 146, .ref 147, .ref 148, .ref 149, .ref 150, .ref 151, .ref 152, .ref 153, .ref 154, .ref 155, .ref 156, .ref 157, .ref 158, .ref 159, .ref 160, .ref 161, .ref 162, .ref 163, .ref 164, .ref 165, .ref 166, .ref 167, .ref 168, .ref 169, .ref 170, .ref 171, .ref 172, .ref 173, .ref 174, .ref 175, .ref 176, .ref 177, .ref 178, .ref 179, .ref 180, .ref 181, .ref 182, .ref 183, .ref 184, .ref 185, .ref 186, .ref 187, .ref 188, .ref 189, .ref 190, .ref 191, .ref 192, .ref 193, .ref 194, .ref 195, .ref 196, .ref 197, .ref 198, .ref 199, .ref 200, .ref 201, .ref 202, .ref 203, .ref 204, .ref 205, .ref 206, .ref 207, .ref 208, .ref 209, .ref 210, .ref 211, .ref 212, .ref 213, .ref 214, .ref 215, .ref 216, .ref 217, .ref 218, .ref 219, .ref 220, .ref 221, .ref 222, .ref 223, .ref 224, .ref 225, .ref 226, .ref 227, .ref 228, .ref 229, .ref 230, .ref 231, .ref 232, .ref 233, .ref 234, .ref 235, .ref 236, .ref 237, .ref 238, .ref 239, .ref 240, .ref 241, .ref 242, .ref 243, .ref 244, .ref 245, .ref 246, .ref 247, .ref 248, .ref 249, .ref 250, .ref 251, .ref 252, .ref 253, .ref 254, .ref 255, .ref 256, .ref 257], vm := .none },
  { cls := 8, slots := #[.long (-128)], vm := .none },
  { cls := 8, slots := #[.long (-127)], vm := .none },
  { cls := 8, slots := #[.long (-126)], vm := .none },
  { cls := 8, slots := #[.long (-125)], vm := .none },
  { cls := 8, slots := #[.long (-124)], vm := .none },
  { cls := 8, slots := #[.long (-123)], vm := .none },
  { cls := 8, slots := #[.long (-122)], vm := .none },
  { cls := 8, slots := #[.long (-121)], vm := .none },
  { cls := 8, slots := #[.long (-120)], vm := .none },
  { cls := 8, slots := #[.long (-119)], vm := .none },
  { cls := 8, slots := #[.long (-118)], vm := .none },
  { cls := 8, slots := #[.long (-117)], vm := .none },
  { cls := 8, slots := #[.long (-116)], vm := .none },
  { cls := 8, slots := #[.long (-115)], vm := .none },
  { cls := 8, slots := #[.long (-114)], vm := .none },
  { cls := 8, slots := #[.long (-113)], vm := .none },
  { cls := 8, slots := #[.long (-112)], vm := .none },
  { cls := 8, slots := #[.long (-111)], vm := .none },
  { cls := 8, slots := #[.long (-110)], vm := .none },
  { cls := 8, slots := #[.long (-109)], vm := .none },
  { cls := 8, slots := #[.long (-108)], vm := .none },
  { cls := 8, slots := #[.long (-107)], vm := .none },
  { cls := 8, slots := #[.long (-106)], vm := .none },
  { cls := 8, slots := #[.long (-105)], vm := .none },
  { cls := 8, slots := #[.long (-104)], vm := .none },
  { cls := 8, slots := #[.long (-103)], vm := .none },
  { cls := 8, slots := #[.long (-102)], vm := .none },
  { cls := 8, slots := #[.long (-101)], vm := .none },
  { cls := 8, slots := #[.long (-100)], vm := .none },
  { cls := 8, slots := #[.long (-99)], vm := .none },
  { cls := 8, slots := #[.long (-98)], vm := .none },
  { cls := 8, slots := #[.long (-97)], vm := .none },
  { cls := 8, slots := #[.long (-96)], vm := .none },
  { cls := 8, slots := #[.long (-95)], vm := .none },
  { cls := 8, slots := #[.long (-94)], vm := .none },
  { cls := 8, slots := #[.long (-93)], vm := .none },
  { cls := 8, slots := #[.long (-92)], vm := .none },
  { cls := 8, slots := #[.long (-91)], vm := .none },
  { cls := 8, slots := #[.long (-90)], vm := .none },
  { cls := 8, slots := #[.long (-89)], vm := .none },
  { cls := 8, slots := #[.long (-88)], vm := .none },
  { cls := 8, slots := #[.long (-87)], vm := .none },
  { cls := 8, slots := #[.long (-86)], vm := .none },
  { cls := 8, slots := #[.long (-85)], vm := .none },
  { cls := 8, slots := #[.long (-84)], vm := .none },
  { cls := 8, slots := #[.long (-83)], vm := .none },
  { cls := 8, slots := #[.long (-82)], vm := .none },
  { cls := 8, slots := #[.long (-81)], vm := .none },
  { cls := 8, slots := #[.long (-80)], vm := .none },
  { cls := 8, slots := #[.long (-79)], vm := .none },
  { cls := 8, slots := #[.long (-78)], vm := .none },
  { cls := 8, slots := #[.long (-77)], vm := .none },
  { cls := 8, slots := #[.long (-76)], vm := .none },
  { cls := 8, slots := #[.long (-75)], vm := .none },
  { cls := 8, slots := #[.long (-74)], vm := .none },
  { cls := 8, slots := #[.long (-73)], vm := .none },
  { cls := 8, slots := #[.long (-72)], vm := .none },
  { cls := 8, slots := #[.long (-71)], vm := .none },
  { cls := 8, slots := #[.long (-70)], vm := .none },
  { cls := 8, slots := #[.long (-69)], vm := .none },
  { cls := 8, slots := #[.long (-68)], vm := .none },
  { cls := 8, slots := #[.long (-67)], vm := .none },
  { cls := 8, slots := #[.long (-66)], vm := .none },
  { cls := 8, slots := #[.long (-65)], vm := .none },
  { cls := 8, slots := #[.long (-64)], vm := .none },
  { cls := 8, slots := #[.long (-63)], vm := .none },
  { cls := 8, slots := #[.long (-62)], vm := .none },
  { cls := 8, slots := #[.long (-61)], vm := .none },
  { cls := 8, slots := #[.long (-60)], vm := .none },
  { cls := 8, slots := #[.long (-59)], vm := .none },
  { cls := 8, slots := #[.long (-58)], vm := .none },
  { cls := 8, slots := #[.long (-57)], vm := .none },
  { cls := 8, slots := #[.long (-56)], vm := .none },
  { cls := 8, slots := #[.long (-55)], vm := .none },
  { cls := 8, slots := #[.long (-54)], vm := .none },
  { cls := 8, slots := #[.long (-53)], vm := .none },
  { cls := 8, slots := #[.long (-52)], vm := .none },
  { cls := 8, slots := #[.long (-51)], vm := .none },
  { cls := 8, slots := #[.long (-50)], vm := .none },
  { cls := 8, slots := #[.long (-49)], vm := .none },
  { cls := 8, slots := #[.long (-48)], vm := .none },
  { cls := 8, slots := #[.long (-47)], vm := .none },
  { cls := 8, slots := #[.long (-46)], vm := .none },
  { cls := 8, slots := #[.long (-45)], vm := .none },
  { cls := 8, slots := #[.long (-44)], vm := .none },
  { cls := 8, slots := #[.long (-43)], vm := .none },
  { cls := 8, slots := #[.long (-42)], vm := .none },
  { cls := 8, slots := #[.long (-41)], vm := .none },
  { cls := 8, slots := #[.long (-40)], vm := .none },
  { cls := 8, slots := #[.long (-39)], vm := .none },
  { cls := 8, slots := #[.long (-38)], vm := .none },
  { cls := 8, slots := #[.long (-37)], vm := .none },
  { cls := 8, slots := #[.long (-36)], vm := .none },
  { cls := 8, slots := #[.long (-35)], vm := .none },
  { cls := 8, slots := #[.long (-34)], vm := .none },
  { cls := 8, slots := #[.long (-33)], vm := .none },
  { cls := 8, slots := #[.long (-32)], vm := .none },
  { cls := 8, slots := #[.long (-31)], vm := .none },
  { cls := 8, slots := #[.long (-30)], vm := .none },
  { cls := 8, slots := #[.long (-29)], vm := .none },
  { cls := 8, slots := #[.long (-28)], vm := .none },
  { cls := 8, slots := #[.long (-27)], vm := .none },
  { cls := 8, slots := #[.long (-26)], vm := .none },
  { cls := 8, slots := #[.long (-25)], vm := .none },
  { cls := 8, slots := #[.long (-24)], vm := .none },
  { cls := 8, slots := #[.long (-23)], vm := .none },
  { cls := 8, slots := #[.long (-22)], vm := .none },
  { cls := 8, slots := #[.long (-21)], vm := .none },
  { cls := 8, slots := #[.long (-20)], vm := .none },
  { cls := 8, slots := #[.long (-19)], vm := .none },
  { cls := 8, slots := #[.long (-18)], vm := .none },
  { cls := 8, slots := #[.long (-17)], vm := .none },
  { cls := 8, slots := #[.long (-16)], vm := .none },
  { cls := 8, slots := #[.long (-15)], vm := .none },
  { cls := 8, slots := #[.long (-14)], vm := .none },
  { cls := 8, slots := #[.long (-13)], vm := .none },
  { cls := 8, slots := #[.long (-12)], vm := .none },
  { cls := 8, slots := #[.long (-11)], vm := .none },
  { cls := 8, slots := #[.long (-10)], vm := .none },
  { cls := 8, slots := #[.long (-9)], vm := .none },
  { cls := 8, slots := #[.long (-8)], vm := .none },
  { cls := 8, slots := #[.long (-7)], vm := .none },
  { cls := 8, slots := #[.long (-6)], vm := .none },
  { cls := 8, slots := #[.long (-5)], vm := .none },
  { cls := 8, slots := #[.long (-4)], vm := .none },
  { cls := 8, slots := #[.long (-3)], vm := .none },
  { cls := 8, slots := #[.long (-2)], vm := .none },
  { cls := 8, slots := #[.long (-1)], vm := .none },
  { cls := 8, slots := #[.long 0], vm := .none },
  { cls := 8, slots := #[.long 1], vm := .none },
  { cls := 8, slots := #[.long 2], vm := .none },
  { cls := 8, slots := #[.long 3], vm := .none },
  { cls := 8, slots := #[.long 4], vm := .none },
  { cls := 8, slots := #[.long 5], vm := .none },
  { cls := 8, slots := #[.long 6], vm := .none },
  { cls := 8, slots := #[.long 7], vm := .none },
  { cls := 8, slots := #[.long 8], vm := .none },
  { cls := 8, slots := #[.long 9], vm := .none },
  { cls := 8, slots := #[.long 10], vm := .none },
  { cls := 8, slots := #[.long 11], vm := .none },
  { cls := 8, slots := #[.long 12], vm := .none },
  { cls := 8, slots := #[.long 13], vm := .none },
  { cls := 8, slots := #[.long 14], vm := .none },
  { cls := 8, slots := #[.long 15], vm := .none },
  { cls := 8, slots := #[.long 16], vm := .none },
  { cls := 8, slots := #[.long 17], vm := .none },
  { cls := 8, slots := #[.long 18], vm := .none },
  { cls := 8, slots := #[.long 19], vm := .none },
  { cls := 8, slots := #[.long 20], vm := .none },
  { cls := 8, slots := #[.long 21], vm := .none },
  { cls := 8, slots := #[.long 22], vm := .none },
  { cls := 8, slots := #[.long 23], vm := .none },
  { cls := 8, slots := #[.long 24], vm := .none },
  { cls := 8, slots := #[.long 25], vm := .none },
  { cls := 8, slots := #[.long 26], vm := .none },
  { cls := 8, slots := #[.long 27], vm := .none },
  { cls := 8, slots := #[.long 28], vm := .none },
  { cls := 8, slots := #[.long 29], vm := .none },
  { cls := 8, slots := #[.long 30], vm := .none },
  { cls := 8, slots := #[.long 31], vm := .none },
  { cls := 8, slots := #[.long 32], vm := .none },
  { cls := 8, slots := #[.long 33], vm := .none },
  { cls := 8, slots := #[.long 34], vm := .none },
  { cls := 8, slots := #[.long 35], vm := .none },
  { cls := 8, slots := #[.long 36], vm := .none },
  { cls := 8, slots := #[.long 37], vm := .none },
  { cls := 8, slots := #[.long 38], vm := .none },
  { cls := 8, slots := #[.long 39], vm := .none },
  { cls := 8, slots := #[.long 40], vm := .none },
  { cls := 8, slots := #[.long 41], vm := .none },
  { cls := 8, slots := #[.long 42], vm := .none },
  { cls := 8, slots := #[.long 43], vm := .none },
  { cls := 8, slots := #[.long 44], vm := .none },
  { cls := 8, slots := #[.long 45], vm := .none },
  { cls := 8, slots := #[.long 46], vm := .none },
  { cls := 8, slots := #[.long 47], vm := .none },
  { cls := 8, slots := #[.long 48], vm := .none },
  { cls := 8, slots := #[.long 49], vm := .none },
  { cls := 8, slots := #[.long 50], vm := .none },
  { cls := 8, slots := #[.long 51], vm := .none },
  { cls := 8, slots := #[.long 52], vm := .none },
  { cls := 8, slots := #[.long 53], vm := .none },
  { cls := 8, slots := #[.long 54], vm := .none },
  { cls := 8, slots := #[.long 55], vm := .none },
  { cls := 8, slots := #[.long 56], vm := .none },
  { cls := 8, slots := #[.long 57], vm := .none },
  { cls := 8, slots := #[.long 58], vm := .none },
  { cls := 8, slots := #[.long 59], vm := .none },
  { cls := 8, slots := #[.long 60], vm := .none },
  { cls := 8, slots := #[.long 61], vm := .none },
  { cls := 8, slots := #[.long 62], vm := .none },
  { cls := 8, slots := #[.long 63], vm := .none },
  { cls := 8, slots := #[.long 64], vm := .none },
  { cls := 8, slots := #[.long 65], vm := .none },
  { cls := 8, slots := #[.long 66], vm := .none },
  { cls := 8, slots := #[.long 67], vm := .none },
  { cls := 8, slots := #[.long 68], vm := .none },
  { cls := 8, slots := #[.long 69], vm := .none },
  { cls := 8, slots := #[.long 70], vm := .none },
  { cls := 8, slots := #[.long 71], vm := .none },
  { cls := 8, slots := #[.long 72], vm := .none },
  { cls := 8, slots := #[.long 73], vm := .none },
  { cls := 8, slots := #[.long 74], vm := .none },
  { cls := 8, slots := #[.long 75], vm := .none },
  { cls := 8, slots := #[.long 76], vm := .none },
  { cls := 8, slots := #[.long 77], vm := .none },
  { cls := 8, slots := #[.long 78], vm := .none },
  { cls := 8, slots := #[.long 79], vm := .none },
  { cls := 8, slots := #[.long 80], vm := .none },
  { cls := 8, slots := #[.long 81], vm := .none },
  { cls := 8, slots := #[.long 82], vm := .none },
  { cls := 8, slots := #[.long 83], vm := .none },
  { cls := 8, slots := #[.long 84], vm := .none },
  { cls := 8, slots := #[.long 85], vm := .none },
  { cls := 8, slots := #[.long 86], vm := .none },
  { cls := 8, slots := #[.long 87], vm := .none },
  { cls := 8, slots := #[.long 88], vm := .none },
  { cls := 8, slots := #[.long 89], vm := .none },
  { cls := 8, slots := #[.long 90], vm := .none },
  { cls := 8, slots := #[.long 91], vm := .none },
  { cls := 8, slots := #[.long 92], vm := .none },
  { cls := 8, slots := #[.long 93], vm := .none },
  { cls := 8, slots := #[.long 94], vm := .none },
  { cls := 8, slots := #[.long 95], vm := .none },
  { cls := 8, slots := #[.long 96], vm := .none },
  { cls := 8, slots := #[.long 97], vm := .none },
  { cls := 8, slots := #[.long 98], vm := .none },
  { cls := 8, slots := #[.long 99], vm := .none },
  { cls := 8, slots := #[.long 100], vm := .none },
  { cls := 8, slots := #[.long 101], vm := .none },
  { cls := 8, slots := #[.long 102], vm := .none },
  { cls := 8, slots := #[.long 103], vm := .none },
  { cls := 8, slots := #[.long 104], vm := .none },
  { cls := 8, slots := #[.long 105], vm := .none },
  { cls := 8, slots := #[.long 106], vm := .none },
  { cls := 8, slots := #[.long 107], vm := .none },
  { cls := 8, slots := #[.long 108], vm := .none },
  { cls := 8, slots := #[.long 109], vm := .none },
  { cls := 8, slots := #[.long 110], vm := .none },
  { cls := 8, slots := #[.long 111], vm := .none },
  { cls := 8, slots := #[.long 112], vm := .none },
  { cls := 8, slots := #[.long 113], vm := .none },
  { cls := 8, slots := #[.long 114], vm := .none },
  { cls := 8, slots := #[.long 115], vm := .none },
  { cls := 8, slots := #[.long 116], vm := .none },
  { cls := 8, slots := #[.long 117], vm := .none },
  { cls := 8, slots := #[.long 118], vm := .none },
  { cls := 8, slots := #[.long 119], vm := .none },
  { cls := 8, slots := #[.long 120], vm := .none },
  { cls := 8, slots := #[.long 121], vm := .none },
  { cls := 8, slots := #[.long 122], vm := .none },
  { cls := 8, slots := #[.long 123], vm := .none },
  { cls := 8, slots := #[.long 124], vm := .none },
  { cls := 8, slots := #[.long 125], vm := .none },
  { cls := 8, slots := #[.long 126], vm := .none },
  { cls := 8, slots := #[.long 127], vm := .none }]
def classes : Array Class := #[k0, k1, k2, k3, k4, k5, k6, k7, k8, k9, k10, k11, k12, k13, k14, k15]
def interned : List (Array UInt16 × Addr) := []
def slotsUsed : Nat := 515
def theMethod : MethodId := ⟨1, 1⟩
def args0 : Array Value := #[.long 5, .long 5, .long 5, .long 5, .int 5]
def aboutOver (below : List Frame) : State where
  vm := { classes := classes, interned := interned.toArray }
  heap := heap
  slotsUsed := slotsUsed
  threads := #[{ frames := .invoking theMethod args0 :: below }]
def below0 : List Frame := [.native { method := ⟨0, 0⟩, args := #[] }]
def about1 : State := aboutOver below0
def p0 : Program := .bare "" "" ""
def e0 : Env := launch0.env 0 0 0
theorem w_frames : about1.frames = Frame.invoking theMethod args0 :: below0 := rfl
set_option maxRecDepth 65536 in
theorem w_args : argsFit about1.vm theMethod args0 = true := by decide +kernel
set_option maxRecDepth 65536 in
theorem w_heap : heapFits about1 = true := by decide +kernel
set_option maxRecDepth 65536 in
theorem w_runnable : about1.curStatus? = some .runnable := by decide +kernel
set_option maxRecDepth 65536 in
theorem w_alone : about1.alone = true := by decide +kernel
set_option maxRecDepth 65536 in
theorem w_named : about1.methodNamed? x = some theMethod := by decide +kernel
set_option maxRecDepth 65536 in
theorem w_hears : about1.hears theMethod below0 = true := by decide +kernel
set_option maxRecDepth 65536 in
theorem w_ripe : about1.ripe theMethod args0 below0 = true := by decide +kernel
theorem w_running : about1.status = .running := rfl
set_option maxRecDepth 65536 in
theorem w_room : about1.hasRoom e0.platform room_1 = true :=
  launch0.hasRoom_least _ room_1 (by decide +kernel) (by decide +kernel) (by decide +kernel) (by decide +kernel) (by decide +kernel) (by decide +kernel)
theorem allAtoms_all (ts : List Jvm.Cond) (a : Array Jvm.Value) (st : Jvm.State) : (allAtoms ts).before a st = ts.all (fun c => c.before a st) := by
  induction ts with
  | nil => rfl
  | cons c t ih =>
    show (Jvm.Cond.and c (allAtoms t)).before a st = _
    rw [Jvm.Cond.before_and, ih, List.all_cons]
def words1 : List Jvm.Cond := Jvm.Cond.code x code maxLocals ret :: tables_1
/-- a 'code' word, met by the world's own term for the bytes: nothing is compared byte by byte -/
theorem code_word {y : MethodName} {bytes : ByteArray} {mx : Nat} {rt : Option FieldType} {a : Array Value} {s : State} {m : MethodId} {meth : Method} {c : Code} (h1 : s.methodNamed? y = some m) (h2 : s.vm.method? m = some meth) (h3 : meth.code = some c) (h4 : c.code = bytes)
    (h5 : (c.maxLocals == mx && c.exceptionTable.isEmpty && decide (c.maxStack ≤ mostOperands) && decide (meth.sig.returnType = rt) && !meth.locks && decide (parseMethodDescriptor y.desc = some meth.sig)) = true) : (Jvm.Cond.code y bytes mx rt).before a s = true := by
  simp only [Bool.and_eq_true, beq_iff_eq, Bool.not_eq_true', decide_eq_true_eq] at h5
  obtain ⟨⟨⟨⟨⟨g1, g2⟩, g3⟩, g4⟩, g5⟩, g6⟩ := h5
  simp [Cond.before, Cond.holds, Cond.value, h1, h2, h3, h4, g1, g2, g3, g4, g5, g6]
def isCode : Jvm.Cond → Bool
  | .code _ _ _ _ => true
  | _ => false
theorem all_split {L : List Jvm.Cond} {P : Jvm.Cond → Bool} (h1 : L.all (fun c => isCode c || P c) = true) (h2 : ∀ c ∈ L.filter isCode, P c = true) : L.all P = true := by
  refine List.all_eq_true.mpr fun c hc => ?_
  have h := List.all_eq_true.mp h1 c hc
  rcases Bool.eq_false_or_eq_true (isCode c) with hi | hi
  · exact h2 c (List.mem_filter.mpr ⟨hc, hi⟩)
  · simpa [hi] using h
set_option maxRecDepth 65536 in
theorem w_c0 : (Jvm.Cond.code x code maxLocals ret).before args0 about1 = true := code_word (m := ⟨1, 1⟩) (meth := k1m1) (c := k1c1) (by decide +kernel) rfl rfl rfl (by decide +kernel)
set_option maxRecDepth 65536 in
theorem w_c1 : (Jvm.Cond.code ({ cls := "com/example/rolling_quorum/rollingquorum/protocol/TimestampedOffset", name := "<init>", desc := "(JJ)V" } : Jvm.MethodName) prog_64_method_1_code (5 : Nat) (Option.none : Option Jvm.ClassFile.FieldType)).before args0 about1 = true := code_word (m := ⟨2, 0⟩) (meth := k2m0) (c := k2c0) (by decide +kernel) rfl rfl rfl (by decide +kernel)
set_option maxRecDepth 65536 in
theorem w_c2 : (Jvm.Cond.code ({ cls := "java/lang/Object", name := "<init>", desc := "()V" } : Jvm.MethodName) object_method_1_code (1 : Nat) (Option.none : Option Jvm.ClassFile.FieldType)).before args0 about1 = true := code_word (m := ⟨0, 0⟩) (meth := k0m0) (c := k0c0) (by decide +kernel) rfl rfl rfl (by decide +kernel)
set_option maxRecDepth 65536 in
theorem w_c3 : (Jvm.Cond.code ({ cls := "com/example/rolling_quorum/rollingquorum/protocol/TimestampedOffset", name := "equals", desc := "(Ljava/lang/Object;)Z" } : Jvm.MethodName) prog_64_method_4_code (3 : Nat) (Option.some Jvm.ClassFile.FieldType.boolean)).before args0 about1 = true := code_word (m := ⟨2, 1⟩) (meth := k2m1) (c := k2c1) (by decide +kernel) rfl rfl rfl (by decide +kernel)
set_option maxRecDepth 65536 in
theorem w_c4 : (Jvm.Cond.code ({ cls := "java/lang/Long", name := "valueOf", desc := "(J)Ljava/lang/Long;" } : Jvm.MethodName) jdk_35_method_24_code (3 : Nat) (Option.some (Jvm.ClassFile.FieldType.object "java/lang/Long"))).before args0 about1 = true := code_word (m := ⟨8, 0⟩) (meth := k8m0) (c := k8c0) (by decide +kernel) rfl rfl rfl (by decide +kernel)
set_option maxRecDepth 65536 in
theorem w_c5 : (Jvm.Cond.code ({ cls := "java/lang/Long", name := "<init>", desc := "(J)V" } : Jvm.MethodName) jdk_35_method_26_code (3 : Nat) (Option.none : Option Jvm.ClassFile.FieldType)).before args0 about1 = true := code_word (m := ⟨8, 1⟩) (meth := k8m1) (c := k8c1) (by decide +kernel) rfl rfl rfl (by decide +kernel)
set_option maxRecDepth 65536 in
theorem w_c6 : (Jvm.Cond.code ({ cls := "java/lang/Number", name := "<init>", desc := "()V" } : Jvm.MethodName) jdk_18_method_1_code (1 : Nat) (Option.none : Option Jvm.ClassFile.FieldType)).before args0 about1 = true := code_word (m := ⟨4, 0⟩) (meth := k4m0) (c := k4c0) (by decide +kernel) rfl rfl rfl (by decide +kernel)
def codes1 : List Jvm.Cond := [Jvm.Cond.code x code maxLocals ret, Jvm.Cond.code ({ cls := "com/example/rolling_quorum/rollingquorum/protocol/TimestampedOffset", name := "<init>", desc := "(JJ)V" } : Jvm.MethodName) prog_64_method_1_code (5 : Nat) (Option.none : Option Jvm.ClassFile.FieldType), Jvm.Cond.code ({ cls := "java/lang/Object", name := "<init>", desc := "()V" } : Jvm.MethodName) object_method_1_code (1 : Nat) (Option.none : Option Jvm.ClassFile.FieldType), Jvm.Cond.code ({ cls := "com/example/rolling_quorum/rollingquorum/protocol/TimestampedOffset", name := "equals", desc := "(Ljava/lang/Object;)Z" } : Jvm.MethodName) prog_64_method_4_code (3 : Nat) (Option.some Jvm.ClassFile.FieldType.boolean), Jvm.Cond.code ({ cls := "java/lang/Long", name := "valueOf", desc := "(J)Ljava/lang/Long;" } : Jvm.MethodName) jdk_35_method_24_code (3 : Nat) (Option.some (Jvm.ClassFile.FieldType.object "java/lang/Long")), Jvm.Cond.code ({ cls := "java/lang/Long", name := "<init>", desc := "(J)V" } : Jvm.MethodName) jdk_35_method_26_code (3 : Nat) (Option.none : Option Jvm.ClassFile.FieldType), Jvm.Cond.code ({ cls := "java/lang/Number", name := "<init>", desc := "()V" } : Jvm.MethodName) jdk_18_method_1_code (1 : Nat) (Option.none : Option Jvm.ClassFile.FieldType)]
set_option maxRecDepth 65536 in
theorem codes_eq : words1.filter isCode = codes1 := rfl
theorem w_codes : ∀ c ∈ words1.filter isCode, c.before args0 about1 = true := by
  rw [codes_eq]
  intro c hc
  simp only [codes1, List.mem_cons, List.not_mem_nil, or_false] at hc
  rcases hc with rfl | rfl | rfl | rfl | rfl | rfl | rfl
  · exact w_c0
  · exact w_c1
  · exact w_c2
  · exact w_c3
  · exact w_c4
  · exact w_c5
  · exact w_c6
set_option maxRecDepth 65536 in
theorem w_t1 : (words1.take 24).all (fun c => isCode c || c.before args0 about1) = true := by decide +kernel
set_option maxRecDepth 65536 in
theorem w_t2 : (words1.drop 24).all (fun c => isCode c || c.before args0 about1) = true := by decide +kernel
theorem w_tables : (allAtoms (Jvm.Cond.code x code maxLocals ret :: tables_1)).before args0 about1 = true := by
  rw [allAtoms_all]
  show words1.all (fun c => c.before args0 about1) = true
  refine all_split ?_ w_codes
  rw [← List.take_append_drop 24 words1, List.all_append, w_t1, w_t2]
  rfl
set_option maxRecDepth 65536 in
theorem w_rest : rest_1_c.before args0 about1 = true := by decide +kernel
set_option maxRecDepth 65536 in
theorem w_case : (Jvm.Cond.and given_1 narrow_1).before args0 about1 = true := by decide +kernel
theorem w_applies : (headSpec (Jvm.Cond.code x code maxLocals ret :: tables_1) room_1).applies x e0.platform about1 = true :=
  (Spec.applies_iff w_frames).mpr ⟨w_running, w_runnable, w_alone, w_named, w_hears, w_ripe, w_room, w_tables⟩
theorem atStart : AtStart classFile x code maxLocals ret World_1 tables_1 room_1 Calls_1 rest_1 Pre_1 launch0 p0 e0 about1 theMethod args0 below0 :=
  ⟨lists_1, trivial, launch0.admits_env _ _ _, launch0.least_env, fairChoices_fair.cas, fairChoices_fair.clock, w_frames, w_args, w_heap, w_applies, trivial, w_rest, w_case⟩
end start1
theorem witness_1 : WitnessClaimed_1 := ⟨start1.p0, start1.e0, start1.about1, start1.theMethod, start1.args0, start1.below0, start1.atStart⟩
end Jvm.Pilot.@@N@@
