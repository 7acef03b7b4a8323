import JvmDerived
import JvmDerived.Pilot.@@N@@Statement
import JvmDerived.Pilot.@@N@@Code
set_option linter.unusedVariables false
set_option linter.unusedSimpArgs false
set_option maxRecDepth 65536
set_option maxHeartbeats 8000000
namespace Jvm.Pilot.@@N@@
open Jvm Jvm.ClassFile Sem Op Lib Jvm.Free Jvm.Stand Jvm.LawKit Jvm.RoadKit Bundle Jvm.Pilot.@@N@@.Jvm.D
abbrev vI (x : Int32) : Slot := .val (.int x)
abbrev vJ (x : Int64) : Slot := .val (.long x)
abbrev vR (x : Addr) : Slot := .val (.ref x)
abbrev vN : Slot := .val .null
/-- the run from S comes to an end at which K holds -/
def Go (p : Program) (e : Env) (below : List Frame) (K : State → Outcome → Prop) (S : State) : Prop := ∃ t o, Steps p.tables e below S t ∧ K t o
theorem Go.via {p : Program} {e : Env} {below : List Frame} {K : State → Outcome → Prop} {A B : State} (h : ∀ t, Steps p.tables e below B t → Steps p.tables e below A t) (g : Go p e below K B) : Go p e below K A := by
  obtain ⟨t, o, h1, h2⟩ := g; exact ⟨t, o, h t h1, h2⟩
/-- a method's end: what it returned, the heap and the places written answer Q -/
def EndK (s : State) (below : List Frame) (Q : Option Value → Heap → List Loc → Prop) (C S : Nat) (t : State) (o : Outcome) : Prop := t.status = .running ∧ Ended t below o ∧ ∃ v L, o = .returned v ∧ Q v t.heap L ∧ FrameEnd s o t L C S
/-- a method's contract -/
def Con (l : Launch) (Z : State) (y : MethodName) (bytes : ByteArray) (maxL : Nat) (ret : Option FieldType) (rm : Room) (as : Array Value) (h : Heap) (Q : Option Value → Heap → List Loc → Prop) : Prop :=
  ∀ ws, MetFree l y (head1 (Jvm.Cond.code y bytes maxL ret :: ws) rm) (fun a U => a = as ∧ Z.Warmed39 U.vm ∧ U.heap = h) (fun _ _ _ _ _ => True) (fun _ U o U' => ∃ v L, o = .returned v ∧ Q v U'.heap L ∧ FrameEnd U o U' L rm.cells rm.slots)
theorem Con.of {l : Launch} {Z : State} {y : MethodName} {bytes : ByteArray} {maxL : Nat} {ret : Option FieldType} {rm : Room} {as : Array Value} {h : Heap} {Q : Option Value → Heap → List Loc → Prop} {Ls : Array Slot} (hp : plainFor y = true) (hfr : ∀ m, entryFrame m as maxL = mkF m 0 Ls [])
    (body : ∀ (p : Program) (e : Env) (s : State) (m : MethodId) (below : List Frame) (meth : Method) (c : Code) (T : State), Stand p l e rm s m as below meth c T [] 0 0 → p.tables.exec = Jvm.exec ∧ c.code = bytes → c.maxLocals = maxL → Z.Warmed39 s.vm → s.vm.findClass y.cls = some m.cls → meth.name = y.name → meth.sig.returnType = ret → meth.locks = false → T.heap = h → Go p e below (EndK s below Q rm.cells rm.slots) (T.setTop (mkF m 0 Ls []))) :
    Con l Z y bytes maxL ret rm as h Q := by
  intro ws
  refine MetFree.of_bodySF hp hisR ?_
  intro p e s m args below meth c s₁ Bd hml hP hK
  obtain ⟨rfl, hZ, hh⟩ := hP
  have e0 : s₁.heap = h := by rw [← hh, Bd.state]; rfl
  obtain ⟨t, o, h1, h2⟩ := body p e s m below meth c s₁ (Stand.of_body Bd) ⟨Bd.exec, Bd.bytes⟩ hml hZ (findClass_of_methodNamed Bd.named) (name_of_methodNamed Bd.named Bd.method).1 Bd.returns Bd.notSynchronized e0
  exact ⟨t, o, castTop (hfr m) h1, h2⟩
section Steps
variable {p : Program} {l : Launch} {e : Env} {R : Room} {s : State} {m : MethodId} {args : Array Value} {below : List Frame} {meth : Method} {c : Code} {T : State} {locs : List Loc} {cells slots : Nat} {K : State → Outcome → Prop} {Z : State} {a0 : Array Value} {h : Heap} {bs : ByteArray} {Ls Ls' : Array Slot} {st : List Value} {pc pc' : Nat}

theorem gIloadN (X : Stand p l e R s m args below meth c T locs cells slots) (H : p.tables.exec = Jvm.exec ∧ c.code = bs) {k : Fin 4} {v : Int32} (hd : decode bs pc = .ok (.iload_n k, 1)) (hl : Ls[k.val]? = some (.val (.int v))) (pc' : Nat) (hp : pc + 1 = pc') (g : Go p e below K (T.setTop (mkF m pc' Ls (.int v :: st)))) : Go p e below K (T.setTop (mkF m pc Ls (st))) := by
  subst hp
  exact Go.via (fun t k => XS.iloadN (g := mkF m pc Ls (st)) X.here H.1 rfl (hb H.2 hd) hl k) g

theorem gLloadN (X : Stand p l e R s m args below meth c T locs cells slots) (H : p.tables.exec = Jvm.exec ∧ c.code = bs) {k : Fin 4} {v : Int64} (hd : decode bs pc = .ok (.lload_n k, 1)) (hl : Ls[k.val]? = some (.val (.long v))) (pc' : Nat) (hp : pc + 1 = pc') (g : Go p e below K (T.setTop (mkF m pc' Ls (.long v :: st)))) : Go p e below K (T.setTop (mkF m pc Ls (st))) := by
  subst hp
  exact Go.via (fun t k => XS.lloadN (g := mkF m pc Ls (st)) X.here H.1 rfl (hb H.2 hd) hl k) g

theorem gAloadN (X : Stand p l e R s m args below meth c T locs cells slots) (H : p.tables.exec = Jvm.exec ∧ c.code = bs) {k : Fin 4} {v : Value} (hd : decode bs pc = .ok (.aload_n k, 1)) (hl : Ls[k.val]? = some (.val v)) (hv : v.isRef = true) (pc' : Nat) (hp : pc + 1 = pc') (g : Go p e below K (T.setTop (mkF m pc' Ls (v :: st)))) : Go p e below K (T.setTop (mkF m pc Ls (st))) := by
  subst hp
  exact Go.via (fun t k => XS.aloadN (g := mkF m pc Ls (st)) X.here H.1 rfl (hb H.2 hd) hl hv k) g

theorem gIstoreN (X : Stand p l e R s m args below meth c T locs cells slots) (H : p.tables.exec = Jvm.exec ∧ c.code = bs) {k : Fin 4} {v : Int32} (hd : decode bs pc = .ok (.istore_n k, 1)) (hl : storeLocals Ls k.val (.int v) = some Ls') (pc' : Nat) (hp : pc + 1 = pc') (g : Go p e below K (T.setTop (mkF m pc' Ls' (st)))) : Go p e below K (T.setTop (mkF m pc Ls (.int v :: st))) := by
  subst hp
  exact Go.via (fun t k => XS.istoreN (g := mkF m pc Ls (.int v :: st)) X.here H.1 rfl (hb H.2 hd) rfl hl k) g

theorem gAstoreN (X : Stand p l e R s m args below meth c T locs cells slots) (H : p.tables.exec = Jvm.exec ∧ c.code = bs) {k : Fin 4} {v : Value} (hd : decode bs pc = .ok (.astore_n k, 1)) (hv : v.isRef = true) (hl : storeLocals Ls k.val v = some Ls') (pc' : Nat) (hp : pc + 1 = pc') (g : Go p e below K (T.setTop (mkF m pc' Ls' (st)))) : Go p e below K (T.setTop (mkF m pc Ls (v :: st))) := by
  subst hp
  exact Go.via (fun t k => XS.astoreN (g := mkF m pc Ls (v :: st)) X.here H.1 rfl (hb H.2 hd) rfl hv hl k) g

theorem gIload (X : Stand p l e R s m args below meth c T locs cells slots) (H : p.tables.exec = Jvm.exec ∧ c.code = bs) {k : Nat} {v : Int32} (hd : decode bs pc = .ok (.iload k, 2)) (hl : Ls[k]? = some (.val (.int v))) (pc' : Nat) (hp : pc + 2 = pc') (g : Go p e below K (T.setTop (mkF m pc' Ls (.int v :: st)))) : Go p e below K (T.setTop (mkF m pc Ls (st))) := by
  subst hp
  exact Go.via (fun t k => XS.iload (g := mkF m pc Ls (st)) X.here H.1 rfl (hb H.2 hd) hl k) g

theorem gLload (X : Stand p l e R s m args below meth c T locs cells slots) (H : p.tables.exec = Jvm.exec ∧ c.code = bs) {k : Nat} {v : Int64} (hd : decode bs pc = .ok (.lload k, 2)) (hl : Ls[k]? = some (.val (.long v))) (pc' : Nat) (hp : pc + 2 = pc') (g : Go p e below K (T.setTop (mkF m pc' Ls (.long v :: st)))) : Go p e below K (T.setTop (mkF m pc Ls (st))) := by
  subst hp
  exact Go.via (fun t k => XS.lload (g := mkF m pc Ls (st)) X.here H.1 rfl (hb H.2 hd) hl k) g

theorem gAload (X : Stand p l e R s m args below meth c T locs cells slots) (H : p.tables.exec = Jvm.exec ∧ c.code = bs) {k : Nat} {v : Value} (hd : decode bs pc = .ok (.aload k, 2)) (hl : Ls[k]? = some (.val v)) (hv : v.isRef = true) (pc' : Nat) (hp : pc + 2 = pc') (g : Go p e below K (T.setTop (mkF m pc' Ls (v :: st)))) : Go p e below K (T.setTop (mkF m pc Ls (st))) := by
  subst hp
  exact Go.via (fun t k => XS.aload (g := mkF m pc Ls (st)) X.here H.1 rfl (hb H.2 hd) hl hv k) g

theorem gIstore (X : Stand p l e R s m args below meth c T locs cells slots) (H : p.tables.exec = Jvm.exec ∧ c.code = bs) {k : Nat} {v : Int32} (hd : decode bs pc = .ok (.istore k, 2)) (hl : storeLocals Ls k (.int v) = some Ls') (pc' : Nat) (hp : pc + 2 = pc') (g : Go p e below K (T.setTop (mkF m pc' Ls' (st)))) : Go p e below K (T.setTop (mkF m pc Ls (.int v :: st))) := by
  subst hp
  exact Go.via (fun t k => XS.istore (g := mkF m pc Ls (.int v :: st)) X.here H.1 rfl (hb H.2 hd) rfl hl k) g

theorem gLstore (X : Stand p l e R s m args below meth c T locs cells slots) (H : p.tables.exec = Jvm.exec ∧ c.code = bs) {k : Nat} {v : Int64} (hd : decode bs pc = .ok (.lstore k, 2)) (hl : storeLocals Ls k (.long v) = some Ls') (pc' : Nat) (hp : pc + 2 = pc') (g : Go p e below K (T.setTop (mkF m pc' Ls' (st)))) : Go p e below K (T.setTop (mkF m pc Ls (.long v :: st))) := by
  subst hp
  exact Go.via (fun t k => XS.lstore (g := mkF m pc Ls (.long v :: st)) X.here H.1 rfl (hb H.2 hd) rfl hl k) g

theorem gAstore (X : Stand p l e R s m args below meth c T locs cells slots) (H : p.tables.exec = Jvm.exec ∧ c.code = bs) {k : Nat} {v : Value} (hd : decode bs pc = .ok (.astore k, 2)) (hv : v.isRef = true) (hl : storeLocals Ls k v = some Ls') (pc' : Nat) (hp : pc + 2 = pc') (g : Go p e below K (T.setTop (mkF m pc' Ls' (st)))) : Go p e below K (T.setTop (mkF m pc Ls (v :: st))) := by
  subst hp
  exact Go.via (fun t k => XS.astore (g := mkF m pc Ls (v :: st)) X.here H.1 rfl (hb H.2 hd) rfl hv hl k) g

theorem gIconst (X : Stand p l e R s m args below meth c T locs cells slots) (H : p.tables.exec = Jvm.exec ∧ c.code = bs) {i : Int} {z : Int32} (hd : decode bs pc = .ok (.iconst i, 1)) (hz : Int32.ofInt i = z) (pc' : Nat) (hp : pc + 1 = pc') (g : Go p e below K (T.setTop (mkF m pc' Ls (.int z :: st)))) : Go p e below K (T.setTop (mkF m pc Ls (st))) := by
  subst hp hz
  exact Go.via (fun t k => XS.iconst (g := mkF m pc Ls (st)) X.here H.1 rfl (hb H.2 hd) k) g

theorem gSipush (X : Stand p l e R s m args below meth c T locs cells slots) (H : p.tables.exec = Jvm.exec ∧ c.code = bs) {i : Int} {z : Int32} (hd : decode bs pc = .ok (.sipush i, 3)) (hz : (Int16.ofInt i).toInt32 = z) (pc' : Nat) (hp : pc + 3 = pc') (g : Go p e below K (T.setTop (mkF m pc' Ls (.int z :: st)))) : Go p e below K (T.setTop (mkF m pc Ls (st))) := by
  subst hp hz
  exact Go.via (fun t k => XS.sipush (g := mkF m pc Ls (st)) X.here H.1 rfl (hb H.2 hd) k) g

theorem gNull (X : Stand p l e R s m args below meth c T locs cells slots) (H : p.tables.exec = Jvm.exec ∧ c.code = bs)  (hd : decode bs pc = .ok (.aconst_null, 1)) (pc' : Nat) (hp : pc + 1 = pc') (g : Go p e below K (T.setTop (mkF m pc' Ls (.null :: st)))) : Go p e below K (T.setTop (mkF m pc Ls (st))) := by
  subst hp
  exact Go.via (fun t k => XS.aconstNull (g := mkF m pc Ls (st)) X.here H.1 rfl (hb H.2 hd) k) g

theorem g_iadd (X : Stand p l e R s m args below meth c T locs cells slots) (H : p.tables.exec = Jvm.exec ∧ c.code = bs) {x y z : Int32} (hd : decode bs pc = .ok (.iadd, 1)) (hz : x + y = z) (pc' : Nat) (hp : pc + 1 = pc') (g : Go p e below K (T.setTop (mkF m pc' Ls (.int z :: st)))) : Go p e below K (T.setTop (mkF m pc Ls (.int y :: .int x :: st))) := by
  subst hp hz
  exact Go.via (fun t k => XS.iadd (g := mkF m pc Ls (.int y :: .int x :: st)) X.here H.1 rfl (hb H.2 hd) rfl k) g

theorem g_iand (X : Stand p l e R s m args below meth c T locs cells slots) (H : p.tables.exec = Jvm.exec ∧ c.code = bs) {x y z : Int32} (hd : decode bs pc = .ok (.iand, 1)) (hz : x &&& y = z) (pc' : Nat) (hp : pc + 1 = pc') (g : Go p e below K (T.setTop (mkF m pc' Ls (.int z :: st)))) : Go p e below K (T.setTop (mkF m pc Ls (.int y :: .int x :: st))) := by
  subst hp hz
  exact Go.via (fun t k => XS.iand (g := mkF m pc Ls (.int y :: .int x :: st)) X.here H.1 rfl (hb H.2 hd) rfl k) g

theorem g_iushr (X : Stand p l e R s m args below meth c T locs cells slots) (H : p.tables.exec = Jvm.exec ∧ c.code = bs) {x y z : Int32} (hd : decode bs pc = .ok (.iushr, 1)) (hz : (x.toUInt32 >>> (y &&& 31).toUInt32).toInt32 = z) (pc' : Nat) (hp : pc + 1 = pc') (g : Go p e below K (T.setTop (mkF m pc' Ls (.int z :: st)))) : Go p e below K (T.setTop (mkF m pc Ls (.int y :: .int x :: st))) := by
  subst hp hz
  exact Go.via (fun t k => XS.iushr (g := mkF m pc Ls (.int y :: .int x :: st)) X.here H.1 rfl (hb H.2 hd) rfl k) g

theorem g_lcmp (X : Stand p l e R s m args below meth c T locs cells slots) (H : p.tables.exec = Jvm.exec ∧ c.code = bs) {x y : Int64} {z : Int32} (hd : decode bs pc = .ok (.lcmp, 1)) (hz : lcmpW x y = z) (pc' : Nat) (hp : pc + 1 = pc') (g : Go p e below K (T.setTop (mkF m pc' Ls (.int z :: st)))) : Go p e below K (T.setTop (mkF m pc Ls (.long y :: .long x :: st))) := by
  subst hp hz
  exact Go.via (fun t k => XS.lcmp (g := mkF m pc Ls (.long y :: .long x :: st)) X.here H.1 rfl (hb H.2 hd) rfl k) g

theorem g_l2i (X : Stand p l e R s m args below meth c T locs cells slots) (H : p.tables.exec = Jvm.exec ∧ c.code = bs) {x : Int64} {z : Int32} (hd : decode bs pc = .ok (.l2i, 1)) (hz : x.toInt32 = z) (pc' : Nat) (hp : pc + 1 = pc') (g : Go p e below K (T.setTop (mkF m pc' Ls (.int z :: st)))) : Go p e below K (T.setTop (mkF m pc Ls (.long x :: st))) := by
  subst hp hz
  exact Go.via (fun t k => XS.l2i (g := mkF m pc Ls (.long x :: st)) X.here H.1 rfl (hb H.2 hd) rfl k) g

theorem gDup (X : Stand p l e R s m args below meth c T locs cells slots) (H : p.tables.exec = Jvm.exec ∧ c.code = bs) {v : Value} (hd : decode bs pc = .ok (.dup, 1)) (hc : v.category = 1) (pc' : Nat) (hp : pc + 1 = pc') (g : Go p e below K (T.setTop (mkF m pc' Ls (v :: v :: st)))) : Go p e below K (T.setTop (mkF m pc Ls (v :: st))) := by
  subst hp
  exact Go.via (fun t k => XS.dup (g := mkF m pc Ls (v :: st)) X.here H.1 rfl (hb H.2 hd) rfl hc k) g

theorem gGoto (X : Stand p l e R s m args below meth c T locs cells slots) (H : p.tables.exec = Jvm.exec ∧ c.code = bs)  {o : Int} (hd : decode bs pc = .ok (.goto o, 3)) (ho : 0 ≤ (pc : Int) + o) (pc' : Nat) (hp : ((pc : Int) + o).toNat = pc') (g : Go p e below K (T.setTop (mkF m pc' Ls (st)))) : Go p e below K (T.setTop (mkF m pc Ls (st))) :=
  Go.via (fun t k => XS.goto (g := mkF m pc Ls (st)) X.here H.1 rfl rfl (hb H.2 hd) ho hp k) g

theorem gIfY (X : Stand p l e R s m args below meth c T locs cells slots) (H : p.tables.exec = Jvm.exec ∧ c.code = bs) {cd : ClassFile.Cond} {x : Int32} {o : Int} (hd : decode bs pc = .ok (.ifCond cd o, 3)) (hc : ifCond.holds cd x = true) (ho : 0 ≤ (pc : Int) + o) (pc' : Nat) (hp : ((pc : Int) + o).toNat = pc') (g : Go p e below K (T.setTop (mkF m pc' Ls (st)))) : Go p e below K (T.setTop (mkF m pc Ls (.int x :: st))) :=
  Go.via (fun t k => XS.ifYes (g := mkF m pc Ls (.int x :: st)) X.here H.1 rfl rfl (hb H.2 hd) rfl hc ho hp k) g

theorem gCmpY (X : Stand p l e R s m args below meth c T locs cells slots) (H : p.tables.exec = Jvm.exec ∧ c.code = bs) {cd : ClassFile.Cond} {x y : Int32} {o : Int} (hd : decode bs pc = .ok (.if_icmp cd o, 3)) (hc : if_icmp.holds cd x y = true) (ho : 0 ≤ (pc : Int) + o) (pc' : Nat) (hp : ((pc : Int) + o).toNat = pc') (g : Go p e below K (T.setTop (mkF m pc' Ls (st)))) : Go p e below K (T.setTop (mkF m pc Ls (.int y :: .int x :: st))) :=
  Go.via (fun t k => XS.icmpYes (g := mkF m pc Ls (.int y :: .int x :: st)) X.here H.1 rfl rfl (hb H.2 hd) rfl hc ho hp k) g

theorem gIfN (X : Stand p l e R s m args below meth c T locs cells slots) (H : p.tables.exec = Jvm.exec ∧ c.code = bs) {o : Int} {cd : ClassFile.Cond} {x : Int32} (hd : decode bs pc = .ok (.ifCond cd o, 3)) (hc : ifCond.holds cd x = false) (pc' : Nat) (hp : pc + 3 = pc') (g : Go p e below K (T.setTop (mkF m pc' Ls (st)))) : Go p e below K (T.setTop (mkF m pc Ls (.int x :: st))) := by
  subst hp
  exact Go.via (fun t k => XS.ifNo (g := mkF m pc Ls (.int x :: st)) X.here H.1 rfl (hb H.2 hd) rfl hc k) g

theorem gCmpN (X : Stand p l e R s m args below meth c T locs cells slots) (H : p.tables.exec = Jvm.exec ∧ c.code = bs) {o : Int} {cd : ClassFile.Cond} {x y : Int32} (hd : decode bs pc = .ok (.if_icmp cd o, 3)) (hc : if_icmp.holds cd x y = false) (pc' : Nat) (hp : pc + 3 = pc') (g : Go p e below K (T.setTop (mkF m pc' Ls (st)))) : Go p e below K (T.setTop (mkF m pc Ls (.int y :: .int x :: st))) := by
  subst hp
  exact Go.via (fun t k => XS.icmpNo (g := mkF m pc Ls (.int y :: .int x :: st)) X.here H.1 rfl (hb H.2 hd) rfl hc k) g

theorem gLdc2 (X : Stand p l e R s m args below meth c T locs cells slots) (H : p.tables.exec = Jvm.exec ∧ c.code = bs) (hZ : Z.Warmed39 s.vm) {own : String} {index : Nat} (hown : s.vm.findClass own = some m.cls) {v : Int64} (w : (Cond.constantLong own index v).before a0 Z = true) (hd : decode bs pc = .ok (.ldc2_w index, 3)) (pc' : Nat) (hp : pc + 3 = pc') (g : Go p e below K (T.setTop (mkF m pc' Ls (.long v :: st)))) : Go p e below K (T.setTop (mkF m pc Ls (st))) := by
  subst hp
  exact Go.via (X.ldc2Long H.1 hown (mvT hZ w) (g := mkF m pc Ls st) rfl (hb H.2 hd)) g

theorem gGetS (X : Stand p l e R s m args below meth c T locs cells slots) (H : p.tables.exec = Jvm.exec ∧ c.code = bs) (hZ : Z.Warmed39 s.vm) {own : String} {index : Nat} (hown : s.vm.findClass own = some m.cls) {O n d : String} {v : Value} (w : (Cond.fieldLink own index O n d).before a0 Z = true) (eT : T.heap = h) (F : Sta Z h O n d v) (hd : decode bs pc = .ok (.getstatic index, 3)) (pc' : Nat) (hp : pc + 3 = pc') (g : ∀ T', Stand p l e R s m args below meth c T' locs cells slots → T'.heap = h → Go p e below K (T'.setTop (mkF m pc' Ls (v :: st)))) : Go p e below K (T.setTop (mkF m pc Ls (st))) := by
  subst hp
  obtain ⟨T', X', e', k⟩ := getS2 X H.1 hZ hown (host := "") (Or.inl w) Via.refl eT F (g := mkF m pc Ls st) rfl (hb H.2 hd)
  exact Go.via k (g T' X' e')

theorem gGetF (X : Stand p l e R s m args below meth c T locs cells slots) (H : p.tables.exec = Jvm.exec ∧ c.code = bs) (hZ : Z.Warmed39 s.vm) {own : String} {index : Nat} (hown : s.vm.findClass own = some m.cls) {R0 O n d : String} {a : Addr} {v : Value} (w : (Cond.fieldLink own index R0 n d).before a0 Z = true) (via : Via Z R0 O n d) (eT : T.heap = h) (F : Fld Z h a O n d v) (hd : decode bs pc = .ok (.getfield index, 3)) (pc' : Nat) (hp : pc + 3 = pc') (g : ∀ T', Stand p l e R s m args below meth c T' locs cells slots → T'.heap = h → Go p e below K (T'.setTop (mkF m pc' Ls (v :: st)))) : Go p e below K (T.setTop (mkF m pc Ls (.ref a :: st))) := by
  subst hp
  obtain ⟨T', X', e', k⟩ := getF X H.1 hZ hown (host := "") (Or.inl w) via eT F (g := mkF m pc Ls (.ref a :: st)) rfl rfl (hb H.2 hd)
  exact Go.via k (g T' X' e')

theorem gStatic (X : Stand p l e R s m args below meth c T locs cells slots) (H : p.tables.exec = Jvm.exec ∧ c.code = bs) (hZ : Z.Warmed39 s.vm) {own : String} {index : Nat} (hown : s.vm.findClass own = some m.cls) {y : MethodName} {bytes : ByteArray} {maxL : Nat} {ret : Option FieldType} {rm : Room} {as : Array Value} {Q : Option Value → Heap → List Loc → Prop} {W maxO : Nat} {argsL rest : List Value} {ps : List FieldType} {r : Option FieldType} (wl : (Cond.methodLink own index y).before a0 Z = true) (wst : (Cond.static y).before a0 Z = true) (hy : y.cls ≠ "java/lang/invoke/MethodHandle" ∧ y.cls ≠ "java/lang/invoke/VarHandle") (wc : (Cond.code y bytes maxL ret).before a0 Z = true) (wz : (Cond.initialized (y).cls).before a0 Z = true) (M : Con l Z y bytes maxL ret rm as h Q) (eT : T.heap = h) (hml : c.maxLocals = maxO) (hs : Ls.size = maxO) (hpd : parseMethodDescriptor y.desc = some ⟨ps, r⟩) (hlen : argsL.length = ps.length) (hstack : st = argsL.reverse ++ rest) (has : argsL.toArray = as) (hd : decode bs pc = .ok (.invokestatic index, 3)) (pc' : Nat) (hp : pc + 3 = pc')
    (g : ∀ v T' L, Q v T'.heap L → Stand p l e R s m args below meth c T' (locs ++ L) (cells + rm.cells) (slots + rm.slots) → Go p e below K (T'.setTop (mkF m pc' Ls (v.toList ++ rest)))) (hW : (rest.map fun v => v.category).sum ≤ W := by exact Nat.le_of_eq rfl) (hf : rm.frames + 1 ≤ R.frames := by decide) (hl : W + (maxL + 11) + rm.locals ≤ R.locals := by decide) (hc : cells + rm.cells ≤ R.cells := by decide) (hsl : slots + rm.slots ≤ R.slots := by decide) : Go p e below K (T.setTop (mkF m pc Ls (st))) := by
  subst hp has
  obtain ⟨v, _, ⟨T', L', k', n'⟩, -, X', ⟨L, hQ, l', y', z'⟩, k⟩ := Jvm.LawKit.callS X H.1 (y := y) hown (mvT hZ wl) (mvT hZ wst) (mvT hZ wz) (mvT hZ wc) hy (backOf (W := W) (M []) hZ wc wz hf hl) (g := mkF m pc Ls st) rfl (hs.trans hml.symm) (argsL := argsL) (rest := rest) (lenOf hpd hlen) hstack (by show 2 * 0 + _ ≤ _; omega) (hb H.2 hd) (fun _ _ => ⟨rfl, eT, hc, hsl⟩)
  dsimp only [Pt.U, Pt.locs, Pt.cells, Pt.slots] at X' l' y' z' k hQ
  subst l' y' z'
  exact Go.via k (g v T' L hQ X')

theorem gSpecial (X : Stand p l e R s m args below meth c T locs cells slots) (H : p.tables.exec = Jvm.exec ∧ c.code = bs) (hZ : Z.Warmed39 s.vm) {own : String} {index : Nat} (hown : s.vm.findClass own = some m.cls) {y : MethodName} {bytes : ByteArray} {maxL : Nat} {ret : Option FieldType} {rm : Room} {as : Array Value} {Q : Option Value → Heap → List Loc → Prop} {W maxO : Nat} {argsL rest : List Value} {ps : List FieldType} {r : Option FieldType} (hin : y.name = "<init>") (hrn : ret = none) (wl : (Cond.methodLink own index y).before a0 Z = true) (wi : (Cond.instanceMethod y).before a0 Z = true) (hy : y.cls ≠ "java/lang/invoke/MethodHandle" ∧ y.cls ≠ "java/lang/invoke/VarHandle") {b : Addr} (wc : (Cond.code y bytes maxL ret).before a0 Z = true) (wz : (Cond.initialized (y).cls).before a0 Z = true) (M : Con l Z y bytes maxL ret rm as h Q) (eT : T.heap = h) (hml : c.maxLocals = maxO) (hs : Ls.size = maxO) (hpd : parseMethodDescriptor y.desc = some ⟨ps, r⟩) (hlen : argsL.length = ps.length) (hstack : st = argsL.reverse ++ .ref b :: rest) (has : (.ref b :: argsL).toArray = as) (hd : decode bs pc = .ok (.invokespecial index, 3)) (pc' : Nat) (hp : pc + 3 = pc')
    (g : ∀ v T' L, Q v T'.heap L → Stand p l e R s m args below meth c T' (locs ++ L) (cells + rm.cells) (slots + rm.slots) → Go p e below K (T'.setTop (mkF m pc' Ls (v.toList ++ rest)))) (hW : (rest.map fun v => v.category).sum ≤ W := by exact Nat.le_of_eq rfl) (hf : rm.frames + 1 ≤ R.frames := by decide) (hl : W + (maxL + 11) + rm.locals ≤ R.locals := by decide) (hc : cells + rm.cells ≤ R.cells := by decide) (hsl : slots + rm.slots ≤ R.slots := by decide) : Go p e below K (T.setTop (mkF m pc Ls (st))) := by
  subst hp has
  subst hrn
  obtain ⟨v, _, ⟨T', L', k', n'⟩, -, X', ⟨L, hQ, l', y', z'⟩, k⟩ := X.specialBack H.1 (y := y) hin hown (mvT hZ wl) (mvT hZ wi) (mvT hZ wc) hy (backOf (W := W) (M []) hZ wc wz hf hl) (g := mkF m pc Ls st) rfl (hs.trans hml.symm) (Steps.refl _) (a := b) (argsL := argsL) (rest := rest) (lenOf hpd hlen) hstack (by show 2 * 0 + _ ≤ _; omega) (hb H.2 hd) (fun _ _ => ⟨rfl, eT, hc, hsl⟩)
  dsimp only [Pt.U, Pt.locs, Pt.cells, Pt.slots] at X' l' y' z' k hQ
  subst l' y' z'
  exact Go.via (fun t q => k.trans q) (g v T' L hQ X')

theorem gRetN (X : Stand p l e R s m args below meth c T locs cells slots) (H : p.tables.exec = Jvm.exec ∧ c.code = bs) (hlk : meth.locks = false) {Q : Option Value → Heap → List Loc → Prop} {C S : Nat} {t : FieldType} {z : Int32} (hret : meth.sig.returnType = some t) (ht : t = .boolean ∨ t = .byte ∨ t = .char ∨ t = .short) (hd : decode bs pc = .ok (.ireturn, 1)) (eT : T.heap = h) (q : Q (some (.int (nar t z))) h locs) (hC : cells ≤ C := by decide) (hS : slots ≤ S := by decide) : Go p e below (EndK s below Q C S) (T.setTop (mkF m pc Ls (.int z :: st))) := by
  subst eT
  obtain ⟨fs, hr, hrun, hended, hW, hsame⟩ := X.leave (v := (some (.int (nar t z)))) (fun h => by rw [hret] at h; cases h) hlk
  exact ⟨_, _, retN X H.1 hret ht (hb H.2 hd) hr, hrun, hended, _, _, rfl, q, ⟨_, rfl⟩, hW, hsame.mono hC hS⟩

theorem gRetA (X : Stand p l e R s m args below meth c T locs cells slots) (H : p.tables.exec = Jvm.exec ∧ c.code = bs) (hlk : meth.locks = false) {Q : Option Value → Heap → List Loc → Prop} {C S : Nat} {w : Value} {t : FieldType} (hret : meth.sig.returnType = some t) (hn : narrow t w = w) (ht : t.isReference = true) (hv : w.isRef = true) (hd : decode bs pc = .ok (.areturn, 1)) (eT : T.heap = h) (q : Q (some w) h locs) (hC : cells ≤ C := by decide) (hS : slots ≤ S := by decide) : Go p e below (EndK s below Q C S) (T.setTop (mkF m pc Ls (w :: st))) := by
  subst eT
  obtain ⟨fs, hr, hrun, hended, hW, hsame⟩ := X.leave (v := (some w)) (fun h => by rw [hret] at h; cases h) hlk
  exact ⟨_, _, retOut X H.1 hret hn (Or.inr (Or.inr (Or.inr (Or.inr ⟨rfl, ht, hv⟩)))) (hb H.2 hd) hr, hrun, hended, _, _, rfl, q, ⟨_, rfl⟩, hW, hsame.mono hC hS⟩

theorem gRetV (X : Stand p l e R s m args below meth c T locs cells slots) (H : p.tables.exec = Jvm.exec ∧ c.code = bs) (hlk : meth.locks = false) {Q : Option Value → Heap → List Loc → Prop} {C S : Nat}  (hret : meth.sig.returnType = none) (hd : decode bs pc = .ok (.return_, 1)) (eT : T.heap = h) (q : Q none h locs) (hC : cells ≤ C := by decide) (hS : slots ≤ S := by decide) : Go p e below (EndK s below Q C S) (T.setTop (mkF m pc Ls ([]))) := by
  subst eT
  obtain ⟨fs, hr, hrun, hended, hW, hsame⟩ := X.leave (v := none) (fun _ => rfl) hlk
  exact ⟨_, _, X.returnOut H.1 hret (hb H.2 hd) hr, hrun, hended, _, _, rfl, q, ⟨_, rfl⟩, hW, hsame.mono hC hS⟩

theorem gNew (X : Stand p l e R s m args below meth c T locs cells slots) (H : p.tables.exec = Jvm.exec ∧ c.code = bs) (hZ : Z.Warmed39 s.vm) {own : String} {index : Nat} (hown : s.vm.findClass own = some m.cls) {C : String} {n : Nat} (w : (Cond.classLink own index C).before a0 Z = true) (wi : (Cond.instantiable C n).before a0 Z = true) (wz : (Cond.initialized C).before a0 Z = true) (eT : T.heap = h) (hc : cells + 1 ≤ R.cells) (hsl : slots + n ≤ R.slots) (hd : decode bs pc = .ok (.new index, 3)) (pc' : Nat) (hp : pc + 3 = pc')
    (g : ∀ T' h' b, Stand p l e R s m args below meth c T' locs (cells + 1) (slots + n) → T'.heap = h' → h.size = b → Ext h h' → Exa Z h' b C → (∀ {O nm d : String} {ty : FieldType}, Laid Z a0 C O nm d → parseFieldDescriptor d = some ty → Fld Z h' b O nm d (defaultValue ty)) → Go p e below K (T'.setTop (mkF m pc' Ls (.ref b :: st)))) : Go p e below K (T.setTop (mkF m pc Ls (st))) := by
  subst hp
  obtain ⟨T', h', X', e', E', A', D', -, k⟩ := newO X H.1 hZ hown w wi wz eT (g := mkF m pc Ls st) rfl (hb H.2 hd) hc hsl
  exact Go.via k (g T' h' _ X' e' rfl E' A' D')

theorem gInitO (X : Stand p l e R s m args below meth c T locs cells slots) (H : p.tables.exec = Jvm.exec ∧ c.code = bs) (hZ : Z.Warmed39 s.vm) {own : String} {index : Nat} (hown : s.vm.findClass own = some m.cls) (w1 : (Cond.methodLink own index Lib.objectInit).before a0 Z = true) (w2 : (Cond.instanceMethod Lib.objectInit).before a0 Z = true) (w3 : (Cond.code Lib.objectInit ⟨#[0xb1]⟩ 1 none).before a0 Z = true) (eT : T.heap = h) {a : Addr} {V maxO : Nat} (hml : c.maxLocals = maxO) (hs : Ls.size = maxO) (hW : (st.map fun v => v.category).sum ≤ V) (hf : 1 ≤ R.frames) (hl : V + 12 ≤ R.locals) (hd : decode bs pc = .ok (.invokespecial index, 3)) (pc' : Nat) (hp : pc + 3 = pc')
    (g : ∀ T', Stand p l e R s m args below meth c T' locs cells slots → T'.heap = h → Go p e below K (T'.setTop (mkF m pc' Ls st))) : Go p e below K (T.setTop (mkF m pc Ls (.ref a :: st))) := by
  subst hp
  obtain ⟨T', X', e', k⟩ := initO X H.1 hZ hown w1 w2 w3 eT (g := mkF m pc Ls (.ref a :: st)) rfl (hs.trans hml.symm) rfl (hb H.2 hd) hf (W := V) (by show 2 * 0 + _ ≤ _; omega) hl
  exact Go.via k (g T' X' e')

theorem gPutF (X : Stand p l e R s m args below meth c T locs cells slots) (H : p.tables.exec = Jvm.exec ∧ c.code = bs) (hZ : Z.Warmed39 s.vm) {own : String} {index : Nat} (hown : s.vm.findClass own = some m.cls) {R0 O n d C : String} {kk : Nat} {ty : FieldType} (w : (Cond.fieldLink own index R0 n d).before a0 Z = true) (via : Via Z R0 O n d) (eT : T.heap = h) {a : Addr} {v v' old : Value} (F : Fld Z h a O n d old) (E : Exa Z h a C) (L : (Cond.lays C O n d).before a0 Z = true ∨ ((Cond.laysFinal C O n d).before a0 Z = true ∧ own = O ∧ meth.name = "<init>")) (wi : (Cond.instantiable C kk).before a0 Z = true) (hty : parseFieldDescriptor d = some ty) (hn : narrow ty v = v') (hf : fits ty v' = true) (hd : decode bs pc = .ok (.putfield index, 3)) (pc' : Nat) (hp : pc + 3 = pc')
    (g : ∀ T' h', Stand p l e R s m args below meth c T' (locs ++ [⟨a, Jvm.RoadKit.slotOf Z O n d⟩]) cells slots → T'.heap = h' → Wr h h' a (Jvm.RoadKit.slotOf Z O n d) v' → Fld Z h' a O n d v' → Go p e below K (T'.setTop (mkF m pc' Ls st))) : Go p e below K (T.setTop (mkF m pc Ls (v :: .ref a :: st))) := by
  subst hp
  obtain ⟨T', h', X', e', W', k⟩ := putFN X H.1 hZ hown w via eT F E L wi hty hn hf (g := mkF m pc Ls (v :: .ref a :: st)) rfl rfl (hb H.2 hd)
  exact Go.via k (g T' h' X' e' W' (F.same W'))

theorem gInstY (X : Stand p l e R s m args below meth c T locs cells slots) (H : p.tables.exec = Jvm.exec ∧ c.code = bs) (hZ : Z.Warmed39 s.vm) {own : String} {index : Nat} (hown : s.vm.findClass own = some m.cls) {C : String} (w : (Cond.classLink own index C).before a0 Z = true) (eT : T.heap = h) {a : Addr} (F : Ins Z h a C true) (hd : decode bs pc = .ok (.instanceof index, 3)) (pc' : Nat) (hp : pc + 3 = pc') (g : ∀ T', Stand p l e R s m args below meth c T' locs cells slots → T'.heap = h → Go p e below K (T'.setTop (mkF m pc' Ls (.int 1 :: st)))) : Go p e below K (T.setTop (mkF m pc Ls (.ref a :: st))) := by
  subst hp
  obtain ⟨T', X', e', k⟩ := instY X H.1 hZ hown w eT F (g := mkF m pc Ls (.ref a :: st)) rfl rfl (hb H.2 hd)
  exact Go.via k (g T' X' e')

theorem gInstNo (X : Stand p l e R s m args below meth c T locs cells slots) (H : p.tables.exec = Jvm.exec ∧ c.code = bs) (hZ : Z.Warmed39 s.vm) {own : String} {index : Nat} (hown : s.vm.findClass own = some m.cls) {C : String} (w : (Cond.classLink own index C).before a0 Z = true) (eT : T.heap = h) {a : Addr} {D : String} (E : Exa Z h a D) (F : ∃ c t, Z.vm.findClass D = some c ∧ Z.vm.findClass C = some t ∧ Z.vm.assignable c t = false) (hd : decode bs pc = .ok (.instanceof index, 3)) (pc' : Nat) (hp : pc + 3 = pc') (g : ∀ T', Stand p l e R s m args below meth c T' locs cells slots → T'.heap = h → Go p e below K (T'.setTop (mkF m pc' Ls (.int 0 :: st)))) : Go p e below K (T.setTop (mkF m pc Ls (.ref a :: st))) := by
  subst hp
  obtain ⟨T', X', e', k⟩ := instNo X H.1 hZ hown w eT E F (g := mkF m pc Ls (.ref a :: st)) rfl rfl (hb H.2 hd)
  exact Go.via k (g T' X' e')

theorem gCastY (X : Stand p l e R s m args below meth c T locs cells slots) (H : p.tables.exec = Jvm.exec ∧ c.code = bs) (hZ : Z.Warmed39 s.vm) {own : String} {index : Nat} (hown : s.vm.findClass own = some m.cls) {C : String} (w : (Cond.classLink own index C).before a0 Z = true) (eT : T.heap = h) {a : Addr} (F : Ins Z h a C true) (hd : decode bs pc = .ok (.checkcast index, 3)) (pc' : Nat) (hp : pc + 3 = pc') (g : ∀ T', Stand p l e R s m args below meth c T' locs cells slots → T'.heap = h → Go p e below K (T'.setTop (mkF m pc' Ls (.ref a :: st)))) : Go p e below K (T.setTop (mkF m pc Ls (.ref a :: st))) := by
  subst hp
  obtain ⟨T', X', e', k⟩ := castY X H.1 hZ hown w eT F (g := mkF m pc Ls (.ref a :: st)) rfl rfl (hb H.2 hd)
  exact Go.via k (g T' X' e')

theorem gInstNull (X : Stand p l e R s m args below meth c T locs cells slots) (H : p.tables.exec = Jvm.exec ∧ c.code = bs) {index : Nat} (hd : decode bs pc = .ok (.instanceof index, 3)) (pc' : Nat) (hp : pc + 3 = pc') (g : Go p e below K (T.setTop (mkF m pc' Ls (.int 0 :: st)))) : Go p e below K (T.setTop (mkF m pc Ls (.null :: st))) := by
  subst hp
  exact Go.via (X.instanceofNull H.1 (g := mkF m pc Ls (.null :: st)) rfl rfl (hb H.2 hd)) g

theorem gVirt (X : Stand p l e R s m args below meth c T locs cells slots) (H : p.tables.exec = Jvm.exec ∧ c.code = bs) (hZ : Z.Warmed39 s.vm) {own : String} {index : Nat} (hown : s.vm.findClass own = some m.cls) {C : String} {y : MethodName} {bytes : ByteArray} {maxL : Nat} {ret : Option FieldType} {rm : Room} {as : Array Value} {Q : Option Value → Heap → List Loc → Prop} {W maxO : Nat} {argsL rest : List Value} {ps : List FieldType} {r : Option FieldType} (wl : (Cond.methodLink own index y).before a0 Z = true) (wd : (Cond.declares y).before a0 Z = true) (wse : (Cond.selects C y y).before a0 Z = true) (wi : (Cond.instanceMethod y).before a0 Z = true) (hy : y.cls ≠ "java/lang/invoke/MethodHandle" ∧ y.cls ≠ "java/lang/invoke/VarHandle") {b : Addr} (E : Exa Z h b C) (wc : (Cond.code y bytes maxL ret).before a0 Z = true) (wz : (Cond.initialized (y).cls).before a0 Z = true) (M : Con l Z y bytes maxL ret rm as h Q) (eT : T.heap = h) (hml : c.maxLocals = maxO) (hs : Ls.size = maxO) (hpd : parseMethodDescriptor y.desc = some ⟨ps, r⟩) (hlen : argsL.length = ps.length) (hstack : st = argsL.reverse ++ .ref b :: rest) (has : (.ref b :: argsL).toArray = as) (hd : decode bs pc = .ok (.invokevirtual index, 3)) (pc' : Nat) (hp : pc + 3 = pc')
    (g : ∀ v T' L, Q v T'.heap L → Stand p l e R s m args below meth c T' (locs ++ L) (cells + rm.cells) (slots + rm.slots) → Go p e below K (T'.setTop (mkF m pc' Ls (v.toList ++ rest)))) (hW : (rest.map fun v => v.category).sum ≤ W := by exact Nat.le_of_eq rfl) (hf : rm.frames + 1 ≤ R.frames := by decide) (hl : W + (maxL + 11) + rm.locals ≤ R.locals := by decide) (hc : cells + rm.cells ≤ R.cells := by decide) (hsl : slots + rm.slots ≤ R.slots := by decide) : Go p e below K (T.setTop (mkF m pc Ls (st))) := by
  subst hp has
  obtain ⟨cB, kB, q1, q2, q3⟩ := isOf hZ eT E
  obtain ⟨v, _, ⟨T', L', k', n'⟩, -, X', ⟨L, hQ, l', y', z'⟩, k⟩ := X.virtualBack H.1 (y := y) (z := y) hown (mvT hZ wl) (mvT hZ wd) (notFace_of_selects (args := #[]) (mvT hZ wse)) (mvT hZ wse) (mvT hZ wi) hy (backOf (W := W) (M []) hZ wc wz hf hl) q1 q3 (g := mkF m pc Ls st) rfl (hs.trans hml.symm) (Steps.refl _) (argsL := argsL) (rest := rest) (lenOf hpd hlen) hstack (by show 2 * 0 + _ ≤ _; omega) (hb H.2 hd) (fun _ _ => ⟨rfl, eT, hc, hsl⟩)
  dsimp only [Pt.U, Pt.locs, Pt.cells, Pt.slots] at X' l' y' z' k hQ
  subst l' y' z'
  exact Go.via (fun t q => k.trans q) (g v T' L hQ X')

theorem gBoxload (X : Stand p l e R s m args below meth c T locs cells slots) (H : p.tables.exec = Jvm.exec ∧ c.code = bs) (hZ : Z.Warmed39 s.vm) (eT : T.heap = h) {a b : Addr} {cl : Cell} {ty : FieldType} {j : Int32} (hty : ty.isReference = true) (A : Arr Z h a cl ty) (hin : ¬ (j < 0 ∨ cl.slots.size ≤ j.toNatClampNeg)) (hv : cl.slots[j.toNatClampNeg]? = some (.ref b)) (hd : decode bs pc = .ok (.aaload, 1)) (pc' : Nat) (hp : pc + 1 = pc') (g : Go p e below K (T.setTop (mkF m pc' Ls (.ref b :: st)))) : Go p e below K (T.setTop (mkF m pc Ls (.int j :: .ref a :: st))) := by
  subst hp
  exact Go.via (X.aaload H.1 (j := j) (v := .ref b) (by rw [eT]; exact A.1) (State.isArrayOf_alike hZ.alike A.2.1) hty A.2.2 hin hv (g := mkF m pc Ls (.int j :: .ref a :: st)) rfl rfl (hb H.2 hd)) g

end Steps
theorem eqI {args : Array Value} {s : State} {t : Term} {w : Addr} {C n d : String} {k : Int32} (ev : t.eval args s none [] s = some (.ref w)) (q : (Jvm.Cond.eq (.field t C n d) (.int k)).value args s none s [] = some true) : Fld s s.heap w C n d (.int k) := by
  refine Fld.start ?_
  rw [← fld_at (args := args) (first := s) (o := none) (idx := []) ev]
  obtain ⟨x, y, h1, h2, k1, k2⟩ := cmp_v (Or.inl q)
  obtain rfl : y = .int k := (Option.some.inj ((Term.int_eval k).symm.trans h2)).symm
  obtain ⟨z, rfl⟩ := k2
  simp [Cond.value, h1, h2] at q
  rw [h1, q]
theorem eqR {args : Array Value} {s : State} {t t' : Term} {w w' : Addr} {C n d : String} (ev : t.eval args s none [] s = some (.ref w)) (ev' : t'.eval args s none [] s = some (.ref w')) (q : (Jvm.Cond.eq (.field t C n d) t').value args s none s [] = some true) : Fld s s.heap w C n d (.ref w') := by
  refine Fld.start ?_
  rw [← fld_at (args := args) (first := s) (o := none) (idx := []) ev]
  obtain ⟨x, y, h1, h2, k1, k2⟩ := cmp_v (Or.inl q)
  obtain rfl : y = .ref w' := (Option.some.inj (ev'.symm.trans h2)).symm
  have hx : x.isRef = true := k2.2
  have := gotT (eq_R h1 h2 hx rfl) q
  rw [h1, this]
theorem eqN {args : Array Value} {s : State} {t : Term} {w : Addr} {C n d : String} (ev : t.eval args s none [] s = some (.ref w)) (q : (Jvm.Cond.eq (.field t C n d) .null).value args s none s [] = some true) : Fld s s.heap w C n d .null := by
  refine Fld.start ?_
  rw [← fld_at (args := args) (first := s) (o := none) (idx := []) ev]
  exact null_v q
theorem fldE {args : Array Value} {s : State} {t : Term} {w w' : Addr} {C n d : String} (ev : t.eval args s none [] s = some (.ref w)) (ev' : (Term.field t C n d).eval args s none [] s = some (.ref w')) : Fld s s.heap w C n d (.ref w') :=
  Fld.start ((fld_at (args := args) (first := s) (o := none) (idx := []) ev).symm.trans ev')
theorem t32_ne {a b : Int32} (h : a < b) : ¬ (a = b) := by rw [Int32.lt_iff_toInt_lt] at h; rw [← Int32.toInt_inj]; omega
theorem t32_as {a b : Int32} (h : a < b) : ¬ (b < a) := by rw [Int32.lt_iff_toInt_lt] at *; omega
theorem t32_ir {a b : Int32} (h : a = b) : ¬ (a < b) := by subst h; rw [Int32.lt_iff_toInt_lt]; omega
theorem t32_tot {a b : Int32} (h : ¬ (a < b)) (h2 : ¬ (a = b)) : b < a := by rw [Int32.lt_iff_toInt_lt] at *; rw [← Int32.toInt_inj] at h2; omega
theorem t32_eq {a b : Int32} (h : ¬ (a < b)) (h2 : ¬ (b < a)) : a = b := by rw [Int32.lt_iff_toInt_lt] at *; rw [← Int32.toInt_inj]; omega
theorem t64_ne {a b : Int64} (h : a < b) : ¬ (a = b) := by rw [Int64.lt_iff_toInt_lt] at h; rw [← Int64.toInt_inj]; omega
theorem t64_as {a b : Int64} (h : a < b) : ¬ (b < a) := by rw [Int64.lt_iff_toInt_lt] at *; omega
theorem t64_ir {a b : Int64} (h : a = b) : ¬ (a < b) := by subst h; rw [Int64.lt_iff_toInt_lt]; omega
theorem t64_tot {a b : Int64} (h : ¬ (a < b)) (h2 : ¬ (a = b)) : b < a := by rw [Int64.lt_iff_toInt_lt] at *; rw [← Int64.toInt_inj] at h2; omega
theorem t64_eq {a b : Int64} (h : ¬ (a < b)) (h2 : ¬ (b < a)) : a = b := by rw [Int64.lt_iff_toInt_lt] at *; rw [← Int64.toInt_inj]; omega

theorem wd0 : (Jvm.Cond.classLink "com/example/rolling_quorum/rollingquorum/log/EpochEndEqualsPinLaw" (7 : Nat) "com/example/rolling_quorum/rollingquorum/log/EpochEnd") ∈ tables_1 := List.mem_of_getElem? (i := 0) rfl
theorem wd1 : (Jvm.Cond.instantiable "com/example/rolling_quorum/rollingquorum/log/EpochEnd" (2 : Nat)) ∈ tables_1 := List.mem_of_getElem? (i := 1) rfl
theorem wd2 : (Jvm.Cond.initialized "com/example/rolling_quorum/rollingquorum/log/EpochEnd") ∈ tables_1 := List.mem_of_getElem? (i := 2) rfl
theorem wd3 : (Jvm.Cond.methodLink "com/example/rolling_quorum/rollingquorum/log/EpochEndEqualsPinLaw" (9 : Nat) ({ cls := "com/example/rolling_quorum/rollingquorum/log/EpochEnd", name := "<init>", desc := "(IJ)V" } : Jvm.MethodName)) ∈ tables_1 := List.mem_of_getElem? (i := 3) rfl
theorem wd4 : (Jvm.Cond.instanceMethod ({ cls := "com/example/rolling_quorum/rollingquorum/log/EpochEnd", name := "<init>", desc := "(IJ)V" } : Jvm.MethodName)) ∈ tables_1 := List.mem_of_getElem? (i := 4) rfl
theorem wd5 : (Jvm.Cond.code ({ cls := "com/example/rolling_quorum/rollingquorum/log/EpochEnd", name := "<init>", desc := "(IJ)V" } : Jvm.MethodName) prog_12_method_1_code (4 : Nat) (Option.none : Option Jvm.ClassFile.FieldType)) ∈ tables_1 := List.mem_of_getElem? (i := 5) rfl
theorem wd6 : (Jvm.Cond.methodLink "com/example/rolling_quorum/rollingquorum/log/EpochEnd" (1 : Nat) ({ cls := "java/lang/Object", name := "<init>", desc := "()V" } : Jvm.MethodName)) ∈ tables_1 := List.mem_of_getElem? (i := 6) rfl
theorem wd7 : (Jvm.Cond.instanceMethod ({ cls := "java/lang/Object", name := "<init>", desc := "()V" } : Jvm.MethodName)) ∈ tables_1 := List.mem_of_getElem? (i := 7) rfl
theorem wd8 : (Jvm.Cond.code ({ cls := "java/lang/Object", name := "<init>", desc := "()V" } : Jvm.MethodName) object_method_1_code (1 : Nat) (Option.none : Option Jvm.ClassFile.FieldType)) ∈ tables_1 := List.mem_of_getElem? (i := 8) rfl
theorem wd9 : (Jvm.Cond.fieldLink "com/example/rolling_quorum/rollingquorum/log/EpochEnd" (7 : Nat) "com/example/rolling_quorum/rollingquorum/log/EpochEnd" "leaderEpoch" "I") ∈ tables_1 := List.mem_of_getElem? (i := 9) rfl
theorem wd10 : (Jvm.Cond.laysFinal "com/example/rolling_quorum/rollingquorum/log/EpochEnd" "com/example/rolling_quorum/rollingquorum/log/EpochEnd" "leaderEpoch" "I") ∈ tables_1 := List.mem_of_getElem? (i := 10) rfl
theorem wd11 : (Jvm.Cond.fieldLink "com/example/rolling_quorum/rollingquorum/log/EpochEnd" (13 : Nat) "com/example/rolling_quorum/rollingquorum/log/EpochEnd" "endOffset" "J") ∈ tables_1 := List.mem_of_getElem? (i := 11) rfl
theorem wd12 : (Jvm.Cond.laysFinal "com/example/rolling_quorum/rollingquorum/log/EpochEnd" "com/example/rolling_quorum/rollingquorum/log/EpochEnd" "endOffset" "J") ∈ tables_1 := List.mem_of_getElem? (i := 12) rfl
theorem wd13 : (Jvm.Cond.methodLink "com/example/rolling_quorum/rollingquorum/log/EpochEndEqualsPinLaw" (12 : Nat) ({ cls := "com/example/rolling_quorum/rollingquorum/log/EpochEnd", name := "equals", desc := "(Ljava/lang/Object;)Z" } : Jvm.MethodName)) ∈ tables_1 := List.mem_of_getElem? (i := 13) rfl
theorem wd14 : (Jvm.Cond.declares ({ cls := "com/example/rolling_quorum/rollingquorum/log/EpochEnd", name := "equals", desc := "(Ljava/lang/Object;)Z" } : Jvm.MethodName)) ∈ tables_1 := List.mem_of_getElem? (i := 14) rfl
theorem wd15 : (Jvm.Cond.instanceMethod ({ cls := "com/example/rolling_quorum/rollingquorum/log/EpochEnd", name := "equals", desc := "(Ljava/lang/Object;)Z" } : Jvm.MethodName)) ∈ tables_1 := List.mem_of_getElem? (i := 15) rfl
theorem wd16 : (Jvm.Cond.selects "com/example/rolling_quorum/rollingquorum/log/EpochEnd" ({ cls := "com/example/rolling_quorum/rollingquorum/log/EpochEnd", name := "equals", desc := "(Ljava/lang/Object;)Z" } : Jvm.MethodName) ({ cls := "com/example/rolling_quorum/rollingquorum/log/EpochEnd", name := "equals", desc := "(Ljava/lang/Object;)Z" } : Jvm.MethodName)) ∈ tables_1 := List.mem_of_getElem? (i := 16) rfl
theorem wd17 : (Jvm.Cond.code ({ cls := "com/example/rolling_quorum/rollingquorum/log/EpochEnd", name := "equals", desc := "(Ljava/lang/Object;)Z" } : Jvm.MethodName) prog_12_method_4_code (3 : Nat) (Option.some Jvm.ClassFile.FieldType.boolean)) ∈ tables_1 := List.mem_of_getElem? (i := 17) rfl
theorem wd18 : (Jvm.Cond.classLink "com/example/rolling_quorum/rollingquorum/log/EpochEnd" (8 : Nat) "com/example/rolling_quorum/rollingquorum/log/EpochEnd") ∈ tables_1 := List.mem_of_getElem? (i := 18) rfl
theorem wd20 : (Jvm.Cond.methodLink "com/example/rolling_quorum/rollingquorum/log/EpochEndEqualsPinLaw" (16 : Nat) ({ cls := "java/lang/Long", name := "valueOf", desc := "(J)Ljava/lang/Long;" } : Jvm.MethodName)) ∈ tables_1 := List.mem_of_getElem? (i := 20) rfl
theorem wd21 : (Jvm.Cond.static ({ cls := "java/lang/Long", name := "valueOf", desc := "(J)Ljava/lang/Long;" } : Jvm.MethodName)) ∈ tables_1 := List.mem_of_getElem? (i := 21) rfl
theorem wd22 : (Jvm.Cond.initialized "java/lang/Long") ∈ tables_1 := List.mem_of_getElem? (i := 22) rfl
theorem wd23 : (Jvm.Cond.code ({ cls := "java/lang/Long", name := "valueOf", desc := "(J)Ljava/lang/Long;" } : Jvm.MethodName) jdk_35_method_24_code (3 : Nat) (Option.some (Jvm.ClassFile.FieldType.object "java/lang/Long"))) ∈ tables_1 := List.mem_of_getElem? (i := 23) rfl
theorem wd24 : (Jvm.Cond.constantLong "java/lang/Long" (230 : Nat) (-128 : Int64)) ∈ tables_1 := List.mem_of_getElem? (i := 24) rfl
theorem wd25 : (Jvm.Cond.constantLong "java/lang/Long" (232 : Nat) (127 : Int64)) ∈ tables_1 := List.mem_of_getElem? (i := 25) rfl
theorem wd26 : (Jvm.Cond.classLink "java/lang/Long" (1 : Nat) "java/lang/Long") ∈ tables_1 := List.mem_of_getElem? (i := 26) rfl
theorem wd27 : (Jvm.Cond.instantiable "java/lang/Long" (1 : Nat)) ∈ tables_1 := List.mem_of_getElem? (i := 27) rfl
theorem wd28 : (Jvm.Cond.methodLink "java/lang/Long" (240 : Nat) ({ cls := "java/lang/Long", name := "<init>", desc := "(J)V" } : Jvm.MethodName)) ∈ tables_1 := List.mem_of_getElem? (i := 28) rfl
theorem wd29 : (Jvm.Cond.instanceMethod ({ cls := "java/lang/Long", name := "<init>", desc := "(J)V" } : Jvm.MethodName)) ∈ tables_1 := List.mem_of_getElem? (i := 29) rfl
theorem wd31 : (Jvm.Cond.code ({ cls := "java/lang/Long", name := "<init>", desc := "(J)V" } : Jvm.MethodName) jdk_35_method_26_code (3 : Nat) (Option.none : Option Jvm.ClassFile.FieldType)) ∈ tables_1 := List.mem_of_getElem? (i := 31) rfl
theorem wd32 : (Jvm.Cond.methodLink "java/lang/Long" (270 : Nat) ({ cls := "java/lang/Number", name := "<init>", desc := "()V" } : Jvm.MethodName)) ∈ tables_1 := List.mem_of_getElem? (i := 32) rfl
theorem wd33 : (Jvm.Cond.instanceMethod ({ cls := "java/lang/Number", name := "<init>", desc := "()V" } : Jvm.MethodName)) ∈ tables_1 := List.mem_of_getElem? (i := 33) rfl
theorem wd36 : (Jvm.Cond.initialized "java/lang/Number") ∈ tables_1 := List.mem_of_getElem? (i := 36) rfl
theorem wd37 : (Jvm.Cond.code ({ cls := "java/lang/Number", name := "<init>", desc := "()V" } : Jvm.MethodName) jdk_18_method_1_code (1 : Nat) (Option.none : Option Jvm.ClassFile.FieldType)) ∈ tables_1 := List.mem_of_getElem? (i := 37) rfl
theorem wd38 : (Jvm.Cond.methodLink "java/lang/Number" (1 : Nat) ({ cls := "java/lang/Object", name := "<init>", desc := "()V" } : Jvm.MethodName)) ∈ tables_1 := List.mem_of_getElem? (i := 38) rfl
theorem wd39 : (Jvm.Cond.fieldLink "java/lang/Long" (273 : Nat) "java/lang/Long" "value" "J") ∈ tables_1 := List.mem_of_getElem? (i := 39) rfl
theorem wd40 : (Jvm.Cond.laysFinal "java/lang/Long" "java/lang/Long" "value" "J") ∈ tables_1 := List.mem_of_getElem? (i := 40) rfl
theorem wd41 : (Jvm.Cond.superclass "java/lang/Long" "java/lang/Number") ∈ tables_1 := List.mem_of_getElem? (i := 41) rfl
theorem wd42 : (Jvm.Cond.superclass "java/lang/Number" "java/lang/Object") ∈ tables_1 := List.mem_of_getElem? (i := 42) rfl
theorem wd43 : (Jvm.Cond.noSuperclass "java/lang/Object") ∈ tables_1 := List.mem_of_getElem? (i := 43) rfl
theorem wd44 : (Jvm.Cond.fieldLink "java/lang/Long" (234 : Nat) "java/lang/Long$LongCache" "cache" "[Ljava/lang/Long;") ∈ tables_1 := List.mem_of_getElem? (i := 44) rfl
theorem wd45 : (Jvm.Cond.initialized "java/lang/Long$LongCache") ∈ tables_1 := List.mem_of_getElem? (i := 45) rfl
theorem d1_0 : decode prog_12_method_1_code 0 = .ok (.aload_n 0, 1) := by decide +kernel
theorem d1_1 : decode prog_12_method_1_code 1 = .ok (.invokespecial 1, 3) := by decide +kernel
theorem d1_4 : decode prog_12_method_1_code 4 = .ok (.aload_n 0, 1) := by decide +kernel
theorem d1_5 : decode prog_12_method_1_code 5 = .ok (.iload_n 1, 1) := by decide +kernel
theorem d1_6 : decode prog_12_method_1_code 6 = .ok (.putfield 7, 3) := by decide +kernel
theorem d1_9 : decode prog_12_method_1_code 9 = .ok (.aload_n 0, 1) := by decide +kernel
theorem d1_10 : decode prog_12_method_1_code 10 = .ok (.lload_n 2, 1) := by decide +kernel
theorem d1_11 : decode prog_12_method_1_code 11 = .ok (.putfield 13, 3) := by decide +kernel
theorem d1_14 : decode prog_12_method_1_code 14 = .ok (.return_, 1) := by decide +kernel
theorem d3_0 : decode prog_12_method_4_code 0 = .ok (.aload_n 1, 1) := by decide +kernel
theorem d3_1 : decode prog_12_method_4_code 1 = .ok (.instanceof 8, 3) := by decide +kernel
theorem d3_4 : decode prog_12_method_4_code 4 = .ok (.ifCond .eq 35, 3) := by decide +kernel
theorem d3_7 : decode prog_12_method_4_code 7 = .ok (.aload_n 1, 1) := by decide +kernel
theorem d3_8 : decode prog_12_method_4_code 8 = .ok (.checkcast 8, 3) := by decide +kernel
theorem d3_11 : decode prog_12_method_4_code 11 = .ok (.astore_n 2, 1) := by decide +kernel
theorem d3_12 : decode prog_12_method_4_code 12 = .ok (.aload_n 2, 1) := by decide +kernel
theorem d3_13 : decode prog_12_method_4_code 13 = .ok (.getfield 7, 3) := by decide +kernel
theorem d3_16 : decode prog_12_method_4_code 16 = .ok (.aload_n 0, 1) := by decide +kernel
theorem d3_17 : decode prog_12_method_4_code 17 = .ok (.getfield 7, 3) := by decide +kernel
theorem d3_20 : decode prog_12_method_4_code 20 = .ok (.if_icmp .ne 19, 3) := by decide +kernel
theorem d3_23 : decode prog_12_method_4_code 23 = .ok (.aload_n 2, 1) := by decide +kernel
theorem d3_24 : decode prog_12_method_4_code 24 = .ok (.getfield 13, 3) := by decide +kernel
theorem d3_27 : decode prog_12_method_4_code 27 = .ok (.aload_n 0, 1) := by decide +kernel
theorem d3_28 : decode prog_12_method_4_code 28 = .ok (.getfield 13, 3) := by decide +kernel
theorem d3_31 : decode prog_12_method_4_code 31 = .ok (.lcmp, 1) := by decide +kernel
theorem d3_32 : decode prog_12_method_4_code 32 = .ok (.ifCond .ne 7, 3) := by decide +kernel
theorem d3_35 : decode prog_12_method_4_code 35 = .ok (.iconst 1, 1) := by decide +kernel
theorem d3_36 : decode prog_12_method_4_code 36 = .ok (.goto 4, 3) := by decide +kernel
theorem d3_39 : decode prog_12_method_4_code 39 = .ok (.iconst 0, 1) := by decide +kernel
theorem d3_40 : decode prog_12_method_4_code 40 = .ok (.ireturn, 1) := by decide +kernel
theorem d4_0 : decode jdk_35_method_24_code 0 = .ok (.sipush 128, 3) := by decide +kernel
theorem d4_3 : decode jdk_35_method_24_code 3 = .ok (.istore_n 2, 1) := by decide +kernel
theorem d4_4 : decode jdk_35_method_24_code 4 = .ok (.lload_n 0, 1) := by decide +kernel
theorem d4_5 : decode jdk_35_method_24_code 5 = .ok (.ldc2_w 230, 3) := by decide +kernel
theorem d4_8 : decode jdk_35_method_24_code 8 = .ok (.lcmp, 1) := by decide +kernel
theorem d4_9 : decode jdk_35_method_24_code 9 = .ok (.ifCond .lt 22, 3) := by decide +kernel
theorem d4_12 : decode jdk_35_method_24_code 12 = .ok (.lload_n 0, 1) := by decide +kernel
theorem d4_13 : decode jdk_35_method_24_code 13 = .ok (.ldc2_w 232, 3) := by decide +kernel
theorem d4_16 : decode jdk_35_method_24_code 16 = .ok (.lcmp, 1) := by decide +kernel
theorem d4_17 : decode jdk_35_method_24_code 17 = .ok (.ifCond .gt 14, 3) := by decide +kernel
theorem d4_20 : decode jdk_35_method_24_code 20 = .ok (.getstatic 234, 3) := by decide +kernel
theorem d4_23 : decode jdk_35_method_24_code 23 = .ok (.lload_n 0, 1) := by decide +kernel
theorem d4_24 : decode jdk_35_method_24_code 24 = .ok (.l2i, 1) := by decide +kernel
theorem d4_25 : decode jdk_35_method_24_code 25 = .ok (.sipush 128, 3) := by decide +kernel
theorem d4_28 : decode jdk_35_method_24_code 28 = .ok (.iadd, 1) := by decide +kernel
theorem d4_29 : decode jdk_35_method_24_code 29 = .ok (.aaload, 1) := by decide +kernel
theorem d4_30 : decode jdk_35_method_24_code 30 = .ok (.areturn, 1) := by decide +kernel
theorem d4_31 : decode jdk_35_method_24_code 31 = .ok (.new 1, 3) := by decide +kernel
theorem d4_34 : decode jdk_35_method_24_code 34 = .ok (.dup, 1) := by decide +kernel
theorem d4_35 : decode jdk_35_method_24_code 35 = .ok (.lload_n 0, 1) := by decide +kernel
theorem d4_36 : decode jdk_35_method_24_code 36 = .ok (.invokespecial 240, 3) := by decide +kernel
theorem d4_39 : decode jdk_35_method_24_code 39 = .ok (.areturn, 1) := by decide +kernel
theorem d5_0 : decode jdk_35_method_26_code 0 = .ok (.aload_n 0, 1) := by decide +kernel
theorem d5_1 : decode jdk_35_method_26_code 1 = .ok (.invokespecial 270, 3) := by decide +kernel
theorem d5_4 : decode jdk_35_method_26_code 4 = .ok (.aload_n 0, 1) := by decide +kernel
theorem d5_5 : decode jdk_35_method_26_code 5 = .ok (.lload_n 1, 1) := by decide +kernel
theorem d5_6 : decode jdk_35_method_26_code 6 = .ok (.putfield 273, 3) := by decide +kernel
theorem d5_9 : decode jdk_35_method_26_code 9 = .ok (.return_, 1) := by decide +kernel
theorem d6_0 : decode jdk_18_method_1_code 0 = .ok (.aload_n 0, 1) := by decide +kernel
theorem d6_1 : decode jdk_18_method_1_code 1 = .ok (.invokespecial 1, 3) := by decide +kernel
theorem d6_4 : decode jdk_18_method_1_code 4 = .ok (.return_, 1) := by decide +kernel
theorem pd0 : parseMethodDescriptor "(IJ)V" = some ⟨[.int, .long], none⟩ := by decide +kernel
theorem pd1 : parseMethodDescriptor "(Ljava/lang/Object;)Z" = some ⟨[(.object "java/lang/Object")], some .boolean⟩ := by decide +kernel
theorem pd2 : parseMethodDescriptor "()V" = some ⟨[], none⟩ := by decide +kernel
theorem pd3 : parseMethodDescriptor "(J)V" = some ⟨[.long], none⟩ := by decide +kernel
theorem pd4 : parseMethodDescriptor "(J)Ljava/lang/Long;" = some ⟨[.long], some (.object "java/lang/Long")⟩ := by decide +kernel
theorem pn0 : plainName "com/example/rolling_quorum/rollingquorum/log/EpochEndEqualsPinLaw" = true := by first | (simp [plainName, overriddenIn]; done) | decide +kernel
theorem pn1 : plainName "com/example/rolling_quorum/rollingquorum/log/EpochEnd" = true := by first | (simp [plainName, overriddenIn]; done) | decide +kernel
theorem pn3 : plainName "com/example/rolling_quorum/rollingquorum/log/EpochEnd" = true := by first | (simp [plainName, overriddenIn]; done) | decide +kernel
theorem pn4 : plainName "java/lang/Long" = true := by first | (simp [plainName, overriddenIn]; done) | decide +kernel
theorem pn5 : plainName "java/lang/Long" = true := by first | (simp [plainName, overriddenIn]; done) | decide +kernel
theorem pn6 : plainName "java/lang/Number" = true := by first | (simp [plainName, overriddenIn]; done) | decide +kernel
def World (Z : State) (w_cacheJ : Addr) (cl_cacheJ : Cell) : Prop :=
  Sta Z Z.heap "java/lang/Long$LongCache" "cache" "[Ljava/lang/Long;" (.ref w_cacheJ) ∧
  Bxs Z w_cacheJ cl_cacheJ "java/lang/Long" "J" (256 : Int32) (fun j => .long (j - 128).toInt64)
abbrev Bg (Z : State) (a0 : Array Value) (w_cacheJ : Addr) (cl_cacheJ : Cell) : Prop := (∀ d ∈ tables_1, d.before a0 Z = true) ∧ World Z w_cacheJ cl_cacheJ
abbrev yM5 : MethodName := ⟨"java/lang/Long", "<init>", "(J)V"⟩
abbrev yM6 : MethodName := ⟨"java/lang/Number", "<init>", "()V"⟩
abbrev yM3 : MethodName := ⟨"com/example/rolling_quorum/rollingquorum/log/EpochEnd", "equals", "(Ljava/lang/Object;)Z"⟩
abbrev yM1 : MethodName := ⟨"com/example/rolling_quorum/rollingquorum/log/EpochEnd", "<init>", "(IJ)V"⟩
abbrev cs0 : String := "com/example/rolling_quorum/rollingquorum/log/EpochEnd"
theorem extT {a b c : Heap} (x : Ext a b) (y : Ext b c) : Ext a c := ⟨Nat.le_trans x.1 y.1, fun q r s => y.2 q r (x.2 q r s)⟩
theorem extR (a : Heap) : Ext a a := ⟨Nat.le_refl _, fun _ _ q => q⟩
theorem extK {h0 h h' : Heap} {ws : List Addr} (O : Ext h0 h) (K : Keep h h' ws) (q : ∀ x ∈ ws, h0.size ≤ x) : Ext h0 h' := ⟨Nat.le_trans O.1 K.1, fun x c r => K.2.1 x c (O.2 x c r) fun z => absurd (Array.getElem?_eq_some_iff.mp r).1 (Nat.not_lt.mpr (q x z))⟩
theorem extW {h0 h h' : Heap} {a : Addr} {sl : Nat} {v : Value} (O : Ext h0 h) (W : Wr h h' a sl v) (q : h0.size ≤ a) : Ext h0 h' := extK O (Keep.of_wr W) (allS q all0)
theorem leW {h0 h h' : Heap} {a : Addr} {sl : Nat} {v : Value} (q : h0.size ≤ h.size) (W : Wr h h' a sl v) : h0.size ≤ h'.size := by rw [W.size]; exact q
theorem neB {a b : Addr} {h : Heap} (x : a < h.size) (y : h.size ≤ b) : a ≠ b := Nat.ne_of_lt (Nat.lt_of_lt_of_le x y)

theorem stoV {Z : State} {h : Heap} {a y : Addr} {k : ClassId} {ty : FieldType} {n : Int32} {vs : List Value} {d : Value} {C : String} (A : Arv Z h a k ty n vs d) (O : Ovr Z k C) (I : Ins Z h y C true) : Sto Z h a (.ref y) := by
  obtain ⟨c, Ar, q, -⟩ := A
  exact Sto.ofV Ar q O I

theorem found_inst {Z : State} {a0 : Array Value} {K : String} {n : Nat} (w : (Cond.instantiable K n).before a0 Z = true) : ∃ t, Z.vm.findClass K = some t := by
  obtain ⟨c, k, h, -⟩ := Cond.instantiable_spec w; exact ⟨c, h⟩
theorem ns_root {Z : State} {a0 : Array Value} {O K : String} {n : Nat} (w : (Cond.noSuperclass O).before a0 Z = true) (wk : (Cond.instantiable K n).before a0 Z = true) (hn : O ≠ K) : NS Z O K := by
  obtain ⟨c, k, h1, h2, h3, -, -⟩ := Cond.noSuperclass_spec w
  obtain ⟨t, g1⟩ := found_inst wk
  have ne := ids_ne h1 g1 hn
  refine ⟨c, t, h1, g1, fun fuel => ?_⟩
  cases fuel with
  | zero => rfl
  | succ f => simp [Vm.isSubclassAux, ne, h2, h3]
theorem ns_no {Z : State} {a0 : Array Value} {C S K : String} {n : Nat} (w : (Cond.superclass C S).before a0 Z = true) (wk : (Cond.instantiable K n).before a0 Z = true) (q : NS Z C K) (hn : C ≠ K) : ∃ c t, Z.vm.findClass C = some c ∧ Z.vm.findClass K = some t ∧ Z.vm.assignable c t = false := by
  obtain ⟨c, t, h0, g0, n3⟩ := q
  obtain ⟨p, k, kp, h1, h2, h3, h4, h5, -, h7⟩ := Cond.superclass_spec h0 w
  obtain ⟨t', k', g1, g2, g3, g4⟩ := Cond.instantiable_spec wk
  cases g0.symm.trans g1
  have g5 : k'.isInterface = false := (Bool.or_eq_false_iff.mp g4.1).1
  have ne := ids_ne h0 g0 hn
  refine ⟨c, t, h0, g0, ?_⟩
  show Z.vm.assignableAux (255 + 1) c t = false
  simp [Vm.assignableAux, ne, h2, g2, g3, g5, h5, Vm.isSubclass, n3]

theorem box_in {x : Int32} (h1 : ¬ (x < (-128 : Int32))) (h2 : ¬ ((127 : Int32) < x)) {c : Cell} (S : c.slots.size = (256 : Int32).toNatClampNeg) : ¬ ((x + (128 : Int32)) < 0 ∨ c.slots.size ≤ (x + (128 : Int32)).toNatClampNeg) := by
  refine inb_of S ?_
  have h3 := c_iadd x (128 : Int32)
  have r := rng32 (x + (128 : Int32))
  have e1 : (128 : Int32).toInt = 128 := by decide
  have e2 : (-128 : Int32).toInt = -128 := by decide
  have e3 : (127 : Int32).toInt = 127 := by decide
  have e4 : (256 : Int32).toInt = 256 := by decide
  have e5 : (0 : Int32).toInt = 0 := by decide
  rw [Int32.lt_iff_toInt_lt] at h1 h2
  rw [Int32.lt_iff_toInt_lt, Int32.lt_iff_toInt_lt]
  omega
theorem box_v (x : Int32) : (x + (128 : Int32)) - 128 = x := by
  rw [← Int32.toInt_inj]
  have h3 := c_iadd x (128 : Int32)
  have h4 := c_isub (x + (128 : Int32)) 128
  have e1 : (128 : Int32).toInt = 128 := by decide
  have r := rng32 x
  have r2 := rng32 ((x + (128 : Int32)) - 128)
  rw [e1] at h3 h4
  omega
theorem boxL_r {x : Int64} (h1 : ¬ (x < (-128 : Int64))) (h2 : ¬ ((127 : Int64) < x)) : ¬ ((x.toInt32) < (-128 : Int32)) ∧ ¬ ((127 : Int32) < (x.toInt32)) ∧ (x.toInt32).toInt64 = x := by
  have h3 := c_l2i x
  have r := rng32 x.toInt32
  have e2 : (-128 : Int64).toInt = -128 := by decide
  have e3 : (127 : Int64).toInt = 127 := by decide
  have e4 : (-128 : Int32).toInt = -128 := by decide
  have e5 : (127 : Int32).toInt = 127 := by decide
  rw [Int64.lt_iff_toInt_lt] at h1 h2
  refine ⟨?_, ?_, ?_⟩
  · rw [Int32.lt_iff_toInt_lt]; omega
  · rw [Int32.lt_iff_toInt_lt]; omega
  · rw [← Int64.toInt_inj, c_i2l]; omega

theorem sn0 {Z : State} {a0 : Array Value} (hw : ∀ d ∈ tables_1, d.before a0 Z = true) : Jvm.RoadKit.slotOf Z "com/example/rolling_quorum/rollingquorum/log/EpochEnd" "endOffset" "J" ≠ Jvm.RoadKit.slotOf Z "com/example/rolling_quorum/rollingquorum/log/EpochEnd" "leaderEpoch" "I" := slot_ne (Or.inr (hw _ wd12)) (Or.inr (hw _ wd10)) (by decide) (t := .long) (t' := .int) (by decide) (by decide)
theorem sn1 {Z : State} {a0 : Array Value} (hw : ∀ d ∈ tables_1, d.before a0 Z = true) : Jvm.RoadKit.slotOf Z "com/example/rolling_quorum/rollingquorum/log/EpochEnd" "leaderEpoch" "I" ≠ Jvm.RoadKit.slotOf Z "com/example/rolling_quorum/rollingquorum/log/EpochEnd" "endOffset" "J" := slot_ne (Or.inr (hw _ wd10)) (Or.inr (hw _ wd12)) (by decide) (t := .int) (t' := .long) (by decide) (by decide)
section Walk
variable {l : Launch} {Z : State} {a0 : Array Value} {w_cacheJ : Addr} {cl_cacheJ : Cell}
theorem rm17_1 (B : Bg Z a0 w_cacheJ cl_cacheJ) (ro0 : Addr) (vi1 : Int32) (vj2 : Int64) (h : Heap) (O : Ext Z.heap h) (hp6 : Exa Z h ro0 cs0) (hp7 : Fld Z h ro0 cs0 "leaderEpoch" "I" (.int 0)) (hp8 : Z.heap.size ≤ ro0) (hp11 : Fld Z h ro0 cs0 "endOffset" "J" (.long 0)) :
    Con l Z yM1 prog_12_method_1_code 4 none ({ frames := 1, cells := 0, slots := 0, locals := 12 } : Room) #[(.ref ro0), (.int vi1), (.long vj2)] h (fun v h' L => v = none ∧ Fr Z.heap.size L ∧ Keep h h' [ro0] ∧ Exa Z h' ro0 cs0 ∧ Fld Z h' ro0 cs0 "leaderEpoch" "I" (.int vi1) ∧ Fld Z h' ro0 cs0 "endOffset" "J" (.long vj2)) := by
  have hw := B.1
  refine Con.of (plainFor_of_name pn1) (Ls := #[vR ro0, vI vi1, vJ vj2, .second]) (fun m => by first | rfl | (simp [entryFrame, mkF, argsToLocals, Value.category]; done)) ?_
  intro p e s m below meth c T0 X0 H hml hZ hown hnm hret hlk e0
  have N0 := Fr.nil Z.heap.size
  refine gAloadN X0 H d1_0 rfl rfl 1 rfl ?_
  refine gInitO X0 H hZ hown (hw _ wd6) (hw _ wd7) (hw _ wd8) e0 hml rfl (V := 0) (Nat.le_of_eq rfl) (by decide) (by decide) d1_1 4 rfl ?_
  intro T4 X4 e4
  refine gAloadN X4 H d1_4 rfl rfl 5 rfl ?_
  refine gIloadN X4 H d1_5 rfl 6 rfl ?_
  refine gPutF X4 H hZ hown (hw _ wd9) Via.refl e4 hp7 hp6 (Or.inr ⟨(hw _ wd10), rfl, hnm⟩) (hw _ wd1) (ty := .int) (by decide) (v' := (.int vi1)) rfl rfl d1_6 9 rfl ?_
  intro T5 h5 X5 e5 W5 F5
  have O5 := extW O W5 hp8
  have N5 := Fr.snoc X5 N0 hp8
  refine gAloadN X5 H d1_9 rfl rfl 10 rfl ?_
  refine gLloadN X5 H d1_10 rfl 11 rfl ?_
  have c10 := (hp6.wr W5)
  have c12 := (hp11.other W5 (Or.inr (sn0 hw)))
  refine gPutF X5 H hZ hown (hw _ wd11) Via.refl e5 c12 c10 (Or.inr ⟨(hw _ wd12), rfl, hnm⟩) (hw _ wd1) (ty := .long) (by decide) (v' := (.long vj2)) rfl rfl d1_11 14 rfl ?_
  intro T9 h9 X9 e9 W9 F9
  have O9 := extW O5 W9 hp8
  have N9 := Fr.snoc X9 N5 hp8
  have c13 := (c10.wr W9)
  have c14 := (F5.other W9 (Or.inr (sn1 hw)))
  have K_15 := (Keep.refl h [ro0]).wr W5 (Or.inl (List.mem_of_getElem? (i := 0) rfl))
  have K_16 := K_15.wr W9 (Or.inl (List.mem_of_getElem? (i := 0) rfl))
  exact gRetV X9 H hlk hret d1_14 e9 ⟨rfl, N9, K_16, c13, c14, F9⟩
theorem rm39_3 (B : Bg Z a0 w_cacheJ cl_cacheJ) (ro0 : Addr) (ro1 : Addr) (vi2 : Int32) (vi3 : Int32) (vj4 : Int64) (vj5 : Int64) (h : Heap) (O : Ext Z.heap h) (hp27 : Exa Z h ro1 cs0) (hp29 : Fld Z h ro1 cs0 "leaderEpoch" "I" (.int vi2)) (hp31 : Fld Z h ro0 cs0 "leaderEpoch" "I" (.int vi3)) (hp34 : Fld Z h ro1 cs0 "endOffset" "J" (.long vj4)) (hp36 : Fld Z h ro0 cs0 "endOffset" "J" (.long vj5)) (hk33 : vi2 = vi3) (hk38 : vj4 = vj5) :
    Con l Z yM3 prog_12_method_4_code 3 (some .boolean) ({ frames := 0, cells := 0, slots := 0, locals := 0 } : Room) #[(.ref ro0), (.ref ro1)] h (fun v h' L => v = some (.int 1) ∧ h' = h ∧ L = []) := by
  have hw := B.1
  refine Con.of (plainFor_of_name pn3) (Ls := #[vR ro0, vR ro1, .unset]) (fun m => by first | rfl | (simp [entryFrame, mkF, argsToLocals, Value.category]; done)) ?_
  intro p e s m below meth c T0 X0 H hml hZ hown hnm hret hlk e0
  refine gAloadN X0 H d3_0 rfl rfl 1 rfl ?_
  refine gInstY X0 H hZ hown (hw _ wd18) e0 (Ins.self hp27) d3_1 4 rfl ?_
  intro T26 X26 e26
  refine gIfN X26 H d3_4 (by decide) 7 rfl ?_
  refine gAloadN X26 H d3_7 rfl rfl 8 rfl ?_
  refine gCastY X26 H hZ hown (hw _ wd18) e26 (Ins.self hp27) d3_8 11 rfl ?_
  intro T28 X28 e28
  refine gAstoreN X28 H d3_11 rfl (Ls' := #[vR ro0, vR ro1, vR ro1]) rfl 12 rfl ?_
  refine gAloadN X28 H d3_12 rfl rfl 13 rfl ?_
  refine gGetF X28 H hZ hown (hw _ wd9) Via.refl e28 hp29 d3_13 16 rfl ?_
  intro T30 X30 e30
  refine gAloadN X30 H d3_16 rfl rfl 17 rfl ?_
  refine gGetF X30 H hZ hown (hw _ wd9) Via.refl e30 hp31 d3_17 20 rfl ?_
  intro T32 X32 e32
  refine gCmpN X32 H d3_20 (teq hk33).2 23 rfl ?_
  refine gAloadN X32 H d3_23 rfl rfl 24 rfl ?_
  refine gGetF X32 H hZ hown (hw _ wd11) Via.refl e32 hp34 d3_24 27 rfl ?_
  intro T35 X35 e35
  refine gAloadN X35 H d3_27 rfl rfl 28 rfl ?_
  refine gGetF X35 H hZ hown (hw _ wd11) Via.refl e35 hp36 d3_28 31 rfl ?_
  intro T37 X37 e37
  refine g_lcmp X37 H d3_31 (z := (lcmpW vj4 vj5)) rfl 32 rfl ?_
  refine gIfN X37 H d3_32 ((if0 _ _).trans (teq ((lw_eq _ _).mpr hk38)).2) 35 rfl ?_
  refine gIconst X37 H d3_35 (z := 1) rfl 36 rfl ?_
  refine gGoto X37 H d3_36 (by decide) 40 rfl ?_
  exact gRetN X37 H hlk hret (t := .boolean) (by simp) d3_40 e37 ⟨rfl, rfl, rfl⟩
theorem rm58_3 (B : Bg Z a0 w_cacheJ cl_cacheJ) (ro0 : Addr) (ro1 : Addr) (vi2 : Int32) (vi3 : Int32) (vj4 : Int64) (vj5 : Int64) (h : Heap) (O : Ext Z.heap h) (hp46 : Exa Z h ro1 cs0) (hp48 : Fld Z h ro1 cs0 "leaderEpoch" "I" (.int vi2)) (hp50 : Fld Z h ro0 cs0 "leaderEpoch" "I" (.int vi3)) (hp53 : Fld Z h ro1 cs0 "endOffset" "J" (.long vj4)) (hp55 : Fld Z h ro0 cs0 "endOffset" "J" (.long vj5)) (hk52 : vi2 = vi3) (hk57 : ¬ (vj4 = vj5)) :
    Con l Z yM3 prog_12_method_4_code 3 (some .boolean) ({ frames := 0, cells := 0, slots := 0, locals := 0 } : Room) #[(.ref ro0), (.ref ro1)] h (fun v h' L => v = some (.int 0) ∧ h' = h ∧ L = []) := by
  have hw := B.1
  refine Con.of (plainFor_of_name pn3) (Ls := #[vR ro0, vR ro1, .unset]) (fun m => by first | rfl | (simp [entryFrame, mkF, argsToLocals, Value.category]; done)) ?_
  intro p e s m below meth c T0 X0 H hml hZ hown hnm hret hlk e0
  refine gAloadN X0 H d3_0 rfl rfl 1 rfl ?_
  refine gInstY X0 H hZ hown (hw _ wd18) e0 (Ins.self hp46) d3_1 4 rfl ?_
  intro T45 X45 e45
  refine gIfN X45 H d3_4 (by decide) 7 rfl ?_
  refine gAloadN X45 H d3_7 rfl rfl 8 rfl ?_
  refine gCastY X45 H hZ hown (hw _ wd18) e45 (Ins.self hp46) d3_8 11 rfl ?_
  intro T47 X47 e47
  refine gAstoreN X47 H d3_11 rfl (Ls' := #[vR ro0, vR ro1, vR ro1]) rfl 12 rfl ?_
  refine gAloadN X47 H d3_12 rfl rfl 13 rfl ?_
  refine gGetF X47 H hZ hown (hw _ wd9) Via.refl e47 hp48 d3_13 16 rfl ?_
  intro T49 X49 e49
  refine gAloadN X49 H d3_16 rfl rfl 17 rfl ?_
  refine gGetF X49 H hZ hown (hw _ wd9) Via.refl e49 hp50 d3_17 20 rfl ?_
  intro T51 X51 e51
  refine gCmpN X51 H d3_20 (teq hk52).2 23 rfl ?_
  refine gAloadN X51 H d3_23 rfl rfl 24 rfl ?_
  refine gGetF X51 H hZ hown (hw _ wd11) Via.refl e51 hp53 d3_24 27 rfl ?_
  intro T54 X54 e54
  refine gAloadN X54 H d3_27 rfl rfl 28 rfl ?_
  refine gGetF X54 H hZ hown (hw _ wd11) Via.refl e54 hp55 d3_28 31 rfl ?_
  intro T56 X56 e56
  refine g_lcmp X56 H d3_31 (z := (lcmpW vj4 vj5)) rfl 32 rfl ?_
  refine gIfY X56 H d3_32 ((if0 _ _).trans (feq (fun q => hk57 ((lw_eq _ _).mp q))).2) (by decide) 39 rfl ?_
  refine gIconst X56 H d3_39 (z := 0) rfl 40 rfl ?_
  exact gRetN X56 H hlk hret (t := .boolean) (by simp) d3_40 e56 ⟨rfl, rfl, rfl⟩
theorem rm72_3 (B : Bg Z a0 w_cacheJ cl_cacheJ) (ro0 : Addr) (ro1 : Addr) (vi2 : Int32) (vi3 : Int32) (h : Heap) (O : Ext Z.heap h) (hp65 : Exa Z h ro1 cs0) (hp67 : Fld Z h ro1 cs0 "leaderEpoch" "I" (.int vi2)) (hp69 : Fld Z h ro0 cs0 "leaderEpoch" "I" (.int vi3)) (hk71 : ¬ (vi2 = vi3)) :
    Con l Z yM3 prog_12_method_4_code 3 (some .boolean) ({ frames := 0, cells := 0, slots := 0, locals := 0 } : Room) #[(.ref ro0), (.ref ro1)] h (fun v h' L => v = some (.int 0) ∧ h' = h ∧ L = []) := by
  have hw := B.1
  refine Con.of (plainFor_of_name pn3) (Ls := #[vR ro0, vR ro1, .unset]) (fun m => by first | rfl | (simp [entryFrame, mkF, argsToLocals, Value.category]; done)) ?_
  intro p e s m below meth c T0 X0 H hml hZ hown hnm hret hlk e0
  refine gAloadN X0 H d3_0 rfl rfl 1 rfl ?_
  refine gInstY X0 H hZ hown (hw _ wd18) e0 (Ins.self hp65) d3_1 4 rfl ?_
  intro T64 X64 e64
  refine gIfN X64 H d3_4 (by decide) 7 rfl ?_
  refine gAloadN X64 H d3_7 rfl rfl 8 rfl ?_
  refine gCastY X64 H hZ hown (hw _ wd18) e64 (Ins.self hp65) d3_8 11 rfl ?_
  intro T66 X66 e66
  refine gAstoreN X66 H d3_11 rfl (Ls' := #[vR ro0, vR ro1, vR ro1]) rfl 12 rfl ?_
  refine gAloadN X66 H d3_12 rfl rfl 13 rfl ?_
  refine gGetF X66 H hZ hown (hw _ wd9) Via.refl e66 hp67 d3_13 16 rfl ?_
  intro T68 X68 e68
  refine gAloadN X68 H d3_16 rfl rfl 17 rfl ?_
  refine gGetF X68 H hZ hown (hw _ wd9) Via.refl e68 hp69 d3_17 20 rfl ?_
  intro T70 X70 e70
  refine gCmpY X70 H d3_20 (feq hk71).2 (by decide) 39 rfl ?_
  refine gIconst X70 H d3_39 (z := 0) rfl 40 rfl ?_
  exact gRetN X70 H hlk hret (t := .boolean) (by simp) d3_40 e70 ⟨rfl, rfl, rfl⟩
theorem rm79_3 (B : Bg Z a0 w_cacheJ cl_cacheJ) (ro0 : Addr) (h : Heap) (O : Ext Z.heap h) :
    Con l Z yM3 prog_12_method_4_code 3 (some .boolean) ({ frames := 0, cells := 0, slots := 0, locals := 0 } : Room) #[(.ref ro0), .null] h (fun v h' L => v = some (.int 0) ∧ h' = h ∧ L = []) := by
  refine Con.of (plainFor_of_name pn3) (Ls := #[vR ro0, vN, .unset]) (fun m => by first | rfl | (simp [entryFrame, mkF, argsToLocals, Value.category]; done)) ?_
  intro p e s m below meth c T0 X0 H hml hZ hown hnm hret hlk e0
  refine gAloadN X0 H d3_0 rfl rfl 1 rfl ?_
  refine gInstNull X0 H d3_1 4 rfl ?_
  refine gIfY X0 H d3_4 (by decide) (by decide) 39 rfl ?_
  refine gIconst X0 H d3_39 (z := 0) rfl 40 rfl ?_
  exact gRetN X0 H hlk hret (t := .boolean) (by simp) d3_40 e0 ⟨rfl, rfl, rfl⟩
theorem rm92_3 (B : Bg Z a0 w_cacheJ cl_cacheJ) (ro0 : Addr) (vi1 : Int32) (vj2 : Int64) (h : Heap) (O : Ext Z.heap h) (hp84 : Exa Z h ro0 cs0) (hp86 : Fld Z h ro0 cs0 "leaderEpoch" "I" (.int vi1)) (hp89 : Fld Z h ro0 cs0 "endOffset" "J" (.long vj2)) :
    Con l Z yM3 prog_12_method_4_code 3 (some .boolean) ({ frames := 0, cells := 0, slots := 0, locals := 0 } : Room) #[(.ref ro0), (.ref ro0)] h (fun v h' L => v = some (.int 1) ∧ h' = h ∧ L = []) := by
  have hw := B.1
  refine Con.of (plainFor_of_name pn3) (Ls := #[vR ro0, vR ro0, .unset]) (fun m => by first | rfl | (simp [entryFrame, mkF, argsToLocals, Value.category]; done)) ?_
  intro p e s m below meth c T0 X0 H hml hZ hown hnm hret hlk e0
  refine gAloadN X0 H d3_0 rfl rfl 1 rfl ?_
  refine gInstY X0 H hZ hown (hw _ wd18) e0 (Ins.self hp84) d3_1 4 rfl ?_
  intro T83 X83 e83
  refine gIfN X83 H d3_4 (by decide) 7 rfl ?_
  refine gAloadN X83 H d3_7 rfl rfl 8 rfl ?_
  refine gCastY X83 H hZ hown (hw _ wd18) e83 (Ins.self hp84) d3_8 11 rfl ?_
  intro T85 X85 e85
  refine gAstoreN X85 H d3_11 rfl (Ls' := #[vR ro0, vR ro0, vR ro0]) rfl 12 rfl ?_
  refine gAloadN X85 H d3_12 rfl rfl 13 rfl ?_
  refine gGetF X85 H hZ hown (hw _ wd9) Via.refl e85 hp86 d3_13 16 rfl ?_
  intro T87 X87 e87
  refine gAloadN X87 H d3_16 rfl rfl 17 rfl ?_
  refine gGetF X87 H hZ hown (hw _ wd9) Via.refl e87 hp86 d3_17 20 rfl ?_
  intro T88 X88 e88
  refine gCmpN X88 H d3_20 (teq rfl).2 23 rfl ?_
  refine gAloadN X88 H d3_23 rfl rfl 24 rfl ?_
  refine gGetF X88 H hZ hown (hw _ wd11) Via.refl e88 hp89 d3_24 27 rfl ?_
  intro T90 X90 e90
  refine gAloadN X90 H d3_27 rfl rfl 28 rfl ?_
  refine gGetF X90 H hZ hown (hw _ wd11) Via.refl e90 hp89 d3_28 31 rfl ?_
  intro T91 X91 e91
  refine g_lcmp X91 H d3_31 (z := (lcmpW vj2 vj2)) rfl 32 rfl ?_
  refine gIfN X91 H d3_32 ((if0 _ _).trans (teq ((lw_eq _ _).mpr rfl)).2) 35 rfl ?_
  refine gIconst X91 H d3_35 (z := 1) rfl 36 rfl ?_
  refine gGoto X91 H d3_36 (by decide) 40 rfl ?_
  exact gRetN X91 H hlk hret (t := .boolean) (by simp) d3_40 e91 ⟨rfl, rfl, rfl⟩
theorem rm99_6 (B : Bg Z a0 w_cacheJ cl_cacheJ) (ro0 : Addr) (h : Heap) (O : Ext Z.heap h) :
    Con l Z yM6 jdk_18_method_1_code 1 none ({ frames := 1, cells := 0, slots := 0, locals := 12 } : Room) #[(.ref ro0)] h (fun v h' L => v = none ∧ h' = h ∧ L = []) := by
  have hw := B.1
  refine Con.of (plainFor_of_name pn6) (Ls := #[vR ro0]) (fun m => by first | rfl | (simp [entryFrame, mkF, argsToLocals, Value.category]; done)) ?_
  intro p e s m below meth c T0 X0 H hml hZ hown hnm hret hlk e0
  refine gAloadN X0 H d6_0 rfl rfl 1 rfl ?_
  refine gInitO X0 H hZ hown (hw _ wd38) (hw _ wd7) (hw _ wd8) e0 hml rfl (V := 0) (Nat.le_of_eq rfl) (by decide) (by decide) d6_1 4 rfl ?_
  intro T98 X98 e98
  exact gRetV X98 H hlk hret d6_4 e98 ⟨rfl, rfl, rfl⟩
theorem rm107_5 (B : Bg Z a0 w_cacheJ cl_cacheJ) (ro0 : Addr) (vj1 : Int64) (h : Heap) (O : Ext Z.heap h) (hp102 : Exa Z h ro0 "java/lang/Long") (hp103 : Fld Z h ro0 "java/lang/Long" "value" "J" (.long 0)) (hp104 : Z.heap.size ≤ ro0) :
    Con l Z yM5 jdk_35_method_26_code 3 none ({ frames := 2, cells := 0, slots := 0, locals := 24 } : Room) #[(.ref ro0), (.long vj1)] h (fun v h' L => v = none ∧ Fr Z.heap.size L ∧ Keep h h' [ro0] ∧ Exa Z h' ro0 "java/lang/Long" ∧ Fld Z h' ro0 "java/lang/Long" "value" "J" (.long vj1)) := by
  have hw := B.1
  refine Con.of (plainFor_of_name pn5) (Ls := #[vR ro0, vJ vj1, .second]) (fun m => by first | rfl | (simp [entryFrame, mkF, argsToLocals, Value.category]; done)) ?_
  intro p e s m below meth c T0 X0 H hml hZ hown hnm hret hlk e0
  have N0 := Fr.nil Z.heap.size
  refine gAloadN X0 H d5_0 rfl rfl 1 rfl ?_
  refine gSpecial X0 H hZ hown rfl rfl (hw _ wd32) (hw _ wd33) (by decide) (hw _ wd37) (hw _ wd36) (rm99_6 B ro0 _ O) e0 hml rfl pd2 rfl (W := 0) (argsL := []) (rest := []) rfl rfl d5_1 4 rfl ?_
  intro v100 T100 L100 hq100 X100
  obtain ⟨rfl, e100, rfl⟩ := hq100
  have N100 := Fr.app N0 (Fr.nil _)
  show Go _ _ _ _ (State.setTop _ (mkF _ 4 _ []))
  refine gAloadN X100 H d5_4 rfl rfl 5 rfl ?_
  refine gLloadN X100 H d5_5 rfl 6 rfl ?_
  refine gPutF X100 H hZ hown (hw _ wd39) Via.refl e100 hp103 hp102 (Or.inr ⟨(hw _ wd40), rfl, hnm⟩) (hw _ wd27) (ty := .long) (by decide) (v' := (.long vj1)) rfl rfl d5_6 9 rfl ?_
  intro T101 h101 X101 e101 W101 F101
  have O101 := extW O W101 hp104
  have N101 := Fr.snoc X101 N100 hp104
  have c105 := (hp102.wr W101)
  have K_106 := (Keep.refl h [ro0]).wr W101 (Or.inl (List.mem_of_getElem? (i := 0) rfl))
  exact gRetV X101 H hlk hret d5_9 e101 ⟨rfl, N101, K_106, c105, F101⟩
theorem boxJ (B : Bg Z a0 w_cacheJ cl_cacheJ) (vj0 : Int64) (h : Heap) (O : Ext Z.heap h) :
    Con l Z (⟨"java/lang/Long", "valueOf", "(J)Ljava/lang/Long;"⟩ : MethodName) jdk_35_method_24_code 3 (some (.object "java/lang/Long")) ({ frames := 3, cells := 1, slots := 1, locals := 39 } : Room) #[(.long vj0)] h (fun v h' L => ∃ (b : Addr), v = some (.ref b) ∧ Fr Z.heap.size L ∧ Keep h h' [] ∧ Exa Z h' b "java/lang/Long" ∧ Fld Z h' b "java/lang/Long" "value" "J" (.long vj0)) := by
  have hw := B.1
  obtain ⟨S_cacheJ, B_cacheJ⟩ := B.2
  refine Con.of (plainFor_of_name pn4) (Ls := #[vJ vj0, .second, .unset]) (fun m => by first | rfl | (simp [entryFrame, mkF, argsToLocals, Value.category]; done)) ?_
  intro p e s m below meth c T0 X0 H hml hZ hown hnm hret hlk e0
  have M0 := Nat.le_refl h.size
  have N0 := Fr.nil Z.heap.size
  refine gSipush X0 H d4_0 (z := 128) rfl 3 rfl ?_
  refine gIstoreN X0 H d4_3 (Ls' := #[vJ vj0, .second, vI 128]) rfl 4 rfl ?_
  refine gLloadN X0 H d4_4 rfl 5 rfl ?_
  refine gLdc2 X0 H hZ hown (hw _ wd24) d4_5 8 rfl ?_
  refine g_lcmp X0 H d4_8 (z := (lcmpW vj0 (-128 : Int64))) rfl 9 rfl ?_
  by_cases hc96 : vj0 < (-128 : Int64)
  · refine gIfY X0 H d4_9 ((if0 _ _).trans (tlt ((lw_lt _ _).mpr hc96)).1) (by decide) 31 rfl ?_
    refine gNew X0 H hZ hown (hw _ wd26) (hw _ wd27) (hw _ wd22) e0 (by decide) (by decide) d4_31 34 rfl ?_
    intro T97 h97 b97 X97 e97 z97 E97 A97 D97
    have G_b97 := Nat.le_trans O.1 (Nat.le_of_eq z97)
    have sz_b97 := Nat.le_trans M0 (Nat.le_of_eq z97)
    have O97 := extT O E97
    have F97_value : Fld Z h97 b97 "java/lang/Long" "value" "J" (.long 0) := D97 (Or.inr (hw _ wd40)) (ty := .long) (by decide)
    refine gDup X97 H d4_34 rfl 35 rfl ?_
    refine gLloadN X97 H d4_35 rfl 36 rfl ?_
    refine gSpecial X97 H hZ hown rfl rfl (hw _ wd28) (hw _ wd29) (by decide) (hw _ wd31) (hw _ wd22) (rm107_5 B b97 vj0 _ O97 A97 F97_value G_b97) e97 hml rfl pd3 rfl (W := 1) (argsL := [(.long vj0)]) (rest := [(.ref b97)]) rfl rfl d4_36 39 rfl ?_
    intro v108 T108 L108 hq108 X108
    obtain ⟨rfl, N108q, K108, f108_0, f108_1⟩ := hq108
    have O108 := extK O97 K108 (allS G_b97 all0)
    have N108 := Fr.app N0 N108q
    show Go _ _ _ _ (State.setTop _ (mkF _ 39 _ [(.ref b97)]))
    have K_109 := (Keep.refl h []).ext E97
    have K_110 := K_109.trans K108 (allS (Or.inr sz_b97) all0)
    exact gRetA X108 H hlk hret rfl rfl rfl d4_39 rfl ⟨b97, rfl, N108, K_110, f108_0, f108_1⟩
  · refine gIfN X0 H d4_9 ((if0 _ _).trans (flt (fun q => hc96 ((lw_lt _ _).mp q))).1) 12 rfl ?_
    refine gLloadN X0 H d4_12 rfl 13 rfl ?_
    refine gLdc2 X0 H hZ hown (hw _ wd25) d4_13 16 rfl ?_
    refine g_lcmp X0 H d4_16 (z := (lcmpW vj0 (127 : Int64))) rfl 17 rfl ?_
    by_cases hc111 : (127 : Int64) < vj0
    · refine gIfY X0 H d4_17 ((if0 _ _).trans (tlt ((lw_gt _ _).mpr hc111)).2.2.1) (by decide) 31 rfl ?_
      refine gNew X0 H hZ hown (hw _ wd26) (hw _ wd27) (hw _ wd22) e0 (by decide) (by decide) d4_31 34 rfl ?_
      intro T112 h112 b112 X112 e112 z112 E112 A112 D112
      have G_b112 := Nat.le_trans O.1 (Nat.le_of_eq z112)
      have sz_b112 := Nat.le_trans M0 (Nat.le_of_eq z112)
      have O112 := extT O E112
      have F112_value : Fld Z h112 b112 "java/lang/Long" "value" "J" (.long 0) := D112 (Or.inr (hw _ wd40)) (ty := .long) (by decide)
      refine gDup X112 H d4_34 rfl 35 rfl ?_
      refine gLloadN X112 H d4_35 rfl 36 rfl ?_
      refine gSpecial X112 H hZ hown rfl rfl (hw _ wd28) (hw _ wd29) (by decide) (hw _ wd31) (hw _ wd22) (rm107_5 B b112 vj0 _ O112 A112 F112_value G_b112) e112 hml rfl pd3 rfl (W := 1) (argsL := [(.long vj0)]) (rest := [(.ref b112)]) rfl rfl d4_36 39 rfl ?_
      intro v113 T113 L113 hq113 X113
      obtain ⟨rfl, N113q, K113, f113_0, f113_1⟩ := hq113
      have O113 := extK O112 K113 (allS G_b112 all0)
      have N113 := Fr.app N0 N113q
      show Go _ _ _ _ (State.setTop _ (mkF _ 39 _ [(.ref b112)]))
      have K_114 := (Keep.refl h []).ext E112
      have K_115 := K_114.trans K113 (allS (Or.inr sz_b112) all0)
      exact gRetA X113 H hlk hret rfl rfl rfl d4_39 rfl ⟨b112, rfl, N113, K_115, f113_0, f113_1⟩
    · refine gIfN X0 H d4_17 ((if0 _ _).trans (flt (fun q => hc111 ((lw_gt _ _).mp q))).2.2.1) 20 rfl ?_
      refine gGetS X0 H hZ hown (hw _ wd44) e0 (S_cacheJ.ext O) d4_20 23 rfl ?_
      intro T116 X116 e116
      refine gLloadN X116 H d4_23 rfl 24 rfl ?_
      refine g_l2i X116 H d4_24 (z := (vj0.toInt32)) rfl 25 rfl ?_
      refine gSipush X116 H d4_25 (z := 128) rfl 28 rfl ?_
      refine g_iadd X116 H d4_28 (z := ((vj0.toInt32) + (128 : Int32))) rfl 29 rfl ?_
      obtain ⟨b117, q117, A117, f117⟩ := B_cacheJ.2.2.2 ((vj0.toInt32) + (128 : Int32)) (box_in (boxL_r hc96 hc111).1 (boxL_r hc96 hc111).2.1 B_cacheJ.2.1)
      have F117 : Fld Z Z.heap b117 "java/lang/Long" "value" "J" (.long vj0) := by have z := f117; simp only [box_v, (boxL_r hc96 hc111).2.2] at z; exact z
      refine gBoxload X116 H hZ e116 rfl (B_cacheJ.1.ext O) (box_in (boxL_r hc96 hc111).1 (boxL_r hc96 hc111).2.1 B_cacheJ.2.1) q117 d4_29 30 rfl ?_
      exact gRetA X116 H hlk hret rfl rfl rfl d4_30 e116 ⟨b117, rfl, N0, (Keep.refl h []), (A117.ext O), (F117.ext O)⟩
theorem rm122_3 (B : Bg Z a0 w_cacheJ cl_cacheJ) (ro0 : Addr) (ro1 : Addr) (h : Heap) (O : Ext Z.heap h) (hp121 : Exa Z h ro1 "java/lang/Long") :
    Con l Z yM3 prog_12_method_4_code 3 (some .boolean) ({ frames := 0, cells := 0, slots := 0, locals := 0 } : Room) #[(.ref ro0), (.ref ro1)] h (fun v h' L => v = some (.int 0) ∧ h' = h ∧ L = []) := by
  have hw := B.1
  refine Con.of (plainFor_of_name pn3) (Ls := #[vR ro0, vR ro1, .unset]) (fun m => by first | rfl | (simp [entryFrame, mkF, argsToLocals, Value.category]; done)) ?_
  intro p e s m below meth c T0 X0 H hml hZ hown hnm hret hlk e0
  refine gAloadN X0 H d3_0 rfl rfl 1 rfl ?_
  refine gInstNo X0 H hZ hown (hw _ wd18) e0 hp121 (ns_no (hw _ wd41) (hw _ wd1) (NS.step (hw _ wd41) (NS.step (hw _ wd42) (ns_root (hw _ wd43) (hw _ wd1) (by decide)) (by decide)) (by decide)) (by decide)) d3_1 4 rfl ?_
  intro T120 X120 e120
  refine gIfY X120 H d3_4 (by decide) (by decide) 39 rfl ?_
  refine gIconst X120 H d3_39 (z := 0) rfl 40 rfl ?_
  exact gRetN X120 H hlk hret (t := .boolean) (by simp) d3_40 e120 ⟨rfl, rfl, rfl⟩
theorem rm144_3 (B : Bg Z a0 w_cacheJ cl_cacheJ) (ro0 : Addr) (ro1 : Addr) (vi2 : Int32) (vi3 : Int32) (vj4 : Int64) (h : Heap) (O : Ext Z.heap h) (hp133 : Exa Z h ro1 cs0) (hp135 : Fld Z h ro1 cs0 "leaderEpoch" "I" (.int vi2)) (hp137 : Fld Z h ro0 cs0 "leaderEpoch" "I" (.int vi3)) (hp140 : Fld Z h ro1 cs0 "endOffset" "J" (.long vj4)) (hp142 : Fld Z h ro0 cs0 "endOffset" "J" (.long vj4)) (hk139 : vi2 = vi3) :
    Con l Z yM3 prog_12_method_4_code 3 (some .boolean) ({ frames := 0, cells := 0, slots := 0, locals := 0 } : Room) #[(.ref ro0), (.ref ro1)] h (fun v h' L => v = some (.int 1) ∧ h' = h ∧ L = []) := by
  have hw := B.1
  refine Con.of (plainFor_of_name pn3) (Ls := #[vR ro0, vR ro1, .unset]) (fun m => by first | rfl | (simp [entryFrame, mkF, argsToLocals, Value.category]; done)) ?_
  intro p e s m below meth c T0 X0 H hml hZ hown hnm hret hlk e0
  refine gAloadN X0 H d3_0 rfl rfl 1 rfl ?_
  refine gInstY X0 H hZ hown (hw _ wd18) e0 (Ins.self hp133) d3_1 4 rfl ?_
  intro T132 X132 e132
  refine gIfN X132 H d3_4 (by decide) 7 rfl ?_
  refine gAloadN X132 H d3_7 rfl rfl 8 rfl ?_
  refine gCastY X132 H hZ hown (hw _ wd18) e132 (Ins.self hp133) d3_8 11 rfl ?_
  intro T134 X134 e134
  refine gAstoreN X134 H d3_11 rfl (Ls' := #[vR ro0, vR ro1, vR ro1]) rfl 12 rfl ?_
  refine gAloadN X134 H d3_12 rfl rfl 13 rfl ?_
  refine gGetF X134 H hZ hown (hw _ wd9) Via.refl e134 hp135 d3_13 16 rfl ?_
  intro T136 X136 e136
  refine gAloadN X136 H d3_16 rfl rfl 17 rfl ?_
  refine gGetF X136 H hZ hown (hw _ wd9) Via.refl e136 hp137 d3_17 20 rfl ?_
  intro T138 X138 e138
  refine gCmpN X138 H d3_20 (teq hk139).2 23 rfl ?_
  refine gAloadN X138 H d3_23 rfl rfl 24 rfl ?_
  refine gGetF X138 H hZ hown (hw _ wd11) Via.refl e138 hp140 d3_24 27 rfl ?_
  intro T141 X141 e141
  refine gAloadN X141 H d3_27 rfl rfl 28 rfl ?_
  refine gGetF X141 H hZ hown (hw _ wd11) Via.refl e141 hp142 d3_28 31 rfl ?_
  intro T143 X143 e143
  refine g_lcmp X143 H d3_31 (z := (lcmpW vj4 vj4)) rfl 32 rfl ?_
  refine gIfN X143 H d3_32 ((if0 _ _).trans (teq ((lw_eq _ _).mpr rfl)).2) 35 rfl ?_
  refine gIconst X143 H d3_35 (z := 1) rfl 36 rfl ?_
  refine gGoto X143 H d3_36 (by decide) 40 rfl ?_
  exact gRetN X143 H hlk hret (t := .boolean) (by simp) d3_40 e143 ⟨rfl, rfl, rfl⟩
theorem rm185_3 (B : Bg Z a0 w_cacheJ cl_cacheJ) (ro0 : Addr) (ro1 : Addr) (vi2 : Int32) (vj3 : Int64) (vj4 : Int64) (h : Heap) (O : Ext Z.heap h) (hp174 : Exa Z h ro1 cs0) (hp176 : Fld Z h ro1 cs0 "leaderEpoch" "I" (.int vi2)) (hp178 : Fld Z h ro0 cs0 "leaderEpoch" "I" (.int vi2)) (hp180 : Fld Z h ro1 cs0 "endOffset" "J" (.long vj3)) (hp182 : Fld Z h ro0 cs0 "endOffset" "J" (.long vj4)) (hk184 : vj3 = vj4) :
    Con l Z yM3 prog_12_method_4_code 3 (some .boolean) ({ frames := 0, cells := 0, slots := 0, locals := 0 } : Room) #[(.ref ro0), (.ref ro1)] h (fun v h' L => v = some (.int 1) ∧ h' = h ∧ L = []) := by
  have hw := B.1
  refine Con.of (plainFor_of_name pn3) (Ls := #[vR ro0, vR ro1, .unset]) (fun m => by first | rfl | (simp [entryFrame, mkF, argsToLocals, Value.category]; done)) ?_
  intro p e s m below meth c T0 X0 H hml hZ hown hnm hret hlk e0
  refine gAloadN X0 H d3_0 rfl rfl 1 rfl ?_
  refine gInstY X0 H hZ hown (hw _ wd18) e0 (Ins.self hp174) d3_1 4 rfl ?_
  intro T173 X173 e173
  refine gIfN X173 H d3_4 (by decide) 7 rfl ?_
  refine gAloadN X173 H d3_7 rfl rfl 8 rfl ?_
  refine gCastY X173 H hZ hown (hw _ wd18) e173 (Ins.self hp174) d3_8 11 rfl ?_
  intro T175 X175 e175
  refine gAstoreN X175 H d3_11 rfl (Ls' := #[vR ro0, vR ro1, vR ro1]) rfl 12 rfl ?_
  refine gAloadN X175 H d3_12 rfl rfl 13 rfl ?_
  refine gGetF X175 H hZ hown (hw _ wd9) Via.refl e175 hp176 d3_13 16 rfl ?_
  intro T177 X177 e177
  refine gAloadN X177 H d3_16 rfl rfl 17 rfl ?_
  refine gGetF X177 H hZ hown (hw _ wd9) Via.refl e177 hp178 d3_17 20 rfl ?_
  intro T179 X179 e179
  refine gCmpN X179 H d3_20 (teq rfl).2 23 rfl ?_
  refine gAloadN X179 H d3_23 rfl rfl 24 rfl ?_
  refine gGetF X179 H hZ hown (hw _ wd11) Via.refl e179 hp180 d3_24 27 rfl ?_
  intro T181 X181 e181
  refine gAloadN X181 H d3_27 rfl rfl 28 rfl ?_
  refine gGetF X181 H hZ hown (hw _ wd11) Via.refl e181 hp182 d3_28 31 rfl ?_
  intro T183 X183 e183
  refine g_lcmp X183 H d3_31 (z := (lcmpW vj3 vj4)) rfl 32 rfl ?_
  refine gIfN X183 H d3_32 ((if0 _ _).trans (teq ((lw_eq _ _).mpr hk184)).2) 35 rfl ?_
  refine gIconst X183 H d3_35 (z := 1) rfl 36 rfl ?_
  refine gGoto X183 H d3_36 (by decide) 40 rfl ?_
  exact gRetN X183 H hlk hret (t := .boolean) (by simp) d3_40 e183 ⟨rfl, rfl, rfl⟩
theorem rm203_3 (B : Bg Z a0 w_cacheJ cl_cacheJ) (ro0 : Addr) (ro1 : Addr) (vi2 : Int32) (vj3 : Int64) (vj4 : Int64) (h : Heap) (O : Ext Z.heap h) (hp192 : Exa Z h ro1 cs0) (hp194 : Fld Z h ro1 cs0 "leaderEpoch" "I" (.int vi2)) (hp196 : Fld Z h ro0 cs0 "leaderEpoch" "I" (.int vi2)) (hp198 : Fld Z h ro1 cs0 "endOffset" "J" (.long vj3)) (hp200 : Fld Z h ro0 cs0 "endOffset" "J" (.long vj4)) (hk202 : ¬ (vj3 = vj4)) :
    Con l Z yM3 prog_12_method_4_code 3 (some .boolean) ({ frames := 0, cells := 0, slots := 0, locals := 0 } : Room) #[(.ref ro0), (.ref ro1)] h (fun v h' L => v = some (.int 0) ∧ h' = h ∧ L = []) := by
  have hw := B.1
  refine Con.of (plainFor_of_name pn3) (Ls := #[vR ro0, vR ro1, .unset]) (fun m => by first | rfl | (simp [entryFrame, mkF, argsToLocals, Value.category]; done)) ?_
  intro p e s m below meth c T0 X0 H hml hZ hown hnm hret hlk e0
  refine gAloadN X0 H d3_0 rfl rfl 1 rfl ?_
  refine gInstY X0 H hZ hown (hw _ wd18) e0 (Ins.self hp192) d3_1 4 rfl ?_
  intro T191 X191 e191
  refine gIfN X191 H d3_4 (by decide) 7 rfl ?_
  refine gAloadN X191 H d3_7 rfl rfl 8 rfl ?_
  refine gCastY X191 H hZ hown (hw _ wd18) e191 (Ins.self hp192) d3_8 11 rfl ?_
  intro T193 X193 e193
  refine gAstoreN X193 H d3_11 rfl (Ls' := #[vR ro0, vR ro1, vR ro1]) rfl 12 rfl ?_
  refine gAloadN X193 H d3_12 rfl rfl 13 rfl ?_
  refine gGetF X193 H hZ hown (hw _ wd9) Via.refl e193 hp194 d3_13 16 rfl ?_
  intro T195 X195 e195
  refine gAloadN X195 H d3_16 rfl rfl 17 rfl ?_
  refine gGetF X195 H hZ hown (hw _ wd9) Via.refl e195 hp196 d3_17 20 rfl ?_
  intro T197 X197 e197
  refine gCmpN X197 H d3_20 (teq rfl).2 23 rfl ?_
  refine gAloadN X197 H d3_23 rfl rfl 24 rfl ?_
  refine gGetF X197 H hZ hown (hw _ wd11) Via.refl e197 hp198 d3_24 27 rfl ?_
  intro T199 X199 e199
  refine gAloadN X199 H d3_27 rfl rfl 28 rfl ?_
  refine gGetF X199 H hZ hown (hw _ wd11) Via.refl e199 hp200 d3_28 31 rfl ?_
  intro T201 X201 e201
  refine g_lcmp X201 H d3_31 (z := (lcmpW vj3 vj4)) rfl 32 rfl ?_
  refine gIfY X201 H d3_32 ((if0 _ _).trans (feq (fun q => hk202 ((lw_eq _ _).mp q))).2) (by decide) 39 rfl ?_
  refine gIconst X201 H d3_39 (z := 0) rfl 40 rfl ?_
  exact gRetN X201 H hlk hret (t := .boolean) (by simp) d3_40 e201 ⟨rfl, rfl, rfl⟩
theorem rm237_3 (B : Bg Z a0 w_cacheJ cl_cacheJ) (ro0 : Addr) (ro1 : Addr) (vi2 : Int32) (vj3 : Int64) (h : Heap) (O : Ext Z.heap h) (hp227 : Exa Z h ro1 cs0) (hp229 : Fld Z h ro1 cs0 "leaderEpoch" "I" (.int vi2)) (hp231 : Fld Z h ro0 cs0 "leaderEpoch" "I" (.int vi2)) (hp233 : Fld Z h ro1 cs0 "endOffset" "J" (.long vj3)) (hp235 : Fld Z h ro0 cs0 "endOffset" "J" (.long vj3)) :
    Con l Z yM3 prog_12_method_4_code 3 (some .boolean) ({ frames := 0, cells := 0, slots := 0, locals := 0 } : Room) #[(.ref ro0), (.ref ro1)] h (fun v h' L => v = some (.int 1) ∧ h' = h ∧ L = []) := by
  have hw := B.1
  refine Con.of (plainFor_of_name pn3) (Ls := #[vR ro0, vR ro1, .unset]) (fun m => by first | rfl | (simp [entryFrame, mkF, argsToLocals, Value.category]; done)) ?_
  intro p e s m below meth c T0 X0 H hml hZ hown hnm hret hlk e0
  refine gAloadN X0 H d3_0 rfl rfl 1 rfl ?_
  refine gInstY X0 H hZ hown (hw _ wd18) e0 (Ins.self hp227) d3_1 4 rfl ?_
  intro T226 X226 e226
  refine gIfN X226 H d3_4 (by decide) 7 rfl ?_
  refine gAloadN X226 H d3_7 rfl rfl 8 rfl ?_
  refine gCastY X226 H hZ hown (hw _ wd18) e226 (Ins.self hp227) d3_8 11 rfl ?_
  intro T228 X228 e228
  refine gAstoreN X228 H d3_11 rfl (Ls' := #[vR ro0, vR ro1, vR ro1]) rfl 12 rfl ?_
  refine gAloadN X228 H d3_12 rfl rfl 13 rfl ?_
  refine gGetF X228 H hZ hown (hw _ wd9) Via.refl e228 hp229 d3_13 16 rfl ?_
  intro T230 X230 e230
  refine gAloadN X230 H d3_16 rfl rfl 17 rfl ?_
  refine gGetF X230 H hZ hown (hw _ wd9) Via.refl e230 hp231 d3_17 20 rfl ?_
  intro T232 X232 e232
  refine gCmpN X232 H d3_20 (teq rfl).2 23 rfl ?_
  refine gAloadN X232 H d3_23 rfl rfl 24 rfl ?_
  refine gGetF X232 H hZ hown (hw _ wd11) Via.refl e232 hp233 d3_24 27 rfl ?_
  intro T234 X234 e234
  refine gAloadN X234 H d3_27 rfl rfl 28 rfl ?_
  refine gGetF X234 H hZ hown (hw _ wd11) Via.refl e234 hp235 d3_28 31 rfl ?_
  intro T236 X236 e236
  refine g_lcmp X236 H d3_31 (z := (lcmpW vj3 vj3)) rfl 32 rfl ?_
  refine gIfN X236 H d3_32 ((if0 _ _).trans (teq ((lw_eq _ _).mpr rfl)).2) 35 rfl ?_
  refine gIconst X236 H d3_35 (z := 1) rfl 36 rfl ?_
  refine gGoto X236 H d3_36 (by decide) 40 rfl ?_
  exact gRetN X236 H hlk hret (t := .boolean) (by simp) d3_40 e236 ⟨rfl, rfl, rfl⟩
theorem lawAll (B : Bg Z a0 w_cacheJ cl_cacheJ) (p0 : Int32) (p1 : Int64) (p2 : Int32) (p3 : Int64) (p4 : Int32) :
    Con l Z x code maxLocals ret room_1 #[(.int p0), (.long p1), (.int p2), (.long p3), (.int p4)] Z.heap (fun v h' L => v = some (.int 1) ∧ Fr Z.heap.size L) := by
  have hw := B.1
  obtain ⟨S_cacheJ, B_cacheJ⟩ := B.2
  refine Con.of (plainFor_of_name pn0) (Ls := #[vI p0, vJ p1, .second, vI p2, vJ p3, .second, vI p4, .unset, .unset, .unset, .unset, .unset, .unset, .unset, .unset, .unset]) (fun m => by first | rfl | (simp [entryFrame, mkF, argsToLocals, Value.category, maxLocals]; done)) ?_
  intro p e s m below meth c T0 X0 H hml hZ hown hnm hret hlk e0
  have O0 := extR Z.heap
  have M0 := Nat.le_refl Z.heap.size
  have N0 := Fr.nil Z.heap.size
  refine gIload X0 H at_0 rfl 2 rfl ?_
  refine gIconst X0 H at_2 (z := 1) rfl 3 rfl ?_
  refine g_iand X0 H at_3 (z := (p4 &&& (1 : Int32))) rfl 4 rfl ?_
  by_cases hc1 : (p4 &&& (1 : Int32)) = (0 : Int32)
  · refine gIfY X0 H at_4 ((if0 _ _).trans (teq hc1).1) (by decide) 11 rfl ?_
    refine gIloadN X0 H at_11 rfl 12 rfl ?_
    refine gIstore X0 H at_12 (Ls' := #[vI p0, vJ p1, .second, vI p2, vJ p3, .second, vI p4, vI p2, .unset, .unset, .unset, .unset, .unset, .unset, .unset, .unset]) rfl 14 rfl ?_
    refine gIload X0 H at_14 rfl 16 rfl ?_
    refine gIconst X0 H at_16 (z := 2) rfl 17 rfl ?_
    refine g_iand X0 H at_17 (z := (p4 &&& (2 : Int32))) rfl 18 rfl ?_
    by_cases hc2 : (p4 &&& (2 : Int32)) = (0 : Int32)
    · refine gIfY X0 H at_18 ((if0 _ _).trans (teq hc2).1) (by decide) 25 rfl ?_
      refine gLload X0 H at_25 rfl 27 rfl ?_
      refine gLstore X0 H at_27 (Ls' := #[vI p0, vJ p1, .second, vI p2, vJ p3, .second, vI p4, vI p2, vJ p3, .second, .unset, .unset, .unset, .unset, .unset, .unset]) rfl 29 rfl ?_
      refine gIload X0 H at_29 rfl 31 rfl ?_
      refine gIconst X0 H at_31 (z := 2) rfl 32 rfl ?_
      refine g_iushr X0 H at_32 (z := ((p4.toUInt32 >>> ((2 : Int32) &&& 31).toUInt32).toInt32)) rfl 33 rfl ?_
      refine gIconst X0 H at_33 (z := 3) rfl 34 rfl ?_
      refine g_iand X0 H at_34 (z := (((p4.toUInt32 >>> ((2 : Int32) &&& 31).toUInt32).toInt32) &&& (3 : Int32))) rfl 35 rfl ?_
      refine gIstore X0 H at_35 (Ls' := #[vI p0, vJ p1, .second, vI p2, vJ p3, .second, vI p4, vI p2, vJ p3, .second, vI (((p4.toUInt32 >>> ((2 : Int32) &&& 31).toUInt32).toInt32) &&& (3 : Int32)), .unset, .unset, .unset, .unset, .unset]) rfl 37 rfl ?_
      refine gNew X0 H hZ hown (hw _ wd0) (hw _ wd1) (hw _ wd2) e0 (by decide) (by decide) at_37 40 rfl ?_
      intro T3 h3 b3 X3 e3 z3 E3 A3 D3
      have G_b3 := Nat.le_trans O0.1 (Nat.le_of_eq z3)
      have sz_b3 := Nat.le_trans M0 (Nat.le_of_eq z3)
      have O3 := extT O0 E3
      have F3_leaderEpoch : Fld Z h3 b3 cs0 "leaderEpoch" "I" (.int 0) := D3 (Or.inr (hw _ wd10)) (ty := .int) (by decide)
      have F3_endOffset : Fld Z h3 b3 cs0 "endOffset" "J" (.long 0) := D3 (Or.inr (hw _ wd12)) (ty := .long) (by decide)
      refine gDup X3 H at_40 rfl 41 rfl ?_
      refine gIloadN X3 H at_41 rfl 42 rfl ?_
      refine gLloadN X3 H at_42 rfl 43 rfl ?_
      refine gSpecial X3 H hZ hown rfl rfl (hw _ wd3) (hw _ wd4) (by decide) (hw _ wd5) (hw _ wd2) (rm17_1 B b3 p0 p1 _ O3 A3 F3_leaderEpoch G_b3 F3_endOffset) e3 hml rfl pd0 rfl (W := 1) (argsL := [(.int p0), (.long p1)]) (rest := [(.ref b3)]) rfl rfl at_43 46 rfl ?_
      intro v18 T18 L18 hq18 X18
      obtain ⟨rfl, N18q, K18, f18_0, f18_1, f18_2⟩ := hq18
      have O18 := extK O3 K18 (allS G_b3 all0)
      have N18 := Fr.app N0 N18q
      show Go _ _ _ _ (State.setTop _ (mkF _ 46 _ [(.ref b3)]))
      refine gAstore X18 H at_46 rfl (Ls' := #[vI p0, vJ p1, .second, vI p2, vJ p3, .second, vI p4, vI p2, vJ p3, .second, vI (((p4.toUInt32 >>> ((2 : Int32) &&& 31).toUInt32).toInt32) &&& (3 : Int32)), vR b3, .unset, .unset, .unset, .unset]) rfl 48 rfl ?_
      refine gNew X18 H hZ hown (hw _ wd0) (hw _ wd1) (hw _ wd2) rfl (by decide) (by decide) at_48 51 rfl ?_
      intro T19 h19 b19 X19 e19 z19 E19 A19 D19
      have M20 := (Nat.le_trans (Nat.le_trans M0 E3.1) K18.1)
      have G_b19 := Nat.le_trans O18.1 (Nat.le_of_eq z19)
      have sz_b19 := Nat.le_trans M20 (Nat.le_of_eq z19)
      have ne_b3_b19 : b3 ≠ b19 := neB f18_0.lt (Nat.le_of_eq z19)
      have O19 := extT O18 E19
      have F19_leaderEpoch : Fld Z h19 b19 cs0 "leaderEpoch" "I" (.int 0) := D19 (Or.inr (hw _ wd10)) (ty := .int) (by decide)
      have F19_endOffset : Fld Z h19 b19 cs0 "endOffset" "J" (.long 0) := D19 (Or.inr (hw _ wd12)) (ty := .long) (by decide)
      refine gDup X19 H at_51 rfl 52 rfl ?_
      refine gIload X19 H at_52 rfl 54 rfl ?_
      refine gLload X19 H at_54 rfl 56 rfl ?_
      refine gSpecial X19 H hZ hown rfl rfl (hw _ wd3) (hw _ wd4) (by decide) (hw _ wd5) (hw _ wd2) (rm17_1 B b19 p2 p3 _ O19 A19 F19_leaderEpoch G_b19 F19_endOffset) e19 hml rfl pd0 rfl (W := 1) (argsL := [(.int p2), (.long p3)]) (rest := [(.ref b19)]) rfl rfl at_56 59 rfl ?_
      intro v21 T21 L21 hq21 X21
      obtain ⟨rfl, N21q, K21, f21_0, f21_1, f21_2⟩ := hq21
      have O21 := extK O19 K21 (allS G_b19 all0)
      have N21 := Fr.app N18 N21q
      show Go _ _ _ _ (State.setTop _ (mkF _ 59 _ [(.ref b19)]))
      refine gAstore X21 H at_59 rfl (Ls' := #[vI p0, vJ p1, .second, vI p2, vJ p3, .second, vI p4, vI p2, vJ p3, .second, vI (((p4.toUInt32 >>> ((2 : Int32) &&& 31).toUInt32).toInt32) &&& (3 : Int32)), vR b3, vR b19, .unset, .unset, .unset]) rfl 61 rfl ?_
      refine gIload X21 H at_61 rfl 63 rfl ?_
      by_cases hc22 : (((p4.toUInt32 >>> ((2 : Int32) &&& 31).toUInt32).toInt32) &&& (3 : Int32)) = (0 : Int32)
      · refine gIfN X21 H at_63 ((if0 _ _).trans (teq hc22).2) 66 rfl ?_
        refine gIloadN X21 H at_66 rfl 67 rfl ?_
        refine gIload X21 H at_67 rfl 69 rfl ?_
        by_cases hc23 : p0 = p2
        · refine gCmpN X21 H at_69 (teq hc23).2 72 rfl ?_
          refine gLloadN X21 H at_72 rfl 73 rfl ?_
          refine gLload X21 H at_73 rfl 75 rfl ?_
          refine g_lcmp X21 H at_75 (z := (lcmpW p1 p3)) rfl 76 rfl ?_
          by_cases hc24 : p1 = p3
          · refine gIfN X21 H at_76 ((if0 _ _).trans (teq ((lw_eq _ _).mpr hc24)).2) 79 rfl ?_
            refine gIconst X21 H at_79 (z := 1) rfl 80 rfl ?_
            refine gGoto X21 H at_80 (by decide) 84 rfl ?_
            refine gIstore X21 H at_84 (Ls' := #[vI p0, vJ p1, .second, vI p2, vJ p3, .second, vI p4, vI p2, vJ p3, .second, vI (((p4.toUInt32 >>> ((2 : Int32) &&& 31).toUInt32).toInt32) &&& (3 : Int32)), vR b3, vR b19, vI 1, .unset, .unset]) rfl 86 rfl ?_
            refine gAload X21 H at_86 rfl rfl 88 rfl ?_
            refine gAload X21 H at_88 rfl rfl 90 rfl ?_
            have c25 := ((f18_0.ext E19).keep K21)
            have c40 := ((f18_1.ext E19).keep K21 (ninS ne_b3_b19 nin0))
            have c41 := ((f18_2.ext E19).keep K21 (ninS ne_b3_b19 nin0))
            refine gVirt X21 H hZ hown (hw _ wd13) (hw _ wd14) (hw _ wd16) (hw _ wd15) (by decide) c25 (hw _ wd17) (hw _ wd2) (rm39_3 B b3 b19 p2 p0 p3 p1 _ O21 f21_0 f21_1 c40 f21_2 c41 (Eq.symm hc23) (Eq.symm hc24)) rfl hml rfl pd1 rfl (W := 0) (argsL := [(.ref b19)]) (rest := []) rfl rfl at_90 93 rfl ?_
            intro v42 T42 L42 hq42 X42
            obtain ⟨rfl, e42, rfl⟩ := hq42
            have N42 := Fr.app N21 (Fr.nil _)
            show Go _ _ _ _ (State.setTop _ (mkF _ 93 _ [(.int 1)]))
            refine gIstore X42 H at_93 (Ls' := #[vI p0, vJ p1, .second, vI p2, vJ p3, .second, vI p4, vI p2, vJ p3, .second, vI (((p4.toUInt32 >>> ((2 : Int32) &&& 31).toUInt32).toInt32) &&& (3 : Int32)), vR b3, vR b19, vI 1, vI 1, .unset]) rfl 95 rfl ?_
            refine gAload X42 H at_95 rfl rfl 97 rfl ?_
            refine gAload X42 H at_97 rfl rfl 99 rfl ?_
            refine gVirt X42 H hZ hown (hw _ wd13) (hw _ wd14) (hw _ wd16) (hw _ wd15) (by decide) f21_0 (hw _ wd17) (hw _ wd2) (rm39_3 B b19 b3 p0 p2 p1 p3 _ O21 c25 c40 f21_1 c41 f21_2 hc23 hc24) e42 hml rfl pd1 rfl (W := 0) (argsL := [(.ref b3)]) (rest := []) rfl rfl at_99 102 rfl ?_
            intro v43 T43 L43 hq43 X43
            obtain ⟨rfl, e43, rfl⟩ := hq43
            have N43 := Fr.app N42 (Fr.nil _)
            show Go _ _ _ _ (State.setTop _ (mkF _ 102 _ [(.int 1)]))
            refine gIstore X43 H at_102 (Ls' := #[vI p0, vJ p1, .second, vI p2, vJ p3, .second, vI p4, vI p2, vJ p3, .second, vI (((p4.toUInt32 >>> ((2 : Int32) &&& 31).toUInt32).toInt32) &&& (3 : Int32)), vR b3, vR b19, vI 1, vI 1, vI 1]) rfl 104 rfl ?_
            refine gIload X43 H at_104 rfl 106 rfl ?_
            refine gIload X43 H at_106 rfl 108 rfl ?_
            refine gCmpN X43 H at_108 (by decide) 111 rfl ?_
            refine gIload X43 H at_111 rfl 113 rfl ?_
            refine gIload X43 H at_113 rfl 115 rfl ?_
            refine gCmpN X43 H at_115 (by decide) 118 rfl ?_
            refine gIconst X43 H at_118 (z := 1) rfl 119 rfl ?_
            refine gGoto X43 H at_119 (by decide) 123 rfl ?_
            exact gRetN X43 H hlk hret (t := .boolean) (by simp) at_123 e43 ⟨rfl, N43⟩
          · refine gIfY X21 H at_76 ((if0 _ _).trans (feq (fun q => hc24 ((lw_eq _ _).mp q))).2) (by decide) 83 rfl ?_
            refine gIconst X21 H at_83 (z := 0) rfl 84 rfl ?_
            refine gIstore X21 H at_84 (Ls' := #[vI p0, vJ p1, .second, vI p2, vJ p3, .second, vI p4, vI p2, vJ p3, .second, vI (((p4.toUInt32 >>> ((2 : Int32) &&& 31).toUInt32).toInt32) &&& (3 : Int32)), vR b3, vR b19, vI 0, .unset, .unset]) rfl 86 rfl ?_
            refine gAload X21 H at_86 rfl rfl 88 rfl ?_
            refine gAload X21 H at_88 rfl rfl 90 rfl ?_
            have c44 := ((f18_0.ext E19).keep K21)
            have c59 := ((f18_1.ext E19).keep K21 (ninS ne_b3_b19 nin0))
            have c60 := ((f18_2.ext E19).keep K21 (ninS ne_b3_b19 nin0))
            refine gVirt X21 H hZ hown (hw _ wd13) (hw _ wd14) (hw _ wd16) (hw _ wd15) (by decide) c44 (hw _ wd17) (hw _ wd2) (rm58_3 B b3 b19 p2 p0 p3 p1 _ O21 f21_0 f21_1 c59 f21_2 c60 (Eq.symm hc23) (Ne.symm hc24)) rfl hml rfl pd1 rfl (W := 0) (argsL := [(.ref b19)]) (rest := []) rfl rfl at_90 93 rfl ?_
            intro v61 T61 L61 hq61 X61
            obtain ⟨rfl, e61, rfl⟩ := hq61
            have N61 := Fr.app N21 (Fr.nil _)
            show Go _ _ _ _ (State.setTop _ (mkF _ 93 _ [(.int 0)]))
            refine gIstore X61 H at_93 (Ls' := #[vI p0, vJ p1, .second, vI p2, vJ p3, .second, vI p4, vI p2, vJ p3, .second, vI (((p4.toUInt32 >>> ((2 : Int32) &&& 31).toUInt32).toInt32) &&& (3 : Int32)), vR b3, vR b19, vI 0, vI 0, .unset]) rfl 95 rfl ?_
            refine gAload X61 H at_95 rfl rfl 97 rfl ?_
            refine gAload X61 H at_97 rfl rfl 99 rfl ?_
            refine gVirt X61 H hZ hown (hw _ wd13) (hw _ wd14) (hw _ wd16) (hw _ wd15) (by decide) f21_0 (hw _ wd17) (hw _ wd2) (rm58_3 B b19 b3 p0 p2 p1 p3 _ O21 c44 c59 f21_1 c60 f21_2 hc23 hc24) e61 hml rfl pd1 rfl (W := 0) (argsL := [(.ref b3)]) (rest := []) rfl rfl at_99 102 rfl ?_
            intro v62 T62 L62 hq62 X62
            obtain ⟨rfl, e62, rfl⟩ := hq62
            have N62 := Fr.app N61 (Fr.nil _)
            show Go _ _ _ _ (State.setTop _ (mkF _ 102 _ [(.int 0)]))
            refine gIstore X62 H at_102 (Ls' := #[vI p0, vJ p1, .second, vI p2, vJ p3, .second, vI p4, vI p2, vJ p3, .second, vI (((p4.toUInt32 >>> ((2 : Int32) &&& 31).toUInt32).toInt32) &&& (3 : Int32)), vR b3, vR b19, vI 0, vI 0, vI 0]) rfl 104 rfl ?_
            refine gIload X62 H at_104 rfl 106 rfl ?_
            refine gIload X62 H at_106 rfl 108 rfl ?_
            refine gCmpN X62 H at_108 (by decide) 111 rfl ?_
            refine gIload X62 H at_111 rfl 113 rfl ?_
            refine gIload X62 H at_113 rfl 115 rfl ?_
            refine gCmpN X62 H at_115 (by decide) 118 rfl ?_
            refine gIconst X62 H at_118 (z := 1) rfl 119 rfl ?_
            refine gGoto X62 H at_119 (by decide) 123 rfl ?_
            exact gRetN X62 H hlk hret (t := .boolean) (by simp) at_123 e62 ⟨rfl, N62⟩
        · refine gCmpY X21 H at_69 (feq hc23).2 (by decide) 83 rfl ?_
          refine gIconst X21 H at_83 (z := 0) rfl 84 rfl ?_
          refine gIstore X21 H at_84 (Ls' := #[vI p0, vJ p1, .second, vI p2, vJ p3, .second, vI p4, vI p2, vJ p3, .second, vI (((p4.toUInt32 >>> ((2 : Int32) &&& 31).toUInt32).toInt32) &&& (3 : Int32)), vR b3, vR b19, vI 0, .unset, .unset]) rfl 86 rfl ?_
          refine gAload X21 H at_86 rfl rfl 88 rfl ?_
          refine gAload X21 H at_88 rfl rfl 90 rfl ?_
          have c63 := ((f18_0.ext E19).keep K21)
          have c73 := ((f18_1.ext E19).keep K21 (ninS ne_b3_b19 nin0))
          refine gVirt X21 H hZ hown (hw _ wd13) (hw _ wd14) (hw _ wd16) (hw _ wd15) (by decide) c63 (hw _ wd17) (hw _ wd2) (rm72_3 B b3 b19 p2 p0 _ O21 f21_0 f21_1 c73 (Ne.symm hc23)) rfl hml rfl pd1 rfl (W := 0) (argsL := [(.ref b19)]) (rest := []) rfl rfl at_90 93 rfl ?_
          intro v74 T74 L74 hq74 X74
          obtain ⟨rfl, e74, rfl⟩ := hq74
          have N74 := Fr.app N21 (Fr.nil _)
          show Go _ _ _ _ (State.setTop _ (mkF _ 93 _ [(.int 0)]))
          refine gIstore X74 H at_93 (Ls' := #[vI p0, vJ p1, .second, vI p2, vJ p3, .second, vI p4, vI p2, vJ p3, .second, vI (((p4.toUInt32 >>> ((2 : Int32) &&& 31).toUInt32).toInt32) &&& (3 : Int32)), vR b3, vR b19, vI 0, vI 0, .unset]) rfl 95 rfl ?_
          refine gAload X74 H at_95 rfl rfl 97 rfl ?_
          refine gAload X74 H at_97 rfl rfl 99 rfl ?_
          refine gVirt X74 H hZ hown (hw _ wd13) (hw _ wd14) (hw _ wd16) (hw _ wd15) (by decide) f21_0 (hw _ wd17) (hw _ wd2) (rm72_3 B b19 b3 p0 p2 _ O21 c63 c73 f21_1 hc23) e74 hml rfl pd1 rfl (W := 0) (argsL := [(.ref b3)]) (rest := []) rfl rfl at_99 102 rfl ?_
          intro v75 T75 L75 hq75 X75
          obtain ⟨rfl, e75, rfl⟩ := hq75
          have N75 := Fr.app N74 (Fr.nil _)
          show Go _ _ _ _ (State.setTop _ (mkF _ 102 _ [(.int 0)]))
          refine gIstore X75 H at_102 (Ls' := #[vI p0, vJ p1, .second, vI p2, vJ p3, .second, vI p4, vI p2, vJ p3, .second, vI (((p4.toUInt32 >>> ((2 : Int32) &&& 31).toUInt32).toInt32) &&& (3 : Int32)), vR b3, vR b19, vI 0, vI 0, vI 0]) rfl 104 rfl ?_
          refine gIload X75 H at_104 rfl 106 rfl ?_
          refine gIload X75 H at_106 rfl 108 rfl ?_
          refine gCmpN X75 H at_108 (by decide) 111 rfl ?_
          refine gIload X75 H at_111 rfl 113 rfl ?_
          refine gIload X75 H at_113 rfl 115 rfl ?_
          refine gCmpN X75 H at_115 (by decide) 118 rfl ?_
          refine gIconst X75 H at_118 (z := 1) rfl 119 rfl ?_
          refine gGoto X75 H at_119 (by decide) 123 rfl ?_
          exact gRetN X75 H hlk hret (t := .boolean) (by simp) at_123 e75 ⟨rfl, N75⟩
      · refine gIfY X21 H at_63 ((if0 _ _).trans (feq hc22).2) (by decide) 124 rfl ?_
        refine gIload X21 H at_124 rfl 126 rfl ?_
        refine gIconst X21 H at_126 (z := 1) rfl 127 rfl ?_
        by_cases hc76 : (((p4.toUInt32 >>> ((2 : Int32) &&& 31).toUInt32).toInt32) &&& (3 : Int32)) = (1 : Int32)
        · refine gCmpN X21 H at_127 (teq hc76).2 130 rfl ?_
          refine gAload X21 H at_130 rfl rfl 132 rfl ?_
          refine gNull X21 H at_132 133 rfl ?_
          have c77 := ((f18_0.ext E19).keep K21)
          refine gVirt X21 H hZ hown (hw _ wd13) (hw _ wd14) (hw _ wd16) (hw _ wd15) (by decide) c77 (hw _ wd17) (hw _ wd2) (rm79_3 B b3 _ O21) rfl hml rfl pd1 rfl (W := 0) (argsL := [.null]) (rest := []) rfl rfl at_133 136 rfl ?_
          intro v80 T80 L80 hq80 X80
          obtain ⟨rfl, e80, rfl⟩ := hq80
          have N80 := Fr.app N21 (Fr.nil _)
          show Go _ _ _ _ (State.setTop _ (mkF _ 136 _ [(.int 0)]))
          refine gIfN X80 H at_136 (by decide) 139 rfl ?_
          refine gIconst X80 H at_139 (z := 1) rfl 140 rfl ?_
          refine gGoto X80 H at_140 (by decide) 144 rfl ?_
          exact gRetN X80 H hlk hret (t := .boolean) (by simp) at_144 e80 ⟨rfl, N80⟩
        · refine gCmpY X21 H at_127 (feq hc76).2 (by decide) 145 rfl ?_
          refine gIload X21 H at_145 rfl 147 rfl ?_
          refine gIconst X21 H at_147 (z := 2) rfl 148 rfl ?_
          by_cases hc81 : (((p4.toUInt32 >>> ((2 : Int32) &&& 31).toUInt32).toInt32) &&& (3 : Int32)) = (2 : Int32)
          · refine gCmpN X21 H at_148 (teq hc81).2 151 rfl ?_
            refine gAload X21 H at_151 rfl rfl 153 rfl ?_
            refine gAload X21 H at_153 rfl rfl 155 rfl ?_
            have c82 := ((f18_0.ext E19).keep K21)
            have c93 := ((f18_1.ext E19).keep K21 (ninS ne_b3_b19 nin0))
            have c94 := ((f18_2.ext E19).keep K21 (ninS ne_b3_b19 nin0))
            refine gVirt X21 H hZ hown (hw _ wd13) (hw _ wd14) (hw _ wd16) (hw _ wd15) (by decide) c82 (hw _ wd17) (hw _ wd2) (rm92_3 B b3 p0 p1 _ O21 c82 c93 c94) rfl hml rfl pd1 rfl (W := 0) (argsL := [(.ref b3)]) (rest := []) rfl rfl at_155 158 rfl ?_
            intro v95 T95 L95 hq95 X95
            obtain ⟨rfl, e95, rfl⟩ := hq95
            have N95 := Fr.app N21 (Fr.nil _)
            show Go _ _ _ _ (State.setTop _ (mkF _ 158 _ [(.int 1)]))
            exact gRetN X95 H hlk hret (t := .boolean) (by simp) at_158 e95 ⟨rfl, N95⟩
          · refine gCmpY X21 H at_148 (feq hc81).2 (by decide) 159 rfl ?_
            refine gLloadN X21 H at_159 rfl 160 rfl ?_
            refine gStatic X21 H hZ hown (hw _ wd20) (hw _ wd21) (by decide) (hw _ wd23) (hw _ wd22) (boxJ B p1 _ O21) rfl hml rfl pd4 rfl (W := 0) (argsL := [(.long p1)]) (rest := []) rfl rfl at_160 163 rfl ?_
            intro v118 T118 L118 hq118 X118
            obtain ⟨b118, rfl, N118q, K118, f118_0, f118_1⟩ := hq118
            have O118 := extK O21 K118 all0
            have N118 := Fr.app N21 N118q
            show Go _ _ _ _ (State.setTop _ (mkF _ 163 _ [(.ref b118)]))
            refine gAstore X118 H at_163 rfl (Ls' := #[vI p0, vJ p1, .second, vI p2, vJ p3, .second, vI p4, vI p2, vJ p3, .second, vI (((p4.toUInt32 >>> ((2 : Int32) &&& 31).toUInt32).toInt32) &&& (3 : Int32)), vR b3, vR b19, vR b118, .unset, .unset]) rfl 165 rfl ?_
            refine gAload X118 H at_165 rfl rfl 167 rfl ?_
            refine gAload X118 H at_167 rfl rfl 169 rfl ?_
            have c119 := (((f18_0.ext E19).keep K21).keep K118)
            refine gVirt X118 H hZ hown (hw _ wd13) (hw _ wd14) (hw _ wd16) (hw _ wd15) (by decide) c119 (hw _ wd17) (hw _ wd2) (rm122_3 B b3 b118 _ O118 f118_0) rfl hml rfl pd1 rfl (W := 0) (argsL := [(.ref b118)]) (rest := []) rfl rfl at_169 172 rfl ?_
            intro v123 T123 L123 hq123 X123
            obtain ⟨rfl, e123, rfl⟩ := hq123
            have N123 := Fr.app N118 (Fr.nil _)
            show Go _ _ _ _ (State.setTop _ (mkF _ 172 _ [(.int 0)]))
            refine gIfN X123 H at_172 (by decide) 175 rfl ?_
            refine gIconst X123 H at_175 (z := 1) rfl 176 rfl ?_
            refine gGoto X123 H at_176 (by decide) 180 rfl ?_
            exact gRetN X123 H hlk hret (t := .boolean) (by simp) at_180 e123 ⟨rfl, N123⟩
    · refine gIfN X0 H at_18 ((if0 _ _).trans (feq hc2).1) 21 rfl ?_
      refine gLloadN X0 H at_21 rfl 22 rfl ?_
      refine gGoto X0 H at_22 (by decide) 27 rfl ?_
      refine gLstore X0 H at_27 (Ls' := #[vI p0, vJ p1, .second, vI p2, vJ p3, .second, vI p4, vI p2, vJ p1, .second, .unset, .unset, .unset, .unset, .unset, .unset]) rfl 29 rfl ?_
      refine gIload X0 H at_29 rfl 31 rfl ?_
      refine gIconst X0 H at_31 (z := 2) rfl 32 rfl ?_
      refine g_iushr X0 H at_32 (z := ((p4.toUInt32 >>> ((2 : Int32) &&& 31).toUInt32).toInt32)) rfl 33 rfl ?_
      refine gIconst X0 H at_33 (z := 3) rfl 34 rfl ?_
      refine g_iand X0 H at_34 (z := (((p4.toUInt32 >>> ((2 : Int32) &&& 31).toUInt32).toInt32) &&& (3 : Int32))) rfl 35 rfl ?_
      refine gIstore X0 H at_35 (Ls' := #[vI p0, vJ p1, .second, vI p2, vJ p3, .second, vI p4, vI p2, vJ p1, .second, vI (((p4.toUInt32 >>> ((2 : Int32) &&& 31).toUInt32).toInt32) &&& (3 : Int32)), .unset, .unset, .unset, .unset, .unset]) rfl 37 rfl ?_
      refine gNew X0 H hZ hown (hw _ wd0) (hw _ wd1) (hw _ wd2) e0 (by decide) (by decide) at_37 40 rfl ?_
      intro T124 h124 b124 X124 e124 z124 E124 A124 D124
      have G_b124 := Nat.le_trans O0.1 (Nat.le_of_eq z124)
      have sz_b124 := Nat.le_trans M0 (Nat.le_of_eq z124)
      have O124 := extT O0 E124
      have F124_leaderEpoch : Fld Z h124 b124 cs0 "leaderEpoch" "I" (.int 0) := D124 (Or.inr (hw _ wd10)) (ty := .int) (by decide)
      have F124_endOffset : Fld Z h124 b124 cs0 "endOffset" "J" (.long 0) := D124 (Or.inr (hw _ wd12)) (ty := .long) (by decide)
      refine gDup X124 H at_40 rfl 41 rfl ?_
      refine gIloadN X124 H at_41 rfl 42 rfl ?_
      refine gLloadN X124 H at_42 rfl 43 rfl ?_
      refine gSpecial X124 H hZ hown rfl rfl (hw _ wd3) (hw _ wd4) (by decide) (hw _ wd5) (hw _ wd2) (rm17_1 B b124 p0 p1 _ O124 A124 F124_leaderEpoch G_b124 F124_endOffset) e124 hml rfl pd0 rfl (W := 1) (argsL := [(.int p0), (.long p1)]) (rest := [(.ref b124)]) rfl rfl at_43 46 rfl ?_
      intro v125 T125 L125 hq125 X125
      obtain ⟨rfl, N125q, K125, f125_0, f125_1, f125_2⟩ := hq125
      have O125 := extK O124 K125 (allS G_b124 all0)
      have N125 := Fr.app N0 N125q
      show Go _ _ _ _ (State.setTop _ (mkF _ 46 _ [(.ref b124)]))
      refine gAstore X125 H at_46 rfl (Ls' := #[vI p0, vJ p1, .second, vI p2, vJ p3, .second, vI p4, vI p2, vJ p1, .second, vI (((p4.toUInt32 >>> ((2 : Int32) &&& 31).toUInt32).toInt32) &&& (3 : Int32)), vR b124, .unset, .unset, .unset, .unset]) rfl 48 rfl ?_
      refine gNew X125 H hZ hown (hw _ wd0) (hw _ wd1) (hw _ wd2) rfl (by decide) (by decide) at_48 51 rfl ?_
      intro T126 h126 b126 X126 e126 z126 E126 A126 D126
      have M127 := (Nat.le_trans (Nat.le_trans M0 E124.1) K125.1)
      have G_b126 := Nat.le_trans O125.1 (Nat.le_of_eq z126)
      have sz_b126 := Nat.le_trans M127 (Nat.le_of_eq z126)
      have ne_b124_b126 : b124 ≠ b126 := neB f125_0.lt (Nat.le_of_eq z126)
      have O126 := extT O125 E126
      have F126_leaderEpoch : Fld Z h126 b126 cs0 "leaderEpoch" "I" (.int 0) := D126 (Or.inr (hw _ wd10)) (ty := .int) (by decide)
      have F126_endOffset : Fld Z h126 b126 cs0 "endOffset" "J" (.long 0) := D126 (Or.inr (hw _ wd12)) (ty := .long) (by decide)
      refine gDup X126 H at_51 rfl 52 rfl ?_
      refine gIload X126 H at_52 rfl 54 rfl ?_
      refine gLload X126 H at_54 rfl 56 rfl ?_
      refine gSpecial X126 H hZ hown rfl rfl (hw _ wd3) (hw _ wd4) (by decide) (hw _ wd5) (hw _ wd2) (rm17_1 B b126 p2 p1 _ O126 A126 F126_leaderEpoch G_b126 F126_endOffset) e126 hml rfl pd0 rfl (W := 1) (argsL := [(.int p2), (.long p1)]) (rest := [(.ref b126)]) rfl rfl at_56 59 rfl ?_
      intro v128 T128 L128 hq128 X128
      obtain ⟨rfl, N128q, K128, f128_0, f128_1, f128_2⟩ := hq128
      have O128 := extK O126 K128 (allS G_b126 all0)
      have N128 := Fr.app N125 N128q
      show Go _ _ _ _ (State.setTop _ (mkF _ 59 _ [(.ref b126)]))
      refine gAstore X128 H at_59 rfl (Ls' := #[vI p0, vJ p1, .second, vI p2, vJ p3, .second, vI p4, vI p2, vJ p1, .second, vI (((p4.toUInt32 >>> ((2 : Int32) &&& 31).toUInt32).toInt32) &&& (3 : Int32)), vR b124, vR b126, .unset, .unset, .unset]) rfl 61 rfl ?_
      refine gIload X128 H at_61 rfl 63 rfl ?_
      by_cases hc129 : (((p4.toUInt32 >>> ((2 : Int32) &&& 31).toUInt32).toInt32) &&& (3 : Int32)) = (0 : Int32)
      · refine gIfN X128 H at_63 ((if0 _ _).trans (teq hc129).2) 66 rfl ?_
        refine gIloadN X128 H at_66 rfl 67 rfl ?_
        refine gIload X128 H at_67 rfl 69 rfl ?_
        by_cases hc130 : p0 = p2
        · refine gCmpN X128 H at_69 (teq hc130).2 72 rfl ?_
          refine gLloadN X128 H at_72 rfl 73 rfl ?_
          refine gLload X128 H at_73 rfl 75 rfl ?_
          refine g_lcmp X128 H at_75 (z := (lcmpW p1 p1)) rfl 76 rfl ?_
          refine gIfN X128 H at_76 ((if0 _ _).trans (teq ((lw_eq _ _).mpr rfl)).2) 79 rfl ?_
          refine gIconst X128 H at_79 (z := 1) rfl 80 rfl ?_
          refine gGoto X128 H at_80 (by decide) 84 rfl ?_
          refine gIstore X128 H at_84 (Ls' := #[vI p0, vJ p1, .second, vI p2, vJ p3, .second, vI p4, vI p2, vJ p1, .second, vI (((p4.toUInt32 >>> ((2 : Int32) &&& 31).toUInt32).toInt32) &&& (3 : Int32)), vR b124, vR b126, vI 1, .unset, .unset]) rfl 86 rfl ?_
          refine gAload X128 H at_86 rfl rfl 88 rfl ?_
          refine gAload X128 H at_88 rfl rfl 90 rfl ?_
          have c131 := ((f125_0.ext E126).keep K128)
          have c145 := ((f125_1.ext E126).keep K128 (ninS ne_b124_b126 nin0))
          have c146 := ((f125_2.ext E126).keep K128 (ninS ne_b124_b126 nin0))
          refine gVirt X128 H hZ hown (hw _ wd13) (hw _ wd14) (hw _ wd16) (hw _ wd15) (by decide) c131 (hw _ wd17) (hw _ wd2) (rm144_3 B b124 b126 p2 p0 p1 _ O128 f128_0 f128_1 c145 f128_2 c146 (Eq.symm hc130)) rfl hml rfl pd1 rfl (W := 0) (argsL := [(.ref b126)]) (rest := []) rfl rfl at_90 93 rfl ?_
          intro v147 T147 L147 hq147 X147
          obtain ⟨rfl, e147, rfl⟩ := hq147
          have N147 := Fr.app N128 (Fr.nil _)
          show Go _ _ _ _ (State.setTop _ (mkF _ 93 _ [(.int 1)]))
          refine gIstore X147 H at_93 (Ls' := #[vI p0, vJ p1, .second, vI p2, vJ p3, .second, vI p4, vI p2, vJ p1, .second, vI (((p4.toUInt32 >>> ((2 : Int32) &&& 31).toUInt32).toInt32) &&& (3 : Int32)), vR b124, vR b126, vI 1, vI 1, .unset]) rfl 95 rfl ?_
          refine gAload X147 H at_95 rfl rfl 97 rfl ?_
          refine gAload X147 H at_97 rfl rfl 99 rfl ?_
          refine gVirt X147 H hZ hown (hw _ wd13) (hw _ wd14) (hw _ wd16) (hw _ wd15) (by decide) f128_0 (hw _ wd17) (hw _ wd2) (rm144_3 B b126 b124 p0 p2 p1 _ O128 c131 c145 f128_1 c146 f128_2 hc130) e147 hml rfl pd1 rfl (W := 0) (argsL := [(.ref b124)]) (rest := []) rfl rfl at_99 102 rfl ?_
          intro v148 T148 L148 hq148 X148
          obtain ⟨rfl, e148, rfl⟩ := hq148
          have N148 := Fr.app N147 (Fr.nil _)
          show Go _ _ _ _ (State.setTop _ (mkF _ 102 _ [(.int 1)]))
          refine gIstore X148 H at_102 (Ls' := #[vI p0, vJ p1, .second, vI p2, vJ p3, .second, vI p4, vI p2, vJ p1, .second, vI (((p4.toUInt32 >>> ((2 : Int32) &&& 31).toUInt32).toInt32) &&& (3 : Int32)), vR b124, vR b126, vI 1, vI 1, vI 1]) rfl 104 rfl ?_
          refine gIload X148 H at_104 rfl 106 rfl ?_
          refine gIload X148 H at_106 rfl 108 rfl ?_
          refine gCmpN X148 H at_108 (by decide) 111 rfl ?_
          refine gIload X148 H at_111 rfl 113 rfl ?_
          refine gIload X148 H at_113 rfl 115 rfl ?_
          refine gCmpN X148 H at_115 (by decide) 118 rfl ?_
          refine gIconst X148 H at_118 (z := 1) rfl 119 rfl ?_
          refine gGoto X148 H at_119 (by decide) 123 rfl ?_
          exact gRetN X148 H hlk hret (t := .boolean) (by simp) at_123 e148 ⟨rfl, N148⟩
        · refine gCmpY X128 H at_69 (feq hc130).2 (by decide) 83 rfl ?_
          refine gIconst X128 H at_83 (z := 0) rfl 84 rfl ?_
          refine gIstore X128 H at_84 (Ls' := #[vI p0, vJ p1, .second, vI p2, vJ p3, .second, vI p4, vI p2, vJ p1, .second, vI (((p4.toUInt32 >>> ((2 : Int32) &&& 31).toUInt32).toInt32) &&& (3 : Int32)), vR b124, vR b126, vI 0, .unset, .unset]) rfl 86 rfl ?_
          refine gAload X128 H at_86 rfl rfl 88 rfl ?_
          refine gAload X128 H at_88 rfl rfl 90 rfl ?_
          have c149 := ((f125_0.ext E126).keep K128)
          have c150 := ((f125_1.ext E126).keep K128 (ninS ne_b124_b126 nin0))
          refine gVirt X128 H hZ hown (hw _ wd13) (hw _ wd14) (hw _ wd16) (hw _ wd15) (by decide) c149 (hw _ wd17) (hw _ wd2) (rm72_3 B b124 b126 p2 p0 _ O128 f128_0 f128_1 c150 (Ne.symm hc130)) rfl hml rfl pd1 rfl (W := 0) (argsL := [(.ref b126)]) (rest := []) rfl rfl at_90 93 rfl ?_
          intro v151 T151 L151 hq151 X151
          obtain ⟨rfl, e151, rfl⟩ := hq151
          have N151 := Fr.app N128 (Fr.nil _)
          show Go _ _ _ _ (State.setTop _ (mkF _ 93 _ [(.int 0)]))
          refine gIstore X151 H at_93 (Ls' := #[vI p0, vJ p1, .second, vI p2, vJ p3, .second, vI p4, vI p2, vJ p1, .second, vI (((p4.toUInt32 >>> ((2 : Int32) &&& 31).toUInt32).toInt32) &&& (3 : Int32)), vR b124, vR b126, vI 0, vI 0, .unset]) rfl 95 rfl ?_
          refine gAload X151 H at_95 rfl rfl 97 rfl ?_
          refine gAload X151 H at_97 rfl rfl 99 rfl ?_
          refine gVirt X151 H hZ hown (hw _ wd13) (hw _ wd14) (hw _ wd16) (hw _ wd15) (by decide) f128_0 (hw _ wd17) (hw _ wd2) (rm72_3 B b126 b124 p0 p2 _ O128 c149 c150 f128_1 hc130) e151 hml rfl pd1 rfl (W := 0) (argsL := [(.ref b124)]) (rest := []) rfl rfl at_99 102 rfl ?_
          intro v152 T152 L152 hq152 X152
          obtain ⟨rfl, e152, rfl⟩ := hq152
          have N152 := Fr.app N151 (Fr.nil _)
          show Go _ _ _ _ (State.setTop _ (mkF _ 102 _ [(.int 0)]))
          refine gIstore X152 H at_102 (Ls' := #[vI p0, vJ p1, .second, vI p2, vJ p3, .second, vI p4, vI p2, vJ p1, .second, vI (((p4.toUInt32 >>> ((2 : Int32) &&& 31).toUInt32).toInt32) &&& (3 : Int32)), vR b124, vR b126, vI 0, vI 0, vI 0]) rfl 104 rfl ?_
          refine gIload X152 H at_104 rfl 106 rfl ?_
          refine gIload X152 H at_106 rfl 108 rfl ?_
          refine gCmpN X152 H at_108 (by decide) 111 rfl ?_
          refine gIload X152 H at_111 rfl 113 rfl ?_
          refine gIload X152 H at_113 rfl 115 rfl ?_
          refine gCmpN X152 H at_115 (by decide) 118 rfl ?_
          refine gIconst X152 H at_118 (z := 1) rfl 119 rfl ?_
          refine gGoto X152 H at_119 (by decide) 123 rfl ?_
          exact gRetN X152 H hlk hret (t := .boolean) (by simp) at_123 e152 ⟨rfl, N152⟩
      · refine gIfY X128 H at_63 ((if0 _ _).trans (feq hc129).2) (by decide) 124 rfl ?_
        refine gIload X128 H at_124 rfl 126 rfl ?_
        refine gIconst X128 H at_126 (z := 1) rfl 127 rfl ?_
        by_cases hc153 : (((p4.toUInt32 >>> ((2 : Int32) &&& 31).toUInt32).toInt32) &&& (3 : Int32)) = (1 : Int32)
        · refine gCmpN X128 H at_127 (teq hc153).2 130 rfl ?_
          refine gAload X128 H at_130 rfl rfl 132 rfl ?_
          refine gNull X128 H at_132 133 rfl ?_
          have c154 := ((f125_0.ext E126).keep K128)
          refine gVirt X128 H hZ hown (hw _ wd13) (hw _ wd14) (hw _ wd16) (hw _ wd15) (by decide) c154 (hw _ wd17) (hw _ wd2) (rm79_3 B b124 _ O128) rfl hml rfl pd1 rfl (W := 0) (argsL := [.null]) (rest := []) rfl rfl at_133 136 rfl ?_
          intro v155 T155 L155 hq155 X155
          obtain ⟨rfl, e155, rfl⟩ := hq155
          have N155 := Fr.app N128 (Fr.nil _)
          show Go _ _ _ _ (State.setTop _ (mkF _ 136 _ [(.int 0)]))
          refine gIfN X155 H at_136 (by decide) 139 rfl ?_
          refine gIconst X155 H at_139 (z := 1) rfl 140 rfl ?_
          refine gGoto X155 H at_140 (by decide) 144 rfl ?_
          exact gRetN X155 H hlk hret (t := .boolean) (by simp) at_144 e155 ⟨rfl, N155⟩
        · refine gCmpY X128 H at_127 (feq hc153).2 (by decide) 145 rfl ?_
          refine gIload X128 H at_145 rfl 147 rfl ?_
          refine gIconst X128 H at_147 (z := 2) rfl 148 rfl ?_
          by_cases hc156 : (((p4.toUInt32 >>> ((2 : Int32) &&& 31).toUInt32).toInt32) &&& (3 : Int32)) = (2 : Int32)
          · refine gCmpN X128 H at_148 (teq hc156).2 151 rfl ?_
            refine gAload X128 H at_151 rfl rfl 153 rfl ?_
            refine gAload X128 H at_153 rfl rfl 155 rfl ?_
            have c157 := ((f125_0.ext E126).keep K128)
            have c158 := ((f125_1.ext E126).keep K128 (ninS ne_b124_b126 nin0))
            have c159 := ((f125_2.ext E126).keep K128 (ninS ne_b124_b126 nin0))
            refine gVirt X128 H hZ hown (hw _ wd13) (hw _ wd14) (hw _ wd16) (hw _ wd15) (by decide) c157 (hw _ wd17) (hw _ wd2) (rm92_3 B b124 p0 p1 _ O128 c157 c158 c159) rfl hml rfl pd1 rfl (W := 0) (argsL := [(.ref b124)]) (rest := []) rfl rfl at_155 158 rfl ?_
            intro v160 T160 L160 hq160 X160
            obtain ⟨rfl, e160, rfl⟩ := hq160
            have N160 := Fr.app N128 (Fr.nil _)
            show Go _ _ _ _ (State.setTop _ (mkF _ 158 _ [(.int 1)]))
            exact gRetN X160 H hlk hret (t := .boolean) (by simp) at_158 e160 ⟨rfl, N160⟩
          · refine gCmpY X128 H at_148 (feq hc156).2 (by decide) 159 rfl ?_
            refine gLloadN X128 H at_159 rfl 160 rfl ?_
            refine gStatic X128 H hZ hown (hw _ wd20) (hw _ wd21) (by decide) (hw _ wd23) (hw _ wd22) (boxJ B p1 _ O128) rfl hml rfl pd4 rfl (W := 0) (argsL := [(.long p1)]) (rest := []) rfl rfl at_160 163 rfl ?_
            intro v161 T161 L161 hq161 X161
            obtain ⟨b161, rfl, N161q, K161, f161_0, f161_1⟩ := hq161
            have O161 := extK O128 K161 all0
            have N161 := Fr.app N128 N161q
            show Go _ _ _ _ (State.setTop _ (mkF _ 163 _ [(.ref b161)]))
            refine gAstore X161 H at_163 rfl (Ls' := #[vI p0, vJ p1, .second, vI p2, vJ p3, .second, vI p4, vI p2, vJ p1, .second, vI (((p4.toUInt32 >>> ((2 : Int32) &&& 31).toUInt32).toInt32) &&& (3 : Int32)), vR b124, vR b126, vR b161, .unset, .unset]) rfl 165 rfl ?_
            refine gAload X161 H at_165 rfl rfl 167 rfl ?_
            refine gAload X161 H at_167 rfl rfl 169 rfl ?_
            have c162 := (((f125_0.ext E126).keep K128).keep K161)
            refine gVirt X161 H hZ hown (hw _ wd13) (hw _ wd14) (hw _ wd16) (hw _ wd15) (by decide) c162 (hw _ wd17) (hw _ wd2) (rm122_3 B b124 b161 _ O161 f161_0) rfl hml rfl pd1 rfl (W := 0) (argsL := [(.ref b161)]) (rest := []) rfl rfl at_169 172 rfl ?_
            intro v163 T163 L163 hq163 X163
            obtain ⟨rfl, e163, rfl⟩ := hq163
            have N163 := Fr.app N161 (Fr.nil _)
            show Go _ _ _ _ (State.setTop _ (mkF _ 172 _ [(.int 0)]))
            refine gIfN X163 H at_172 (by decide) 175 rfl ?_
            refine gIconst X163 H at_175 (z := 1) rfl 176 rfl ?_
            refine gGoto X163 H at_176 (by decide) 180 rfl ?_
            exact gRetN X163 H hlk hret (t := .boolean) (by simp) at_180 e163 ⟨rfl, N163⟩
  · refine gIfN X0 H at_4 ((if0 _ _).trans (feq hc1).1) 7 rfl ?_
    refine gIloadN X0 H at_7 rfl 8 rfl ?_
    refine gGoto X0 H at_8 (by decide) 12 rfl ?_
    refine gIstore X0 H at_12 (Ls' := #[vI p0, vJ p1, .second, vI p2, vJ p3, .second, vI p4, vI p0, .unset, .unset, .unset, .unset, .unset, .unset, .unset, .unset]) rfl 14 rfl ?_
    refine gIload X0 H at_14 rfl 16 rfl ?_
    refine gIconst X0 H at_16 (z := 2) rfl 17 rfl ?_
    refine g_iand X0 H at_17 (z := (p4 &&& (2 : Int32))) rfl 18 rfl ?_
    by_cases hc164 : (p4 &&& (2 : Int32)) = (0 : Int32)
    · refine gIfY X0 H at_18 ((if0 _ _).trans (teq hc164).1) (by decide) 25 rfl ?_
      refine gLload X0 H at_25 rfl 27 rfl ?_
      refine gLstore X0 H at_27 (Ls' := #[vI p0, vJ p1, .second, vI p2, vJ p3, .second, vI p4, vI p0, vJ p3, .second, .unset, .unset, .unset, .unset, .unset, .unset]) rfl 29 rfl ?_
      refine gIload X0 H at_29 rfl 31 rfl ?_
      refine gIconst X0 H at_31 (z := 2) rfl 32 rfl ?_
      refine g_iushr X0 H at_32 (z := ((p4.toUInt32 >>> ((2 : Int32) &&& 31).toUInt32).toInt32)) rfl 33 rfl ?_
      refine gIconst X0 H at_33 (z := 3) rfl 34 rfl ?_
      refine g_iand X0 H at_34 (z := (((p4.toUInt32 >>> ((2 : Int32) &&& 31).toUInt32).toInt32) &&& (3 : Int32))) rfl 35 rfl ?_
      refine gIstore X0 H at_35 (Ls' := #[vI p0, vJ p1, .second, vI p2, vJ p3, .second, vI p4, vI p0, vJ p3, .second, vI (((p4.toUInt32 >>> ((2 : Int32) &&& 31).toUInt32).toInt32) &&& (3 : Int32)), .unset, .unset, .unset, .unset, .unset]) rfl 37 rfl ?_
      refine gNew X0 H hZ hown (hw _ wd0) (hw _ wd1) (hw _ wd2) e0 (by decide) (by decide) at_37 40 rfl ?_
      intro T165 h165 b165 X165 e165 z165 E165 A165 D165
      have G_b165 := Nat.le_trans O0.1 (Nat.le_of_eq z165)
      have sz_b165 := Nat.le_trans M0 (Nat.le_of_eq z165)
      have O165 := extT O0 E165
      have F165_leaderEpoch : Fld Z h165 b165 cs0 "leaderEpoch" "I" (.int 0) := D165 (Or.inr (hw _ wd10)) (ty := .int) (by decide)
      have F165_endOffset : Fld Z h165 b165 cs0 "endOffset" "J" (.long 0) := D165 (Or.inr (hw _ wd12)) (ty := .long) (by decide)
      refine gDup X165 H at_40 rfl 41 rfl ?_
      refine gIloadN X165 H at_41 rfl 42 rfl ?_
      refine gLloadN X165 H at_42 rfl 43 rfl ?_
      refine gSpecial X165 H hZ hown rfl rfl (hw _ wd3) (hw _ wd4) (by decide) (hw _ wd5) (hw _ wd2) (rm17_1 B b165 p0 p1 _ O165 A165 F165_leaderEpoch G_b165 F165_endOffset) e165 hml rfl pd0 rfl (W := 1) (argsL := [(.int p0), (.long p1)]) (rest := [(.ref b165)]) rfl rfl at_43 46 rfl ?_
      intro v166 T166 L166 hq166 X166
      obtain ⟨rfl, N166q, K166, f166_0, f166_1, f166_2⟩ := hq166
      have O166 := extK O165 K166 (allS G_b165 all0)
      have N166 := Fr.app N0 N166q
      show Go _ _ _ _ (State.setTop _ (mkF _ 46 _ [(.ref b165)]))
      refine gAstore X166 H at_46 rfl (Ls' := #[vI p0, vJ p1, .second, vI p2, vJ p3, .second, vI p4, vI p0, vJ p3, .second, vI (((p4.toUInt32 >>> ((2 : Int32) &&& 31).toUInt32).toInt32) &&& (3 : Int32)), vR b165, .unset, .unset, .unset, .unset]) rfl 48 rfl ?_
      refine gNew X166 H hZ hown (hw _ wd0) (hw _ wd1) (hw _ wd2) rfl (by decide) (by decide) at_48 51 rfl ?_
      intro T167 h167 b167 X167 e167 z167 E167 A167 D167
      have M168 := (Nat.le_trans (Nat.le_trans M0 E165.1) K166.1)
      have G_b167 := Nat.le_trans O166.1 (Nat.le_of_eq z167)
      have sz_b167 := Nat.le_trans M168 (Nat.le_of_eq z167)
      have ne_b165_b167 : b165 ≠ b167 := neB f166_0.lt (Nat.le_of_eq z167)
      have O167 := extT O166 E167
      have F167_leaderEpoch : Fld Z h167 b167 cs0 "leaderEpoch" "I" (.int 0) := D167 (Or.inr (hw _ wd10)) (ty := .int) (by decide)
      have F167_endOffset : Fld Z h167 b167 cs0 "endOffset" "J" (.long 0) := D167 (Or.inr (hw _ wd12)) (ty := .long) (by decide)
      refine gDup X167 H at_51 rfl 52 rfl ?_
      refine gIload X167 H at_52 rfl 54 rfl ?_
      refine gLload X167 H at_54 rfl 56 rfl ?_
      refine gSpecial X167 H hZ hown rfl rfl (hw _ wd3) (hw _ wd4) (by decide) (hw _ wd5) (hw _ wd2) (rm17_1 B b167 p0 p3 _ O167 A167 F167_leaderEpoch G_b167 F167_endOffset) e167 hml rfl pd0 rfl (W := 1) (argsL := [(.int p0), (.long p3)]) (rest := [(.ref b167)]) rfl rfl at_56 59 rfl ?_
      intro v169 T169 L169 hq169 X169
      obtain ⟨rfl, N169q, K169, f169_0, f169_1, f169_2⟩ := hq169
      have O169 := extK O167 K169 (allS G_b167 all0)
      have N169 := Fr.app N166 N169q
      show Go _ _ _ _ (State.setTop _ (mkF _ 59 _ [(.ref b167)]))
      refine gAstore X169 H at_59 rfl (Ls' := #[vI p0, vJ p1, .second, vI p2, vJ p3, .second, vI p4, vI p0, vJ p3, .second, vI (((p4.toUInt32 >>> ((2 : Int32) &&& 31).toUInt32).toInt32) &&& (3 : Int32)), vR b165, vR b167, .unset, .unset, .unset]) rfl 61 rfl ?_
      refine gIload X169 H at_61 rfl 63 rfl ?_
      by_cases hc170 : (((p4.toUInt32 >>> ((2 : Int32) &&& 31).toUInt32).toInt32) &&& (3 : Int32)) = (0 : Int32)
      · refine gIfN X169 H at_63 ((if0 _ _).trans (teq hc170).2) 66 rfl ?_
        refine gIloadN X169 H at_66 rfl 67 rfl ?_
        refine gIload X169 H at_67 rfl 69 rfl ?_
        refine gCmpN X169 H at_69 (teq rfl).2 72 rfl ?_
        refine gLloadN X169 H at_72 rfl 73 rfl ?_
        refine gLload X169 H at_73 rfl 75 rfl ?_
        refine g_lcmp X169 H at_75 (z := (lcmpW p1 p3)) rfl 76 rfl ?_
        by_cases hc171 : p1 = p3
        · refine gIfN X169 H at_76 ((if0 _ _).trans (teq ((lw_eq _ _).mpr hc171)).2) 79 rfl ?_
          refine gIconst X169 H at_79 (z := 1) rfl 80 rfl ?_
          refine gGoto X169 H at_80 (by decide) 84 rfl ?_
          refine gIstore X169 H at_84 (Ls' := #[vI p0, vJ p1, .second, vI p2, vJ p3, .second, vI p4, vI p0, vJ p3, .second, vI (((p4.toUInt32 >>> ((2 : Int32) &&& 31).toUInt32).toInt32) &&& (3 : Int32)), vR b165, vR b167, vI 1, .unset, .unset]) rfl 86 rfl ?_
          refine gAload X169 H at_86 rfl rfl 88 rfl ?_
          refine gAload X169 H at_88 rfl rfl 90 rfl ?_
          have c172 := ((f166_0.ext E167).keep K169)
          have c186 := ((f166_1.ext E167).keep K169 (ninS ne_b165_b167 nin0))
          have c187 := ((f166_2.ext E167).keep K169 (ninS ne_b165_b167 nin0))
          refine gVirt X169 H hZ hown (hw _ wd13) (hw _ wd14) (hw _ wd16) (hw _ wd15) (by decide) c172 (hw _ wd17) (hw _ wd2) (rm185_3 B b165 b167 p0 p3 p1 _ O169 f169_0 f169_1 c186 f169_2 c187 (Eq.symm hc171)) rfl hml rfl pd1 rfl (W := 0) (argsL := [(.ref b167)]) (rest := []) rfl rfl at_90 93 rfl ?_
          intro v188 T188 L188 hq188 X188
          obtain ⟨rfl, e188, rfl⟩ := hq188
          have N188 := Fr.app N169 (Fr.nil _)
          show Go _ _ _ _ (State.setTop _ (mkF _ 93 _ [(.int 1)]))
          refine gIstore X188 H at_93 (Ls' := #[vI p0, vJ p1, .second, vI p2, vJ p3, .second, vI p4, vI p0, vJ p3, .second, vI (((p4.toUInt32 >>> ((2 : Int32) &&& 31).toUInt32).toInt32) &&& (3 : Int32)), vR b165, vR b167, vI 1, vI 1, .unset]) rfl 95 rfl ?_
          refine gAload X188 H at_95 rfl rfl 97 rfl ?_
          refine gAload X188 H at_97 rfl rfl 99 rfl ?_
          refine gVirt X188 H hZ hown (hw _ wd13) (hw _ wd14) (hw _ wd16) (hw _ wd15) (by decide) f169_0 (hw _ wd17) (hw _ wd2) (rm185_3 B b167 b165 p0 p1 p3 _ O169 c172 c186 f169_1 c187 f169_2 hc171) e188 hml rfl pd1 rfl (W := 0) (argsL := [(.ref b165)]) (rest := []) rfl rfl at_99 102 rfl ?_
          intro v189 T189 L189 hq189 X189
          obtain ⟨rfl, e189, rfl⟩ := hq189
          have N189 := Fr.app N188 (Fr.nil _)
          show Go _ _ _ _ (State.setTop _ (mkF _ 102 _ [(.int 1)]))
          refine gIstore X189 H at_102 (Ls' := #[vI p0, vJ p1, .second, vI p2, vJ p3, .second, vI p4, vI p0, vJ p3, .second, vI (((p4.toUInt32 >>> ((2 : Int32) &&& 31).toUInt32).toInt32) &&& (3 : Int32)), vR b165, vR b167, vI 1, vI 1, vI 1]) rfl 104 rfl ?_
          refine gIload X189 H at_104 rfl 106 rfl ?_
          refine gIload X189 H at_106 rfl 108 rfl ?_
          refine gCmpN X189 H at_108 (by decide) 111 rfl ?_
          refine gIload X189 H at_111 rfl 113 rfl ?_
          refine gIload X189 H at_113 rfl 115 rfl ?_
          refine gCmpN X189 H at_115 (by decide) 118 rfl ?_
          refine gIconst X189 H at_118 (z := 1) rfl 119 rfl ?_
          refine gGoto X189 H at_119 (by decide) 123 rfl ?_
          exact gRetN X189 H hlk hret (t := .boolean) (by simp) at_123 e189 ⟨rfl, N189⟩
        · refine gIfY X169 H at_76 ((if0 _ _).trans (feq (fun q => hc171 ((lw_eq _ _).mp q))).2) (by decide) 83 rfl ?_
          refine gIconst X169 H at_83 (z := 0) rfl 84 rfl ?_
          refine gIstore X169 H at_84 (Ls' := #[vI p0, vJ p1, .second, vI p2, vJ p3, .second, vI p4, vI p0, vJ p3, .second, vI (((p4.toUInt32 >>> ((2 : Int32) &&& 31).toUInt32).toInt32) &&& (3 : Int32)), vR b165, vR b167, vI 0, .unset, .unset]) rfl 86 rfl ?_
          refine gAload X169 H at_86 rfl rfl 88 rfl ?_
          refine gAload X169 H at_88 rfl rfl 90 rfl ?_
          have c190 := ((f166_0.ext E167).keep K169)
          have c204 := ((f166_1.ext E167).keep K169 (ninS ne_b165_b167 nin0))
          have c205 := ((f166_2.ext E167).keep K169 (ninS ne_b165_b167 nin0))
          refine gVirt X169 H hZ hown (hw _ wd13) (hw _ wd14) (hw _ wd16) (hw _ wd15) (by decide) c190 (hw _ wd17) (hw _ wd2) (rm203_3 B b165 b167 p0 p3 p1 _ O169 f169_0 f169_1 c204 f169_2 c205 (Ne.symm hc171)) rfl hml rfl pd1 rfl (W := 0) (argsL := [(.ref b167)]) (rest := []) rfl rfl at_90 93 rfl ?_
          intro v206 T206 L206 hq206 X206
          obtain ⟨rfl, e206, rfl⟩ := hq206
          have N206 := Fr.app N169 (Fr.nil _)
          show Go _ _ _ _ (State.setTop _ (mkF _ 93 _ [(.int 0)]))
          refine gIstore X206 H at_93 (Ls' := #[vI p0, vJ p1, .second, vI p2, vJ p3, .second, vI p4, vI p0, vJ p3, .second, vI (((p4.toUInt32 >>> ((2 : Int32) &&& 31).toUInt32).toInt32) &&& (3 : Int32)), vR b165, vR b167, vI 0, vI 0, .unset]) rfl 95 rfl ?_
          refine gAload X206 H at_95 rfl rfl 97 rfl ?_
          refine gAload X206 H at_97 rfl rfl 99 rfl ?_
          refine gVirt X206 H hZ hown (hw _ wd13) (hw _ wd14) (hw _ wd16) (hw _ wd15) (by decide) f169_0 (hw _ wd17) (hw _ wd2) (rm203_3 B b167 b165 p0 p1 p3 _ O169 c190 c204 f169_1 c205 f169_2 hc171) e206 hml rfl pd1 rfl (W := 0) (argsL := [(.ref b165)]) (rest := []) rfl rfl at_99 102 rfl ?_
          intro v207 T207 L207 hq207 X207
          obtain ⟨rfl, e207, rfl⟩ := hq207
          have N207 := Fr.app N206 (Fr.nil _)
          show Go _ _ _ _ (State.setTop _ (mkF _ 102 _ [(.int 0)]))
          refine gIstore X207 H at_102 (Ls' := #[vI p0, vJ p1, .second, vI p2, vJ p3, .second, vI p4, vI p0, vJ p3, .second, vI (((p4.toUInt32 >>> ((2 : Int32) &&& 31).toUInt32).toInt32) &&& (3 : Int32)), vR b165, vR b167, vI 0, vI 0, vI 0]) rfl 104 rfl ?_
          refine gIload X207 H at_104 rfl 106 rfl ?_
          refine gIload X207 H at_106 rfl 108 rfl ?_
          refine gCmpN X207 H at_108 (by decide) 111 rfl ?_
          refine gIload X207 H at_111 rfl 113 rfl ?_
          refine gIload X207 H at_113 rfl 115 rfl ?_
          refine gCmpN X207 H at_115 (by decide) 118 rfl ?_
          refine gIconst X207 H at_118 (z := 1) rfl 119 rfl ?_
          refine gGoto X207 H at_119 (by decide) 123 rfl ?_
          exact gRetN X207 H hlk hret (t := .boolean) (by simp) at_123 e207 ⟨rfl, N207⟩
      · refine gIfY X169 H at_63 ((if0 _ _).trans (feq hc170).2) (by decide) 124 rfl ?_
        refine gIload X169 H at_124 rfl 126 rfl ?_
        refine gIconst X169 H at_126 (z := 1) rfl 127 rfl ?_
        by_cases hc208 : (((p4.toUInt32 >>> ((2 : Int32) &&& 31).toUInt32).toInt32) &&& (3 : Int32)) = (1 : Int32)
        · refine gCmpN X169 H at_127 (teq hc208).2 130 rfl ?_
          refine gAload X169 H at_130 rfl rfl 132 rfl ?_
          refine gNull X169 H at_132 133 rfl ?_
          have c209 := ((f166_0.ext E167).keep K169)
          refine gVirt X169 H hZ hown (hw _ wd13) (hw _ wd14) (hw _ wd16) (hw _ wd15) (by decide) c209 (hw _ wd17) (hw _ wd2) (rm79_3 B b165 _ O169) rfl hml rfl pd1 rfl (W := 0) (argsL := [.null]) (rest := []) rfl rfl at_133 136 rfl ?_
          intro v210 T210 L210 hq210 X210
          obtain ⟨rfl, e210, rfl⟩ := hq210
          have N210 := Fr.app N169 (Fr.nil _)
          show Go _ _ _ _ (State.setTop _ (mkF _ 136 _ [(.int 0)]))
          refine gIfN X210 H at_136 (by decide) 139 rfl ?_
          refine gIconst X210 H at_139 (z := 1) rfl 140 rfl ?_
          refine gGoto X210 H at_140 (by decide) 144 rfl ?_
          exact gRetN X210 H hlk hret (t := .boolean) (by simp) at_144 e210 ⟨rfl, N210⟩
        · refine gCmpY X169 H at_127 (feq hc208).2 (by decide) 145 rfl ?_
          refine gIload X169 H at_145 rfl 147 rfl ?_
          refine gIconst X169 H at_147 (z := 2) rfl 148 rfl ?_
          by_cases hc211 : (((p4.toUInt32 >>> ((2 : Int32) &&& 31).toUInt32).toInt32) &&& (3 : Int32)) = (2 : Int32)
          · refine gCmpN X169 H at_148 (teq hc211).2 151 rfl ?_
            refine gAload X169 H at_151 rfl rfl 153 rfl ?_
            refine gAload X169 H at_153 rfl rfl 155 rfl ?_
            have c212 := ((f166_0.ext E167).keep K169)
            have c213 := ((f166_1.ext E167).keep K169 (ninS ne_b165_b167 nin0))
            have c214 := ((f166_2.ext E167).keep K169 (ninS ne_b165_b167 nin0))
            refine gVirt X169 H hZ hown (hw _ wd13) (hw _ wd14) (hw _ wd16) (hw _ wd15) (by decide) c212 (hw _ wd17) (hw _ wd2) (rm92_3 B b165 p0 p1 _ O169 c212 c213 c214) rfl hml rfl pd1 rfl (W := 0) (argsL := [(.ref b165)]) (rest := []) rfl rfl at_155 158 rfl ?_
            intro v215 T215 L215 hq215 X215
            obtain ⟨rfl, e215, rfl⟩ := hq215
            have N215 := Fr.app N169 (Fr.nil _)
            show Go _ _ _ _ (State.setTop _ (mkF _ 158 _ [(.int 1)]))
            exact gRetN X215 H hlk hret (t := .boolean) (by simp) at_158 e215 ⟨rfl, N215⟩
          · refine gCmpY X169 H at_148 (feq hc211).2 (by decide) 159 rfl ?_
            refine gLloadN X169 H at_159 rfl 160 rfl ?_
            refine gStatic X169 H hZ hown (hw _ wd20) (hw _ wd21) (by decide) (hw _ wd23) (hw _ wd22) (boxJ B p1 _ O169) rfl hml rfl pd4 rfl (W := 0) (argsL := [(.long p1)]) (rest := []) rfl rfl at_160 163 rfl ?_
            intro v216 T216 L216 hq216 X216
            obtain ⟨b216, rfl, N216q, K216, f216_0, f216_1⟩ := hq216
            have O216 := extK O169 K216 all0
            have N216 := Fr.app N169 N216q
            show Go _ _ _ _ (State.setTop _ (mkF _ 163 _ [(.ref b216)]))
            refine gAstore X216 H at_163 rfl (Ls' := #[vI p0, vJ p1, .second, vI p2, vJ p3, .second, vI p4, vI p0, vJ p3, .second, vI (((p4.toUInt32 >>> ((2 : Int32) &&& 31).toUInt32).toInt32) &&& (3 : Int32)), vR b165, vR b167, vR b216, .unset, .unset]) rfl 165 rfl ?_
            refine gAload X216 H at_165 rfl rfl 167 rfl ?_
            refine gAload X216 H at_167 rfl rfl 169 rfl ?_
            have c217 := (((f166_0.ext E167).keep K169).keep K216)
            refine gVirt X216 H hZ hown (hw _ wd13) (hw _ wd14) (hw _ wd16) (hw _ wd15) (by decide) c217 (hw _ wd17) (hw _ wd2) (rm122_3 B b165 b216 _ O216 f216_0) rfl hml rfl pd1 rfl (W := 0) (argsL := [(.ref b216)]) (rest := []) rfl rfl at_169 172 rfl ?_
            intro v218 T218 L218 hq218 X218
            obtain ⟨rfl, e218, rfl⟩ := hq218
            have N218 := Fr.app N216 (Fr.nil _)
            show Go _ _ _ _ (State.setTop _ (mkF _ 172 _ [(.int 0)]))
            refine gIfN X218 H at_172 (by decide) 175 rfl ?_
            refine gIconst X218 H at_175 (z := 1) rfl 176 rfl ?_
            refine gGoto X218 H at_176 (by decide) 180 rfl ?_
            exact gRetN X218 H hlk hret (t := .boolean) (by simp) at_180 e218 ⟨rfl, N218⟩
    · refine gIfN X0 H at_18 ((if0 _ _).trans (feq hc164).1) 21 rfl ?_
      refine gLloadN X0 H at_21 rfl 22 rfl ?_
      refine gGoto X0 H at_22 (by decide) 27 rfl ?_
      refine gLstore X0 H at_27 (Ls' := #[vI p0, vJ p1, .second, vI p2, vJ p3, .second, vI p4, vI p0, vJ p1, .second, .unset, .unset, .unset, .unset, .unset, .unset]) rfl 29 rfl ?_
      refine gIload X0 H at_29 rfl 31 rfl ?_
      refine gIconst X0 H at_31 (z := 2) rfl 32 rfl ?_
      refine g_iushr X0 H at_32 (z := ((p4.toUInt32 >>> ((2 : Int32) &&& 31).toUInt32).toInt32)) rfl 33 rfl ?_
      refine gIconst X0 H at_33 (z := 3) rfl 34 rfl ?_
      refine g_iand X0 H at_34 (z := (((p4.toUInt32 >>> ((2 : Int32) &&& 31).toUInt32).toInt32) &&& (3 : Int32))) rfl 35 rfl ?_
      refine gIstore X0 H at_35 (Ls' := #[vI p0, vJ p1, .second, vI p2, vJ p3, .second, vI p4, vI p0, vJ p1, .second, vI (((p4.toUInt32 >>> ((2 : Int32) &&& 31).toUInt32).toInt32) &&& (3 : Int32)), .unset, .unset, .unset, .unset, .unset]) rfl 37 rfl ?_
      refine gNew X0 H hZ hown (hw _ wd0) (hw _ wd1) (hw _ wd2) e0 (by decide) (by decide) at_37 40 rfl ?_
      intro T219 h219 b219 X219 e219 z219 E219 A219 D219
      have G_b219 := Nat.le_trans O0.1 (Nat.le_of_eq z219)
      have sz_b219 := Nat.le_trans M0 (Nat.le_of_eq z219)
      have O219 := extT O0 E219
      have F219_leaderEpoch : Fld Z h219 b219 cs0 "leaderEpoch" "I" (.int 0) := D219 (Or.inr (hw _ wd10)) (ty := .int) (by decide)
      have F219_endOffset : Fld Z h219 b219 cs0 "endOffset" "J" (.long 0) := D219 (Or.inr (hw _ wd12)) (ty := .long) (by decide)
      refine gDup X219 H at_40 rfl 41 rfl ?_
      refine gIloadN X219 H at_41 rfl 42 rfl ?_
      refine gLloadN X219 H at_42 rfl 43 rfl ?_
      refine gSpecial X219 H hZ hown rfl rfl (hw _ wd3) (hw _ wd4) (by decide) (hw _ wd5) (hw _ wd2) (rm17_1 B b219 p0 p1 _ O219 A219 F219_leaderEpoch G_b219 F219_endOffset) e219 hml rfl pd0 rfl (W := 1) (argsL := [(.int p0), (.long p1)]) (rest := [(.ref b219)]) rfl rfl at_43 46 rfl ?_
      intro v220 T220 L220 hq220 X220
      obtain ⟨rfl, N220q, K220, f220_0, f220_1, f220_2⟩ := hq220
      have O220 := extK O219 K220 (allS G_b219 all0)
      have N220 := Fr.app N0 N220q
      show Go _ _ _ _ (State.setTop _ (mkF _ 46 _ [(.ref b219)]))
      refine gAstore X220 H at_46 rfl (Ls' := #[vI p0, vJ p1, .second, vI p2, vJ p3, .second, vI p4, vI p0, vJ p1, .second, vI (((p4.toUInt32 >>> ((2 : Int32) &&& 31).toUInt32).toInt32) &&& (3 : Int32)), vR b219, .unset, .unset, .unset, .unset]) rfl 48 rfl ?_
      refine gNew X220 H hZ hown (hw _ wd0) (hw _ wd1) (hw _ wd2) rfl (by decide) (by decide) at_48 51 rfl ?_
      intro T221 h221 b221 X221 e221 z221 E221 A221 D221
      have M222 := (Nat.le_trans (Nat.le_trans M0 E219.1) K220.1)
      have G_b221 := Nat.le_trans O220.1 (Nat.le_of_eq z221)
      have sz_b221 := Nat.le_trans M222 (Nat.le_of_eq z221)
      have ne_b219_b221 : b219 ≠ b221 := neB f220_0.lt (Nat.le_of_eq z221)
      have O221 := extT O220 E221
      have F221_leaderEpoch : Fld Z h221 b221 cs0 "leaderEpoch" "I" (.int 0) := D221 (Or.inr (hw _ wd10)) (ty := .int) (by decide)
      have F221_endOffset : Fld Z h221 b221 cs0 "endOffset" "J" (.long 0) := D221 (Or.inr (hw _ wd12)) (ty := .long) (by decide)
      refine gDup X221 H at_51 rfl 52 rfl ?_
      refine gIload X221 H at_52 rfl 54 rfl ?_
      refine gLload X221 H at_54 rfl 56 rfl ?_
      refine gSpecial X221 H hZ hown rfl rfl (hw _ wd3) (hw _ wd4) (by decide) (hw _ wd5) (hw _ wd2) (rm17_1 B b221 p0 p1 _ O221 A221 F221_leaderEpoch G_b221 F221_endOffset) e221 hml rfl pd0 rfl (W := 1) (argsL := [(.int p0), (.long p1)]) (rest := [(.ref b221)]) rfl rfl at_56 59 rfl ?_
      intro v223 T223 L223 hq223 X223
      obtain ⟨rfl, N223q, K223, f223_0, f223_1, f223_2⟩ := hq223
      have O223 := extK O221 K223 (allS G_b221 all0)
      have N223 := Fr.app N220 N223q
      show Go _ _ _ _ (State.setTop _ (mkF _ 59 _ [(.ref b221)]))
      refine gAstore X223 H at_59 rfl (Ls' := #[vI p0, vJ p1, .second, vI p2, vJ p3, .second, vI p4, vI p0, vJ p1, .second, vI (((p4.toUInt32 >>> ((2 : Int32) &&& 31).toUInt32).toInt32) &&& (3 : Int32)), vR b219, vR b221, .unset, .unset, .unset]) rfl 61 rfl ?_
      refine gIload X223 H at_61 rfl 63 rfl ?_
      by_cases hc224 : (((p4.toUInt32 >>> ((2 : Int32) &&& 31).toUInt32).toInt32) &&& (3 : Int32)) = (0 : Int32)
      · refine gIfN X223 H at_63 ((if0 _ _).trans (teq hc224).2) 66 rfl ?_
        refine gIloadN X223 H at_66 rfl 67 rfl ?_
        refine gIload X223 H at_67 rfl 69 rfl ?_
        refine gCmpN X223 H at_69 (teq rfl).2 72 rfl ?_
        refine gLloadN X223 H at_72 rfl 73 rfl ?_
        refine gLload X223 H at_73 rfl 75 rfl ?_
        refine g_lcmp X223 H at_75 (z := (lcmpW p1 p1)) rfl 76 rfl ?_
        refine gIfN X223 H at_76 ((if0 _ _).trans (teq ((lw_eq _ _).mpr rfl)).2) 79 rfl ?_
        refine gIconst X223 H at_79 (z := 1) rfl 80 rfl ?_
        refine gGoto X223 H at_80 (by decide) 84 rfl ?_
        refine gIstore X223 H at_84 (Ls' := #[vI p0, vJ p1, .second, vI p2, vJ p3, .second, vI p4, vI p0, vJ p1, .second, vI (((p4.toUInt32 >>> ((2 : Int32) &&& 31).toUInt32).toInt32) &&& (3 : Int32)), vR b219, vR b221, vI 1, .unset, .unset]) rfl 86 rfl ?_
        refine gAload X223 H at_86 rfl rfl 88 rfl ?_
        refine gAload X223 H at_88 rfl rfl 90 rfl ?_
        have c225 := ((f220_0.ext E221).keep K223)
        have c238 := ((f220_1.ext E221).keep K223 (ninS ne_b219_b221 nin0))
        have c239 := ((f220_2.ext E221).keep K223 (ninS ne_b219_b221 nin0))
        refine gVirt X223 H hZ hown (hw _ wd13) (hw _ wd14) (hw _ wd16) (hw _ wd15) (by decide) c225 (hw _ wd17) (hw _ wd2) (rm237_3 B b219 b221 p0 p1 _ O223 f223_0 f223_1 c238 f223_2 c239) rfl hml rfl pd1 rfl (W := 0) (argsL := [(.ref b221)]) (rest := []) rfl rfl at_90 93 rfl ?_
        intro v240 T240 L240 hq240 X240
        obtain ⟨rfl, e240, rfl⟩ := hq240
        have N240 := Fr.app N223 (Fr.nil _)
        show Go _ _ _ _ (State.setTop _ (mkF _ 93 _ [(.int 1)]))
        refine gIstore X240 H at_93 (Ls' := #[vI p0, vJ p1, .second, vI p2, vJ p3, .second, vI p4, vI p0, vJ p1, .second, vI (((p4.toUInt32 >>> ((2 : Int32) &&& 31).toUInt32).toInt32) &&& (3 : Int32)), vR b219, vR b221, vI 1, vI 1, .unset]) rfl 95 rfl ?_
        refine gAload X240 H at_95 rfl rfl 97 rfl ?_
        refine gAload X240 H at_97 rfl rfl 99 rfl ?_
        refine gVirt X240 H hZ hown (hw _ wd13) (hw _ wd14) (hw _ wd16) (hw _ wd15) (by decide) f223_0 (hw _ wd17) (hw _ wd2) (rm237_3 B b221 b219 p0 p1 _ O223 c225 c238 f223_1 c239 f223_2) e240 hml rfl pd1 rfl (W := 0) (argsL := [(.ref b219)]) (rest := []) rfl rfl at_99 102 rfl ?_
        intro v241 T241 L241 hq241 X241
        obtain ⟨rfl, e241, rfl⟩ := hq241
        have N241 := Fr.app N240 (Fr.nil _)
        show Go _ _ _ _ (State.setTop _ (mkF _ 102 _ [(.int 1)]))
        refine gIstore X241 H at_102 (Ls' := #[vI p0, vJ p1, .second, vI p2, vJ p3, .second, vI p4, vI p0, vJ p1, .second, vI (((p4.toUInt32 >>> ((2 : Int32) &&& 31).toUInt32).toInt32) &&& (3 : Int32)), vR b219, vR b221, vI 1, vI 1, vI 1]) rfl 104 rfl ?_
        refine gIload X241 H at_104 rfl 106 rfl ?_
        refine gIload X241 H at_106 rfl 108 rfl ?_
        refine gCmpN X241 H at_108 (by decide) 111 rfl ?_
        refine gIload X241 H at_111 rfl 113 rfl ?_
        refine gIload X241 H at_113 rfl 115 rfl ?_
        refine gCmpN X241 H at_115 (by decide) 118 rfl ?_
        refine gIconst X241 H at_118 (z := 1) rfl 119 rfl ?_
        refine gGoto X241 H at_119 (by decide) 123 rfl ?_
        exact gRetN X241 H hlk hret (t := .boolean) (by simp) at_123 e241 ⟨rfl, N241⟩
      · refine gIfY X223 H at_63 ((if0 _ _).trans (feq hc224).2) (by decide) 124 rfl ?_
        refine gIload X223 H at_124 rfl 126 rfl ?_
        refine gIconst X223 H at_126 (z := 1) rfl 127 rfl ?_
        by_cases hc242 : (((p4.toUInt32 >>> ((2 : Int32) &&& 31).toUInt32).toInt32) &&& (3 : Int32)) = (1 : Int32)
        · refine gCmpN X223 H at_127 (teq hc242).2 130 rfl ?_
          refine gAload X223 H at_130 rfl rfl 132 rfl ?_
          refine gNull X223 H at_132 133 rfl ?_
          have c243 := ((f220_0.ext E221).keep K223)
          refine gVirt X223 H hZ hown (hw _ wd13) (hw _ wd14) (hw _ wd16) (hw _ wd15) (by decide) c243 (hw _ wd17) (hw _ wd2) (rm79_3 B b219 _ O223) rfl hml rfl pd1 rfl (W := 0) (argsL := [.null]) (rest := []) rfl rfl at_133 136 rfl ?_
          intro v244 T244 L244 hq244 X244
          obtain ⟨rfl, e244, rfl⟩ := hq244
          have N244 := Fr.app N223 (Fr.nil _)
          show Go _ _ _ _ (State.setTop _ (mkF _ 136 _ [(.int 0)]))
          refine gIfN X244 H at_136 (by decide) 139 rfl ?_
          refine gIconst X244 H at_139 (z := 1) rfl 140 rfl ?_
          refine gGoto X244 H at_140 (by decide) 144 rfl ?_
          exact gRetN X244 H hlk hret (t := .boolean) (by simp) at_144 e244 ⟨rfl, N244⟩
        · refine gCmpY X223 H at_127 (feq hc242).2 (by decide) 145 rfl ?_
          refine gIload X223 H at_145 rfl 147 rfl ?_
          refine gIconst X223 H at_147 (z := 2) rfl 148 rfl ?_
          by_cases hc245 : (((p4.toUInt32 >>> ((2 : Int32) &&& 31).toUInt32).toInt32) &&& (3 : Int32)) = (2 : Int32)
          · refine gCmpN X223 H at_148 (teq hc245).2 151 rfl ?_
            refine gAload X223 H at_151 rfl rfl 153 rfl ?_
            refine gAload X223 H at_153 rfl rfl 155 rfl ?_
            have c246 := ((f220_0.ext E221).keep K223)
            have c247 := ((f220_1.ext E221).keep K223 (ninS ne_b219_b221 nin0))
            have c248 := ((f220_2.ext E221).keep K223 (ninS ne_b219_b221 nin0))
            refine gVirt X223 H hZ hown (hw _ wd13) (hw _ wd14) (hw _ wd16) (hw _ wd15) (by decide) c246 (hw _ wd17) (hw _ wd2) (rm92_3 B b219 p0 p1 _ O223 c246 c247 c248) rfl hml rfl pd1 rfl (W := 0) (argsL := [(.ref b219)]) (rest := []) rfl rfl at_155 158 rfl ?_
            intro v249 T249 L249 hq249 X249
            obtain ⟨rfl, e249, rfl⟩ := hq249
            have N249 := Fr.app N223 (Fr.nil _)
            show Go _ _ _ _ (State.setTop _ (mkF _ 158 _ [(.int 1)]))
            exact gRetN X249 H hlk hret (t := .boolean) (by simp) at_158 e249 ⟨rfl, N249⟩
          · refine gCmpY X223 H at_148 (feq hc245).2 (by decide) 159 rfl ?_
            refine gLloadN X223 H at_159 rfl 160 rfl ?_
            refine gStatic X223 H hZ hown (hw _ wd20) (hw _ wd21) (by decide) (hw _ wd23) (hw _ wd22) (boxJ B p1 _ O223) rfl hml rfl pd4 rfl (W := 0) (argsL := [(.long p1)]) (rest := []) rfl rfl at_160 163 rfl ?_
            intro v250 T250 L250 hq250 X250
            obtain ⟨b250, rfl, N250q, K250, f250_0, f250_1⟩ := hq250
            have O250 := extK O223 K250 all0
            have N250 := Fr.app N223 N250q
            show Go _ _ _ _ (State.setTop _ (mkF _ 163 _ [(.ref b250)]))
            refine gAstore X250 H at_163 rfl (Ls' := #[vI p0, vJ p1, .second, vI p2, vJ p3, .second, vI p4, vI p0, vJ p1, .second, vI (((p4.toUInt32 >>> ((2 : Int32) &&& 31).toUInt32).toInt32) &&& (3 : Int32)), vR b219, vR b221, vR b250, .unset, .unset]) rfl 165 rfl ?_
            refine gAload X250 H at_165 rfl rfl 167 rfl ?_
            refine gAload X250 H at_167 rfl rfl 169 rfl ?_
            have c251 := (((f220_0.ext E221).keep K223).keep K250)
            refine gVirt X250 H hZ hown (hw _ wd13) (hw _ wd14) (hw _ wd16) (hw _ wd15) (by decide) c251 (hw _ wd17) (hw _ wd2) (rm122_3 B b219 b250 _ O250 f250_0) rfl hml rfl pd1 rfl (W := 0) (argsL := [(.ref b250)]) (rest := []) rfl rfl at_169 172 rfl ?_
            intro v252 T252 L252 hq252 X252
            obtain ⟨rfl, e252, rfl⟩ := hq252
            have N252 := Fr.app N250 (Fr.nil _)
            show Go _ _ _ _ (State.setTop _ (mkF _ 172 _ [(.int 0)]))
            refine gIfN X252 H at_172 (by decide) 175 rfl ?_
            refine gIconst X252 H at_175 (z := 1) rfl 176 rfl ?_
            refine gGoto X252 H at_176 (by decide) 180 rfl ?_
            exact gRetN X252 H hlk hret (t := .boolean) (by simp) at_180 e252 ⟨rfl, N252⟩
end Walk
set_option maxHeartbeats 4000000 in
theorem comes_1 {Post : Tables → Env → Array Value → State → Outcome → State → Prop} (hpost : ∀ tb e args s v u, (limb_1_1.after args s (.returned v) u = true ∧ limb_1_2.after args s (.returned v) u = true ∧ True) → FrameEnd s (.returned v) u (Jvm.fieldLocs frame_1_writes args s ++ Jvm.arrayLocs frame_1_arrays args s ++ Jvm.staticLocs frame_1_statics s) 16 128 → Post tb e args s (.returned v) u) :
    ArmFor flags0 classFile x code maxLocals ret World_1 tables_1 room_1 Calls_1 rest_1 Pre_1 Post := by
  intro l hfl _ _ p e ha hc hk s m args below hf hA hF happ hP
  obtain ⟨hcalls, hrest, hpre⟩ := hP
  obtain ⟨-, -, -, hnamed, -, -, -, hat⟩ := (Spec.applies_iff hf).mp happ
  obtain ⟨hg, hn⟩ := and_e (Cond.before_iff.mp (show (Jvm.Cond.and given_1 narrow_1).before args s = true from hpre))
  obtain ⟨n1, n2⟩ := and_e hg
  obtain ⟨n3, n4⟩ := and_e n2
  obtain ⟨n5, n6⟩ := and_e n4
  obtain ⟨n7, n8⟩ := and_e n6
  obtain ⟨n9, n10⟩ := and_e n8
  obtain ⟨w0, w1, w2, w3, w4, rfl⟩ : ∃ w0 w1 w2 w3 w4 : Value, args = #[w0, w1, w2, w3, w4] := by
    have hs : args.size = 5 := by simpa [Cond.value, given_1] using n1
    obtain ⟨L⟩ := args
    match L, hs with
    | [w0, w1, w2, w3, w4], _ => exact ⟨w0, w1, w2, w3, w4, rfl⟩
  obtain ⟨hsets, hown0⟩ := atoms_of _ (rest_1_c_eq ▸ (show rest_1_c.before _ s = true from hrest))
  have hfit : Fit s := fun {y c} hc i hi => by
    obtain ⟨ha, rfl⟩ := Array.getElem?_eq_some_iff.mp hc
    have q := List.all_eq_true.mp ((Array.all_eq_true_iff_forall_mem.mp hF) _ (Array.getElem_mem ha)) i (List.mem_range.mpr hi)
    simpa [Array.getElem?_eq_getElem hi] using q
  have hw := fun d (hd : d ∈ tables_1) => atoms_spec (ws := Jvm.Cond.code x code maxLocals ret :: tables_1) hat d (List.mem_cons_of_mem _ hd)
  obtain ⟨i0, ei0⟩ := is_v n3
  obtain rfl : w0 = (.int i0) := Option.some.inj ei0
  obtain ⟨i1, ei1⟩ := isL_v n5
  obtain rfl : w1 = (.long i1) := Option.some.inj ei1
  obtain ⟨i2, ei2⟩ := is_v n7
  obtain rfl : w2 = (.int i2) := Option.some.inj ei2
  obtain ⟨i3, ei3⟩ := isL_v n9
  obtain rfl : w3 = (.long i3) := Option.some.inj ei3
  obtain ⟨i4, ei4⟩ := is_v n10
  obtain rfl : w4 = (.int i4) := Option.some.inj ei4
  obtain ⟨w_cacheJ, ev_w_cacheJ⟩ := arr_v (Cond.before_iff.mp (hsets _ (List.mem_of_getElem? (i := 2) rfl)))
  obtain ⟨cl_cacheJ, Ar_w_cacheJ⟩ := Arr.start ev_w_cacheJ (Cond.before_iff.mp (hsets _ (List.mem_of_getElem? (i := 2) rfl)))
  obtain ⟨ln_w_cacheJ, le_w_cacheJ⟩ := Jvm.Free.IntBox.length_fwd (hsets _ (List.mem_of_getElem? (i := 4) rfl)) ev_w_cacheJ Ar_w_cacheJ.1 Ar_w_cacheJ.2.1 Ar_w_cacheJ.2.2
  have W : World s w_cacheJ cl_cacheJ := ⟨Sta.start ev_w_cacheJ (Or.inr ⟨(hw _ wd45), (hsets _ (List.mem_of_getElem? (i := 0) rfl))⟩), Bxs.start (fun _ => ev_w_cacheJ) Ar_w_cacheJ ln_w_cacheJ le_w_cacheJ (by decide) (Cond.before_iff.mp (hsets _ (List.mem_of_getElem? (i := 5) rfl))) (fun X j nn q => eqv_l (i2l_at (by simp [Term.eval, (back32 nn).1])) q)⟩
  have B : Bg s _ w_cacheJ cl_cacheJ := ⟨hw, W⟩
  obtain ⟨n, o, h1, h2, h3, _, L, rfl, ⟨rfl, N⟩, hq⟩ := (lawAll (l := l) B i0 i1 i2 i3 i4) tables_1 p e ha hc hk s m _ below hf ((Spec.applies_iff_loose hf).mp happ).1 ⟨rfl, State.Warmed39.refl s, rfl⟩ trivial
  refine ⟨n, _, h1, h2, h3, hpost _ _ _ _ _ _ ⟨Cond.after_iff.mpr rfl, Cond.after_iff.mpr (eq_i res_at (Term.int_eval (1)) rfl), trivial⟩ ⟨hq.1, hq.2.1, (hq.2.2.sift fun y hy => Or.inr (N y hy)).mono (by decide) (by decide)⟩⟩
theorem main_1_1 : Claimed_1_1 := comes_1 fun _ _ _ _ _ _ h hF => ⟨h.1, hF⟩
theorem main_1_2 : Claimed_1_2 := comes_1 fun _ _ _ _ _ _ h hF => ⟨h.2.1, hF⟩
end Jvm.Pilot.@@N@@
namespace Jvm.Pilot.@@N@@
open Jvm Jvm.ClassFile Sem Op Lib Jvm.Free Jvm.Stand Jvm.Pilot.@@N@@.Jvm.D
/-! MADE BY PROGRAM (witnessworld.py) out of the Statement's table words and the real class files: 16 classes; the members and pool entries that the words name. The judged class is class 1, her method 1. -/
namespace start1
open Jvm.ClassFile
def u (s : String) : CpInfo := .utf8 (stringToUtf16 s)
/-- a pool by its gaps: so many unusable entries, then the entry; so many at the end -/
def gap : Nat → List CpInfo → List CpInfo
  | 0, r => r
  | n + 1, r => .unusable :: gap n r
def poolList (es : List (Nat × CpInfo)) (last : Nat) : List CpInfo := es.foldr (fun e r => gap e.1 (e.2 :: r)) (gap last [])
def pool (es : List (Nat × CpInfo)) (last : Nat) : Array CpInfo := ⟨poolList es last⟩
def fileOf (pool : Array CpInfo) (this : Nat) (attrs : Array Attribute := #[]) (ms : Array MethodInfo := #[]) (fl : Nat := 33) (sup : Nat := 0) (ifs : Array Nat := #[]) (fds : Array FieldInfo := #[]) : ClassFile where
  minorVersion := 0
  majorVersion := 65
  constantPool := pool
  accessFlags := fl
  thisClass := this
  superClass := sup
  interfaces := ifs
  fields := fds
  methods := ms
  attributes := attrs
def plain (name : String) (sup : Option ClassId) : Class where
  name := name
  kind := .ordinary
  loader := none
  accessFlags := 33
  super := sup
  interfaces := #[]
  cf := none
  fields := #[]
  methods := #[]
  instanceTypes := #[]
  staticTypes := #[]
  resolved := #[]
  callSites := []
  init := .initialized
  statics := none
  mirror := none

def pool0 : Array CpInfo := pool [(5, u "<init>"), (0, u "()V"), (1, .class_ 10), (1, u "java/lang/Object")] 113

def k0c0 : Code := { maxStack := 0, maxLocals := 1, code := object_method_1_code, exceptionTable := #[], attributes := #[] }
def k0m0 : Method := { name := "<init>", desc := "()V", sig := { parameters := [], returnType := none }, accessFlags := 1, code := some k0c0 }
/-- java/lang/Object -/
def k0 : Class := { plain "java/lang/Object" none with
  accessFlags := 33
  interfaces := #[]
  cf := some (fileOf pool0 8 #[] #[{ accessFlags := 1, nameIndex := 5, descriptorIndex := 6, attributes := #[] }] 33 0 #[] #[])
  fields := #[]
  methods := #[k0m0]
  instanceTypes := #[]
  staticTypes := #[]
  resolved := Array.replicate 124 none
  statics := none }

def pool1 : Array CpInfo := pool [(2, .class_ 4), (1, u "java/lang/Object"), (0, u "<init>"), (0, u "()V"), (0, .class_ 8), (0, u "com/example/rolling_quorum/rollingquorum/log/EpochEnd"), (0, .methodref 7 10), (0, .nameAndType 5 11), (0, u "(IJ)V"), (0, .methodref 7 13), (0, .nameAndType 14 15), (0, u "equals"), (0, u "(Ljava/lang/Object;)Z"), (0, .methodref 17 18), (0, .class_ 19), (0, .nameAndType 20 21), (0, u "java/lang/Long"), (0, u "valueOf"), (0, u "(J)Ljava/lang/Long;"), (0, .class_ 23), (0, u "com/example/rolling_quorum/rollingquorum/log/EpochEndEqualsPinLaw"), (2, u "law"), (0, u "(IJIJI)Z")] 3

def k1m0 : Method := { name := "<init>", desc := "()V", sig := { parameters := [], returnType := none }, accessFlags := 1, code := none }
def k1c1 : Code := { maxStack := 5, maxLocals := 16, code := code, exceptionTable := #[], attributes := #[] }
def k1m1 : Method := { name := "law", desc := "(IJIJI)Z", sig := { parameters := [.int, .long, .int, .long, .int], returnType := some .boolean }, accessFlags := 9, code := some k1c1 }
/-- com/example/rolling_quorum/rollingquorum/log/EpochEndEqualsPinLaw -/
def k1 : Class := { plain "com/example/rolling_quorum/rollingquorum/log/EpochEndEqualsPinLaw" (some 0) with
  accessFlags := 49
  interfaces := #[]
  cf := some (fileOf pool1 22 #[] #[{ accessFlags := 1, nameIndex := 5, descriptorIndex := 6, attributes := #[] }, { accessFlags := 9, nameIndex := 26, descriptorIndex := 27, attributes := #[] }] 49 2 #[] #[])
  fields := #[]
  methods := #[k1m0, k1m1]
  instanceTypes := #[]
  staticTypes := #[]
  resolved := Array.replicate 31 none
  statics := none }

def pool2 : Array CpInfo := pool [(1, .methodref 2 3), (0, .class_ 4), (0, .nameAndType 5 6), (0, u "java/lang/Object"), (0, u "<init>"), (0, u "()V"), (0, .fieldref 8 9), (0, .class_ 10), (0, .nameAndType 11 12), (0, u "com/example/rolling_quorum/rollingquorum/log/EpochEnd"), (0, u "leaderEpoch"), (0, u "I"), (0, .fieldref 8 14), (0, .nameAndType 15 16), (0, u "endOffset"), (0, u "J"), (21, u "(IJ)V"), (4, u "equals"), (0, u "(Ljava/lang/Object;)Z")] 21

def k2c0 : Code := { maxStack := 3, maxLocals := 4, code := prog_12_method_1_code, exceptionTable := #[], attributes := #[] }
def k2m0 : Method := { name := "<init>", desc := "(IJ)V", sig := { parameters := [.int, .long], returnType := none }, accessFlags := 1, code := some k2c0 }
def k2c1 : Code := { maxStack := 4, maxLocals := 3, code := prog_12_method_4_code, exceptionTable := #[], attributes := #[] }
def k2m1 : Method := { name := "equals", desc := "(Ljava/lang/Object;)Z", sig := { parameters := [(.object "java/lang/Object")], returnType := some .boolean }, accessFlags := 1, code := some k2c1 }
/-- com/example/rolling_quorum/rollingquorum/log/EpochEnd -/
def k2 : Class := { plain "com/example/rolling_quorum/rollingquorum/log/EpochEnd" (some 0) with
  accessFlags := 33
  interfaces := #[]
  cf := some (fileOf pool2 8 #[] #[{ accessFlags := 1, nameIndex := 5, descriptorIndex := 38, attributes := #[] }, { accessFlags := 1, nameIndex := 43, descriptorIndex := 44, attributes := #[] }] 33 2 #[] #[{ accessFlags := 18, nameIndex := 11, descriptorIndex := 12, attributes := #[] }, { accessFlags := 18, nameIndex := 15, descriptorIndex := 16, attributes := #[] }])
  fields := #[{ name := "leaderEpoch", type := .int, accessFlags := 18, slot := 0, constantValue := 0 }, { name := "endOffset", type := .long, accessFlags := 18, slot := 1, constantValue := 0 }]
  methods := #[k2m0, k2m1]
  instanceTypes := #[.int, .long]
  staticTypes := #[]
  resolved := Array.replicate 66 none
  statics := none }

def pool3 : Array CpInfo := pool [(1, .class_ 2), (0, u "java/io/Serializable"), (0, .class_ 4), (0, u "java/lang/Object")] 2

/-- java/io/Serializable -/
def k3 : Class := { plain "java/io/Serializable" (some 0) with
  accessFlags := 1537
  interfaces := #[]
  cf := some (fileOf pool3 1 #[] #[] 1537 3 #[] #[])
  fields := #[]
  methods := #[]
  instanceTypes := #[]
  staticTypes := #[]
  resolved := Array.replicate 7 none
  statics := none }

def pool4 : Array CpInfo := pool [(1, .methodref 2 3), (0, .class_ 4), (0, .nameAndType 5 6), (0, u "java/lang/Object"), (0, u "<init>"), (0, u "()V"), (1, .class_ 10), (1, u "java/lang/Number"), (2, .class_ 14), (0, u "java/io/Serializable"), (0, u "serialVersionUID"), (0, u "J")] 20

def k4c0 : Code := { maxStack := 1, maxLocals := 1, code := jdk_18_method_1_code, exceptionTable := #[], attributes := #[] }
def k4m0 : Method := { name := "<init>", desc := "()V", sig := { parameters := [], returnType := none }, accessFlags := 1, code := some k4c0 }
/-- java/lang/Number -/
def k4 : Class := { plain "java/lang/Number" (some 0) with
  accessFlags := 1057
  interfaces := #[3]
  cf := some (fileOf pool4 8 #[] #[{ accessFlags := 1, nameIndex := 5, descriptorIndex := 6, attributes := #[] }] 1057 2 #[13] #[{ accessFlags := 26, nameIndex := 15, descriptorIndex := 16, attributes := #[] }])
  fields := #[{ name := "serialVersionUID", type := .long, accessFlags := 26, slot := 0, constantValue := 0 }]
  methods := #[k4m0]
  instanceTypes := #[]
  staticTypes := #[.long]
  resolved := Array.replicate 37 none
  statics := none }

def pool5 : Array CpInfo := pool [(1, .class_ 2), (0, u "java/lang/Comparable"), (0, .class_ 4), (0, u "java/lang/Object")] 7

/-- java/lang/Comparable -/
def k5 : Class := { plain "java/lang/Comparable" (some 0) with
  accessFlags := 1537
  interfaces := #[]
  cf := some (fileOf pool5 1 #[] #[] 1537 3 #[] #[])
  fields := #[]
  methods := #[]
  instanceTypes := #[]
  staticTypes := #[]
  resolved := Array.replicate 12 none
  statics := none }

def pool6 : Array CpInfo := pool [(1, .class_ 2), (0, u "java/lang/constant/Constable"), (0, .class_ 4), (0, u "java/lang/Object")] 6

/-- java/lang/constant/Constable -/
def k6 : Class := { plain "java/lang/constant/Constable" (some 0) with
  accessFlags := 1537
  interfaces := #[]
  cf := some (fileOf pool6 1 #[] #[] 1537 3 #[] #[])
  fields := #[]
  methods := #[]
  instanceTypes := #[]
  staticTypes := #[]
  resolved := Array.replicate 11 none
  statics := none }

def pool7 : Array CpInfo := pool [(1, .class_ 2), (0, u "java/lang/constant/ConstantDesc"), (0, .class_ 4), (0, u "java/lang/Object")] 32

/-- java/lang/constant/ConstantDesc -/
def k7 : Class := { plain "java/lang/constant/ConstantDesc" (some 0) with
  accessFlags := 1537
  interfaces := #[]
  cf := some (fileOf pool7 1 #[] #[] 1537 3 #[] #[])
  fields := #[]
  methods := #[]
  instanceTypes := #[]
  staticTypes := #[]
  resolved := Array.replicate 37 none
  statics := none }

def pool8 : Array CpInfo := pool [(1, .class_ 2), (0, u "java/lang/Long"), (55, .nameAndType 59 60), (0, u "<init>"), (0, u "()V"), (24, u "valueOf"), (143, u "(J)Ljava/lang/Long;"), (0, .long 18446744073709551488), (1, .long 127), (1, .fieldref 235 236), (0, .class_ 237), (0, .nameAndType 238 239), (0, u "java/lang/Long$LongCache"), (0, u "cache"), (0, u "[Ljava/lang/Long;"), (0, .methodref 1 241), (0, .nameAndType 59 242), (0, u "(J)V"), (27, .methodref 271 58), (0, .class_ 272), (0, u "java/lang/Number"), (0, .fieldref 1 274), (0, .nameAndType 275 276), (0, u "value"), (0, u "J"), (84, u "TYPE"), (0, u "Ljava/lang/Class;"), (0, .class_ 364), (0, u "java/lang/Comparable"), (0, .class_ 366), (0, u "java/lang/constant/Constable"), (0, .class_ 368), (0, u "java/lang/constant/ConstantDesc"), (0, u "MIN_VALUE"), (1, u "MAX_VALUE"), (4, u "SIZE"), (0, u "I"), (1, u "BYTES"), (1, u "serialVersionUID")] 142

def k8c0 : Code := { maxStack := 4, maxLocals := 3, code := jdk_35_method_24_code, exceptionTable := #[], attributes := #[] }
def k8m0 : Method := { name := "valueOf", desc := "(J)Ljava/lang/Long;", sig := { parameters := [.long], returnType := some (.object "java/lang/Long") }, accessFlags := 9, code := some k8c0 }
def k8c1 : Code := { maxStack := 3, maxLocals := 3, code := jdk_35_method_26_code, exceptionTable := #[], attributes := #[] }
def k8m1 : Method := { name := "<init>", desc := "(J)V", sig := { parameters := [.long], returnType := none }, accessFlags := 1, code := some k8c1 }
/-- java/lang/Long -/
def k8 : Class := { plain "java/lang/Long" (some 4) with
  accessFlags := 49
  interfaces := #[5, 6, 7]
  cf := some (fileOf pool8 1 #[.nestMembers #[235]] #[{ accessFlags := 9, nameIndex := 85, descriptorIndex := 229, attributes := #[] }, { accessFlags := 1, nameIndex := 59, descriptorIndex := 242, attributes := #[] }] 49 271 #[363, 365, 367] #[{ accessFlags := 25, nameIndex := 369, descriptorIndex := 276, attributes := #[] }, { accessFlags := 25, nameIndex := 371, descriptorIndex := 276, attributes := #[] }, { accessFlags := 25, nameIndex := 361, descriptorIndex := 362, attributes := #[] }, { accessFlags := 18, nameIndex := 275, descriptorIndex := 276, attributes := #[] }, { accessFlags := 25, nameIndex := 376, descriptorIndex := 377, attributes := #[] }, { accessFlags := 25, nameIndex := 379, descriptorIndex := 377, attributes := #[] }, { accessFlags := 26, nameIndex := 381, descriptorIndex := 276, attributes := #[] }])
  fields := #[{ name := "MIN_VALUE", type := .long, accessFlags := 25, slot := 0, constantValue := 0 }, { name := "MAX_VALUE", type := .long, accessFlags := 25, slot := 1, constantValue := 0 }, { name := "TYPE", type := (.object "java/lang/Class"), accessFlags := 25, slot := 2, constantValue := 0 }, { name := "value", type := .long, accessFlags := 18, slot := 0, constantValue := 0 }, { name := "SIZE", type := .int, accessFlags := 25, slot := 3, constantValue := 0 }, { name := "BYTES", type := .int, accessFlags := 25, slot := 4, constantValue := 0 }, { name := "serialVersionUID", type := .long, accessFlags := 26, slot := 5, constantValue := 0 }]
  methods := #[k8m0, k8m1]
  instanceTypes := #[.long]
  staticTypes := #[.long, .long, (.object "java/lang/Class"), .int, .int, .long]
  resolved := Array.replicate 524 none
  statics := none }

def pool9 : Array CpInfo := pool [(2, .class_ 4), (1, u "java/lang/Object"), (0, u "<init>"), (0, u "()V"), (0, .class_ 8), (0, u "java/lang/Long"), (7, .class_ 18), (1, u "java/lang/Long$LongCache"), (0, u "$assertionsDisabled"), (0, u "Z"), (8, u "archivedCache"), (0, u "[Ljava/lang/Long;"), (7, u "cache")] 24

def k9m0 : Method := { name := "<init>", desc := "()V", sig := { parameters := [], returnType := none }, accessFlags := 2, code := none }
/-- java/lang/Long$LongCache -/
def k9 : Class := { plain "java/lang/Long$LongCache" (some 0) with
  accessFlags := 48
  interfaces := #[]
  cf := some (fileOf pool9 16 #[.nestHost 7] #[{ accessFlags := 2, nameIndex := 5, descriptorIndex := 6, attributes := #[] }] 48 2 #[] #[{ accessFlags := 24, nameIndex := 38, descriptorIndex := 30, attributes := #[] }, { accessFlags := 8, nameIndex := 29, descriptorIndex := 30, attributes := #[] }, { accessFlags := 4120, nameIndex := 19, descriptorIndex := 20, attributes := #[] }])
  fields := #[{ name := "cache", type := (.array (.object "java/lang/Long")), accessFlags := 24, slot := 0, constantValue := 0 }, { name := "archivedCache", type := (.array (.object "java/lang/Long")), accessFlags := 8, slot := 1, constantValue := 0 }, { name := "$assertionsDisabled", type := .boolean, accessFlags := 4120, slot := 2, constantValue := 0 }]
  methods := #[k9m0]
  instanceTypes := #[]
  staticTypes := #[(.array (.object "java/lang/Long")), (.array (.object "java/lang/Long")), .boolean]
  resolved := Array.replicate 63 none
  statics := some 0 }

def pool10 : Array CpInfo := pool [(1, u "java/lang/Cloneable"), (0, .class_ 1), (0, u "java/lang/Object"), (0, .class_ 3)] 3

/-- java/lang/Cloneable -/
def k10 : Class := { plain "java/lang/Cloneable" (some 0) with
  accessFlags := 1537
  interfaces := #[]
  cf := some (fileOf pool10 2 #[] #[] 1537 4 #[] #[])
  fields := #[]
  methods := #[]
  instanceTypes := #[]
  staticTypes := #[]
  resolved := Array.replicate 8 none
  statics := none }

/-- the primitive byte -/
def k11 : Class := { plain "byte" none with kind := .primitive 'B', accessFlags := 0x411 }
/-- [B -/
def k12 : Class := { plain "[B" (some 0) with kind := .array 11 .byte, interfaces := #[10, 3], accessFlags := 1041 }

/-- the primitive int -/
def k13 : Class := { plain "int" none with kind := .primitive 'I', accessFlags := 0x411 }
/-- [I -/
def k14 : Class := { plain "[I" (some 0) with kind := .array 13 .int, interfaces := #[10, 3], accessFlags := 1041 }

/-- [Ljava/lang/Long; -/
def k15 : Class := { plain "[Ljava/lang/Long;" (some 0) with kind := .array 8 (.object "java/lang/Long"), interfaces := #[10, 3], accessFlags := 1041 }

def heap : Heap := #[{ cls := 9, slots := #[.ref 1, .null, .int 0], vm := .statics 9 },
  { cls := 15, slots := #[.ref 2, .ref 3, .ref 4, .ref 5, .ref 6, .ref 7, .ref 8, .ref 9, .ref 10, .ref 11, .ref 12, .ref 13, .ref 14, .ref 15, .ref 16, .ref 17, .ref 18, .ref 19, .ref 20, .ref 21, .ref 22, .ref 23, .ref 24, .ref 25, .ref 26, .ref 27, .ref 28, .ref 29, .ref 30, .ref 31, .ref 32, .ref 33, .ref 34, .ref 35, .ref 36, .ref 37, .ref 38, .ref 39, .ref 40, .ref 41, .ref 42, .ref 43, .ref 44, .ref 45, .ref 46, .ref 47, .ref 48, .ref 49, .ref 50, .ref 51, .ref 52, .ref 53, .ref 54, .ref 55, .ref 56, .ref 57, .ref 58, .ref 59, .ref 60, .ref 61, .ref 62, .ref 63, .ref 64, .ref 65, .ref 66, .ref 67, .ref 68, .ref 69, .ref 70, .ref 71, .ref 72, .ref 73, .ref 74, .ref 75, .ref 76, .ref 77, .ref 78, .ref 79, .ref 80, .ref 81, .ref 82, .ref 83, .ref 84, .ref 85, .ref 86, .ref 87, .ref 88, .ref 89, .ref 90, .ref 91, .ref 92, .ref 93, .ref 94, .ref 95, .ref 96, .ref 97, .ref 98, .ref 99, .ref 100, .ref 101, .ref 102, .ref 103, .ref 104, .ref 105, .ref 106, .ref 107, .ref 108, .ref 109, .ref 110, .ref 111, .ref 112, .ref 113, .ref 114, .ref 115, .ref 116, .ref 117, .ref 118, .ref 119, .ref 120, .ref 121, .ref 122, .ref 123, .ref 124, .ref 125, .ref 126, .ref 127, .ref 128, .ref 129, .ref 130, .ref 131, .ref 132, .ref 133, .ref 134, .ref 135, .ref 136, .ref 137, .ref 138, .ref 139, .ref 140, .ref 141, .ref 142, .ref 143, .ref 144, .ref 145, .ref 146, .ref 147, .ref 148, .ref 149, .ref 150, .ref 151, .ref 152, .ref 153, .ref 154, .ref 155, .ref 156, .ref 157, .ref 158, .ref 159, .ref 160, .ref 161, .ref 162, .ref 163, .ref 164, .ref 165, .ref 166, .ref 167, .ref 168, .ref 169, .ref 170, .ref 171, .ref 172, .ref 173, .ref 174, .ref 175, .ref 176, .ref 177, .ref 178, .ref 179, .ref 180, .ref 181, .ref 182, .ref 183, .ref 184, .ref 185, .ref 186, .ref 187, .ref 188, .ref 189, .ref 190, .ref 191, .ref 192, .ref 193, .ref 194, .ref 195, .ref 196, .ref 197, .ref 198, .ref 199, .ref 200, .ref 201, .ref 202, .ref 203, .ref 204, .ref 205, .ref 206, .ref 207, .ref 208, .ref 209, .ref 210, .ref 211, .ref 212, .ref 213, .ref 214, .ref 215, .ref 216, .ref 217, .ref 218, .ref 219, .ref 220, .ref 221, .ref 222, .ref 223, .ref 224, .ref 225, .ref 226, .ref 227, .ref 228, .ref 229, .ref 230, .ref 231, .ref 232, .ref 233, .ref 234, .ref 235, .ref 236, .ref 237, .ref 238, .ref 239, .ref 240, .ref 241, .ref 242, .ref 243, .ref 244, .ref 245, .ref 246, .ref 247, .ref 248, .ref 249, .ref 250, .ref 251, .ref 252, .ref 253, .ref 254, .ref 255, .ref 256, .ref 257], vm := .none },
  { cls := 8, slots := #[.long (-128)], vm := .none },
  { cls := 8, slots := #[.long (-127)], vm := .none },
  { cls := 8, slots := #[.long (-126)], vm := .none },
  { cls := 8, slots := #[.long (-125)], vm := .none },
  { cls := 8, slots := #[.long (-124)], vm := .none },
  { cls := 8, slots := #[.long (-123)], vm := .none },
  { cls := 8, slots := #[.long (-122)], vm := .none },
  { cls := 8, slots := #[.long (-121)], vm := .none },
  { cls := 8, slots := #[.long (-120)], vm := .none },
  { cls := 8, slots := #[.long (-119)], vm := .none },
  { cls := 8, slots := #[.long (-118)], vm := .none },
  { cls := 8, slots := #[.long (-117)], vm := .none },
  { cls := 8, slots := #[.long (-116)], vm := .none },
  { cls := 8, slots := #[.long (-115)], vm := .none },
  { cls := 8, slots := #[.long (-114)], vm := .none },
  { cls := 8, slots := #[.long (-113)], vm := .none },
  { cls := 8, slots := #[.long (-112)], vm := .none },
  { cls := 8, slots := #[.long (-111)], vm := .none },
  { cls := 8, slots := #[.long (-110)], vm := .none },
  { cls := 8, slots := #[.long (-109)], vm := .none },
  { cls := 8, slots := #[.long (-108)], vm := .none },
  { cls := 8, slots := #[.long (-107)], vm := .none },
  { cls := 8, slots := #[.long (-106)], vm := .none },
  { cls := 8, slots := #[.long (-105)], vm := .none },
  { cls := 8, slots := #[.long (-104)], vm := .none },
  { cls := 8, slots := #[.long (-103)], vm := .none },
  { cls := 8, slots := #[.long (-102)], vm := .none },
  { cls := 8, slots := #[.long (-101)], vm := .none },
  { cls := 8, slots := #[.long (-100)], vm := .none },
  { cls := 8, slots := #[.long (-99)], vm := .none },
  { cls := 8, slots := #[.long (-98)], vm := .none },
  { cls := 8, slots := #[.long (-97)], vm := .none },
  { cls := 8, slots := #[.long (-96)], vm := .none },
  { cls := 8, slots := #[.long (-95)], vm := .none },
  { cls := 8, slots := #[.long (-94)], vm := .none },
  { cls := 8, slots := #[.long (-93)], vm := .none },
  { cls := 8, slots := #[.long (-92)], vm := .none },
  { cls := 8, slots := #[.long (-91)], vm := .none },
  { cls := 8, slots := #[.long (-90)], vm := .none },
  { cls := 8, slots := #[.long (-89)], vm := .none },
  { cls := 8, slots := #[.long (-88)], vm := .none },
  { cls := 8, slots := #[.long (-87)], vm := .none },
  { cls := 8, slots := #[.long (-86)], vm := .none },
  { cls := 8, slots := #[.long (-85)], vm := .none },
  { cls := 8, slots := #[.long (-84)], vm := .none },
  { cls := 8, slots := #[.long (-83)], vm := .none },
  { cls := 8, slots := #[.long (-82)], vm := .none },
  { cls := 8, slots := #[.long (-81)], vm := .none },
  { cls := 8, slots := #[.long (-80)], vm := .none },
  { cls := 8, slots := #[.long (-79)], vm := .none },
  { cls := 8, slots := #[.long (-78)], vm := .none },
  { cls := 8, slots := #[.long (-77)], vm := .none },
  { cls := 8, slots := #[.long (-76)], vm := .none },
  { cls := 8, slots := #[.long (-75)], vm := .none },
  { cls := 8, slots := #[.long (-74)], vm := .none },
  { cls := 8, slots := #[.long (-73)], vm := .none },
  { cls := 8, slots := #[.long (-72)], vm := .none },
  { cls := 8, slots := #[.long (-71)], vm := .none },
  { cls := 8, slots := #[.long (-70)], vm := .none },
  { cls := 8, slots := #[.long (-69)], vm := .none },
  { cls := 8, slots := #[.long (-68)], vm := .none },
  { cls := 8, slots := #[.long (-67)], vm := .none },
  { cls := 8, slots := #[.long (-66)], vm := .none },
  { cls := 8, slots := #[.long (-65)], vm := .none },
  { cls := 8, slots := #[.long (-64)], vm := .none },
  { cls := 8, slots := #[.long (-63)], vm := .none },
  { cls := 8, slots := #[.long (-62)], vm := .none },
  { cls := 8, slots := #[.long (-61)], vm := .none },
  { cls := 8, slots := #[.long (-60)], vm := .none },
  { cls := 8, slots := #[.long (-59)], vm := .none },
  { cls := 8, slots := #[.long (-58)], vm := .none },
  { cls := 8, slots := #[.long (-57)], vm := .none },
  { cls := 8, slots := #[.long (-56)], vm := .none },
  { cls := 8, slots := #[.long (-55)], vm := .none },
  { cls := 8, slots := #[.long (-54)], vm := .none },
  { cls := 8, slots := #[.long (-53)], vm := .none },
  { cls := 8, slots := #[.long (-52)], vm := .none },
  { cls := 8, slots := #[.long (-51)], vm := .none },
  { cls := 8, slots := #[.long (-50)], vm := .none },
  { cls := 8, slots := #[.long (-49)], vm := .none },
  { cls := 8, slots := #[.long (-48)], vm := .none },
  { cls := 8, slots := #[.long (-47)], vm := .none },
  { cls := 8, slots := #[.long (-46)], vm := .none },
  { cls := 8, slots := #[.long (-45)], vm := .none },
  { cls := 8, slots := #[.long (-44)], vm := .none },
  { cls := 8, slots := #[.long (-43)], vm := .none },
  { cls := 8, slots := #[.long (-42)], vm := .none },
  { cls := 8, slots := #[.long (-41)], vm := .none },
  { cls := 8, slots := #[.long (-40)], vm := .none },
  { cls := 8, slots := #[.long (-39)], vm := .none },
  { cls := 8, slots := #[.long (-38)], vm := .none },
  { cls := 8, slots := #[.long (-37)], vm := .none },
  { cls := 8, slots := #[.long (-36)], vm := .none },
  { cls := 8, slots := #[.long (-35)], vm := .none },
  { cls := 8, slots := #[.long (-34)], vm := .none },
  { cls := 8, slots := #[.long (-33)], vm := .none },
  { cls := 8, slots := #[.long (-32)], vm := .none },
  { cls := 8, slots := #[.long (-31)], vm := .none },
  { cls := 8, slots := #[.long (-30)], vm := .none },
  { cls := 8, slots := #[.long (-29)], vm := .none },
  { cls := 8, slots := #[.long (-28)], vm := .none },
  { cls := 8, slots := #[.long (-27)], vm := .none },
  { cls := 8, slots := #[.long (-26)], vm := .none },
  { cls := 8, slots := #[.long (-25)], vm := .none },
  { cls := 8, slots := #[.long (-24)], vm := .none },
  { cls := 8, slots := #[.long (-23)], vm := .none },
  { cls := 8, slots := #[.long (-22)], vm := .none },
  { cls := 8, slots := #[.long (-21)], vm := .none },
  { cls := 8, slots := #[.long (-20)], vm := .none },
  { cls := 8, slots := #[.long (-19)], vm := .none },
  { cls := 8, slots := #[.long (-18)], vm := .none },
  { cls := 8, slots := #[.long (-17)], vm := .none },
  { cls := 8, slots := #[.long (-16)], vm := .none },
  { cls := 8, slots := #[.long (-15)], vm := .none },
  { cls := 8, slots := #[.long (-14)], vm := .none },
  { cls := 8, slots := #[.long (-13)], vm := .none },
  { cls := 8, slots := #[.long (-12)], vm := .none },
  { cls := 8, slots := #[.long (-11)], vm := .none },
  { cls := 8, slots := #[.long (-10)], vm := .none },
  { cls := 8, slots := #[.long (-9)], vm := .none },
  { cls := 8, slots := #[.long (-8)], vm := .none },
  { cls := 8, slots := #[.long (-7)], vm := .none },
  { cls := 8, slots := #[.long (-6)], vm := .none },
  { cls := 8, slots := #[.long (-5)], vm := .none },
  { cls := 8, slots := #[.long (-4)], vm := .none },
  { cls := 8, slots := #[.long (-3)], vm := .none },
  { cls := 8, slots := #[.long (-2)], vm := .none },
  { cls := 8, slots := #[.long (-1)], vm := .none },
  { cls := 8, slots := #[.long 0], vm := .none },
  { cls := 8, slots := #[.long 1], vm := .none },
  { cls := 8, slots := #[.long 2], vm := .none },
  { cls := 8, slots := #[.long 3], vm := .none },
  { cls := 8, slots := #[.long 4], vm := .none },
  { cls := 8, slots := #[.long 5], vm := .none },
  { cls := 8, slots := #[.long 6], vm := .none },
  { cls := 8, slots := #[.long 7], vm := .none },
  { cls := 8, slots := #[.long 8], vm := .none },
  { cls := 8, slots := #[.long 9], vm := .none },
  { cls := 8, slots := #[.long 10], vm := .none },
  { cls := 8, slots := #[.long 11], vm := .none },
  { cls := 8, slots := #[.long 12], vm := .none },
  { cls := 8, slots := #[.long 13], vm := .none },
  { cls := 8, slots := #[.long 14], vm := .none },
  { cls := 8, slots := #[.long 15], vm := .none },
  { cls := 8, slots := #[.long 16], vm := .none },
  { cls := 8, slots := #[.long 17], vm := .none },
  { cls := 8, slots := #[.long 18], vm := .none },
  { cls := 8, slots := #[.long 19], vm := .none },
  { cls := 8, slots := #[.long 20], vm := .none },
  { cls := 8, slots := #[.long 21], vm := .none },
  { cls := 8, slots := #[.long 22], vm := .none },
  { cls := 8, slots := #[.long 23], vm := .none },
  { cls := 8, slots := #[.long 24], vm := .none },
  { cls := 8, slots := #[.long 25], vm := .none },
  { cls := 8, slots := #[.long 26], vm := .none },
  { cls := 8, slots := #[.long 27], vm := .none },
  { cls := 8, slots := #[.long 28], vm := .none },
  { cls := 8, slots := #[.long 29], vm := .none },
  { cls := 8, slots := #[.long 30], vm := .none },
  { cls := 8, slots := #[.long 31], vm := .none },
  { cls := 8, slots := #[.long 32], vm := .none },
  { cls := 8, slots := #[.long 33], vm := .none },
  { cls := 8, slots := #[.long 34], vm := .none },
  { cls := 8, slots := #[.long 35], vm := .none },
  { cls := 8, slots := #[.long 36], vm := .none },
  { cls := 8, slots := #[.long 37], vm := .none },
  { cls := 8, slots := #[.long 38], vm := .none },
  { cls := 8, slots := #[.long 39], vm := .none },
  { cls := 8, slots := #[.long 40], vm := .none },
  { cls := 8, slots := #[.long 41], vm := .none },
  { cls := 8, slots := #[.long 42], vm := .none },
  { cls := 8, slots := #[.long 43], vm := .none },
  { cls := 8, slots := #[.long 44], vm := .none },
  { cls := 8, slots := #[.long 45], vm := .none },
  { cls := 8, slots := #[.long 46], vm := .none },
  { cls := 8, slots := #[.long 47], vm := .none },
  { cls := 8, slots := #[.long 48], vm := .none },
  { cls := 8, slots := #[.long 49], vm := .none },
  { cls := 8, slots := #[.long 50], vm := .none },
  { cls := 8, slots := #[.long 51], vm := .none },
  { cls := 8, slots := #[.long 52], vm := .none },
  { cls := 8, slots := #[.long 53], vm := .none },
  { cls := 8, slots := #[.long 54], vm := .none },
  { cls := 8, slots := #[.long 55], vm := .none },
  { cls := 8, slots := #[.long 56], vm := .none },
  { cls := 8, slots := #[.long 57], vm := .none },
  { cls := 8, slots := #[.long 58], vm := .none },
  { cls := 8, slots := #[.long 59], vm := .none },
  { cls := 8, slots := #[.long 60], vm := .none },
  { cls := 8, slots := #[.long 61], vm := .none },
  { cls := 8, slots := #[.long 62], vm := .none },
  { cls := 8, slots := #[.long 63], vm := .none },
  { cls := 8, slots := #[.long 64], vm := .none },
  { cls := 8, slots := #[.long 65], vm := .none },
  { cls := 8, slots := #[.long 66], vm := .none },
  { cls := 8, slots := #[.long 67], vm := .none },
  { cls := 8, slots := #[.long 68], vm := .none },
  { cls := 8, slots := #[.long 69], vm := .none },
  { cls := 8, slots := #[.long 70], vm := .none },
  { cls := 8, slots := #[.long 71], vm := .none },
  { cls := 8, slots := #[.long 72], vm := .none },
  { cls := 8, slots := #[.long 73], vm := .none },
  { cls := 8, slots := #[.long 74], vm := .none },
  { cls := 8, slots := #[.long 75], vm := .none },
  { cls := 8, slots := #[.long 76], vm := .none },
  { cls := 8, slots := #[.long 77], vm := .none },
  { cls := 8, slots := #[.long 78], vm := .none },
  { cls := 8, slots := #[.long 79], vm := .none },
  { cls := 8, slots := #[.long 80], vm := .none },
  { cls := 8, slots := #[.long 81], vm := .none },
  { cls := 8, slots := #[.long 82], vm := .none },
  { cls := 8, slots := #[.long 83], vm := .none },
  { cls := 8, slots := #[.long 84], vm := .none },
  { cls := 8, slots := #[.long 85], vm := .none },
  { cls := 8, slots := #[.long 86], vm := .none },
  { cls := 8, slots := #[.long 87], vm := .none },
  { cls := 8, slots := #[.long 88], vm := .none },
  { cls := 8, slots := #[.long 89], vm := .none },
  { cls := 8, slots := #[.long 90], vm := .none },
  { cls := 8, slots := #[.long 91], vm := .none },
  { cls := 8, slots := #[.long 92], vm := .none },
  { cls := 8, slots := #[.long 93], vm := .none },
  { cls := 8, slots := #[.long 94], vm := .none },
  { cls := 8, slots := #[.long 95], vm := .none },
  { cls := 8, slots := #[.long 96], vm := .none },
  { cls := 8, slots := #[.long 97], vm := .none },
  { cls := 8, slots := #[.long 98], vm := .none },
  { cls := 8, slots := #[.long 99], vm := .none },
  { cls := 8, slots := #[.long 100], vm := .none },
  { cls := 8, slots := #[.long 101], vm := .none },
  { cls := 8, slots := #[.long 102], vm := .none },
  { cls := 8, slots := #[.long 103], vm := .none },
  { cls := 8, slots := #[.long 104], vm := .none },
  { cls := 8, slots := #[.long 105], vm := .none },
  { cls := 8, slots := #[.long 106], vm := .none },
  { cls := 8, slots := #[.long 107], vm := .none },
  { cls := 8, slots := #[.long 108], vm := .none },
  { cls := 8, slots := #[.long 109], vm := .none },
  { cls := 8, slots := #[.long 110], vm := .none },
  { cls := 8, slots := #[.long 111], vm := .none },
  { cls := 8, slots := #[.long 112], vm := .none },
  { cls := 8, slots := #[.long 113], vm := .none },
  { cls := 8, slots := #[.long 114], vm := .none },
  { cls := 8, slots := #[.long 115], vm := .none },
  { cls := 8, slots := #[.long 116], vm := .none },
  { cls := 8, slots := #[.long 117], vm := .none },
  { cls := 8, slots := #[.long 118], vm := .none },
  { cls := 8, slots := #[.long 119], vm := .none },
  { cls := 8, slots := #[.long 120], vm := .none },
  { cls := 8, slots := #[.long 121], vm := .none },
  { cls := 8, slots := #[.long 122], vm := .none },
  { cls := 8, slots := #[.long 123], vm := .none },
  { cls := 8, slots := #[.long 124], vm := .none },
  { cls := 8, slots := #[.long 125], vm := .none },
  { cls := 8, slots := #[.long 126], vm := .none },
  { cls := 8, slots := #[.long 127], vm := .none }]
def classes : Array Class := #[k0, k1, k2, k3, k4, k5, k6, k7, k8, k9, k10, k11, k12, k13, k14, k15]
def interned : List (Array UInt16 × Addr) := []
def slotsUsed : Nat := 515
def theMethod : MethodId := ⟨1, 1⟩
def args0 : Array Value := #[.int 5, .long 5, .int 5, .long 5, .int 5]
def aboutOver (below : List Frame) : State where
  vm := { classes := classes, interned := interned.toArray }
  heap := heap
  slotsUsed := slotsUsed
  threads := #[{ frames := .invoking theMethod args0 :: below }]
def below0 : List Frame := [.native { method := ⟨0, 0⟩, args := #[] }]
def about1 : State := aboutOver below0
def p0 : Program := .bare "" "" ""
def e0 : Env := launch0.env 0 0 0
theorem w_frames : about1.frames = Frame.invoking theMethod args0 :: below0 := rfl
set_option maxRecDepth 65536 in
theorem w_args : argsFit about1.vm theMethod args0 = true := by decide +kernel
set_option maxRecDepth 65536 in
theorem w_heap : heapFits about1 = true := by decide +kernel
set_option maxRecDepth 65536 in
theorem w_runnable : about1.curStatus? = some .runnable := by decide +kernel
set_option maxRecDepth 65536 in
theorem w_alone : about1.alone = true := by decide +kernel
set_option maxRecDepth 65536 in
theorem w_named : about1.methodNamed? x = some theMethod := by decide +kernel
set_option maxRecDepth 65536 in
theorem w_hears : about1.hears theMethod below0 = true := by decide +kernel
set_option maxRecDepth 65536 in
theorem w_ripe : about1.ripe theMethod args0 below0 = true := by decide +kernel
theorem w_running : about1.status = .running := rfl
set_option maxRecDepth 65536 in
theorem w_room : about1.hasRoom e0.platform room_1 = true :=
  launch0.hasRoom_least _ room_1 (by decide +kernel) (by decide +kernel) (by decide +kernel) (by decide +kernel) (by decide +kernel) (by decide +kernel)
theorem allAtoms_all (ts : List Jvm.Cond) (a : Array Jvm.Value) (st : Jvm.State) : (allAtoms ts).before a st = ts.all (fun c => c.before a st) := by
  induction ts with
  | nil => rfl
  | cons c t ih =>
    show (Jvm.Cond.and c (allAtoms t)).before a st = _
    rw [Jvm.Cond.before_and, ih, List.all_cons]
def words1 : List Jvm.Cond := Jvm.Cond.code x code maxLocals ret :: tables_1
/-- a 'code' word, met by the world's own term for the bytes: nothing is compared byte by byte -/
theorem code_word {y : MethodName} {bytes : ByteArray} {mx : Nat} {rt : Option FieldType} {a : Array Value} {s : State} {m : MethodId} {meth : Method} {c : Code} (h1 : s.methodNamed? y = some m) (h2 : s.vm.method? m = some meth) (h3 : meth.code = some c) (h4 : c.code = bytes)
    (h5 : (c.maxLocals == mx && c.exceptionTable.isEmpty && decide (c.maxStack ≤ mostOperands) && decide (meth.sig.returnType = rt) && !meth.locks && decide (parseMethodDescriptor y.desc = some meth.sig)) = true) : (Jvm.Cond.code y bytes mx rt).before a s = true := by
  simp only [Bool.and_eq_true, beq_iff_eq, Bool.not_eq_true', decide_eq_true_eq] at h5
  obtain ⟨⟨⟨⟨⟨g1, g2⟩, g3⟩, g4⟩, g5⟩, g6⟩ := h5
  simp [Cond.before, Cond.holds, Cond.value, h1, h2, h3, h4, g1, g2, g3, g4, g5, g6]
def isCode : Jvm.Cond → Bool
  | .code _ _ _ _ => true
  | _ => false
theorem all_split {L : List Jvm.Cond} {P : Jvm.Cond → Bool} (h1 : L.all (fun c => isCode c || P c) = true) (h2 : ∀ c ∈ L.filter isCode, P c = true) : L.all P = true := by
  refine List.all_eq_true.mpr fun c hc => ?_
  have h := List.all_eq_true.mp h1 c hc
  rcases Bool.eq_false_or_eq_true (isCode c) with hi | hi
  · exact h2 c (List.mem_filter.mpr ⟨hc, hi⟩)
  · simpa [hi] using h
set_option maxRecDepth 65536 in
theorem w_c0 : (Jvm.Cond.code x code maxLocals ret).before args0 about1 = true := code_word (m := ⟨1, 1⟩) (meth := k1m1) (c := k1c1) (by decide +kernel) rfl rfl rfl (by decide +kernel)
set_option maxRecDepth 65536 in
theorem w_c1 : (Jvm.Cond.code ({ cls := "com/example/rolling_quorum/rollingquorum/log/EpochEnd", name := "<init>", desc := "(IJ)V" } : Jvm.MethodName) prog_12_method_1_code (4 : Nat) (Option.none : Option Jvm.ClassFile.FieldType)).before args0 about1 = true := code_word (m := ⟨2, 0⟩) (meth := k2m0) (c := k2c0) (by decide +kernel) rfl rfl rfl (by decide +kernel)
set_option maxRecDepth 65536 in
theorem w_c2 : (Jvm.Cond.code ({ cls := "java/lang/Object", name := "<init>", desc := "()V" } : Jvm.MethodName) object_method_1_code (1 : Nat) (Option.none : Option Jvm.ClassFile.FieldType)).before args0 about1 = true := code_word (m := ⟨0, 0⟩) (meth := k0m0) (c := k0c0) (by decide +kernel) rfl rfl rfl (by decide +kernel)
set_option maxRecDepth 65536 in
theorem w_c3 : (Jvm.Cond.code ({ cls := "com/example/rolling_quorum/rollingquorum/log/EpochEnd", name := "equals", desc := "(Ljava/lang/Object;)Z" } : Jvm.MethodName) prog_12_method_4_code (3 : Nat) (Option.some Jvm.ClassFile.FieldType.boolean)).before args0 about1 = true := code_word (m := ⟨2, 1⟩) (meth := k2m1) (c := k2c1) (by decide +kernel) rfl rfl rfl (by decide +kernel)
set_option maxRecDepth 65536 in
theorem w_c4 : (Jvm.Cond.code ({ cls := "java/lang/Long", name := "valueOf", desc := "(J)Ljava/lang/Long;" } : Jvm.MethodName) jdk_35_method_24_code (3 : Nat) (Option.some (Jvm.ClassFile.FieldType.object "java/lang/Long"))).before args0 about1 = true := code_word (m := ⟨8, 0⟩) (meth := k8m0) (c := k8c0) (by decide +kernel) rfl rfl rfl (by decide +kernel)
set_option maxRecDepth 65536 in
theorem w_c5 : (Jvm.Cond.code ({ cls := "java/lang/Long", name := "<init>", desc := "(J)V" } : Jvm.MethodName) jdk_35_method_26_code (3 : Nat) (Option.none : Option Jvm.ClassFile.FieldType)).before args0 about1 = true := code_word (m := ⟨8, 1⟩) (meth := k8m1) (c := k8c1) (by decide +kernel) rfl rfl rfl (by decide +kernel)
set_option maxRecDepth 65536 in
theorem w_c6 : (Jvm.Cond.code ({ cls := "java/lang/Number", name := "<init>", desc := "()V" } : Jvm.MethodName) jdk_18_method_1_code (1 : Nat) (Option.none : Option Jvm.ClassFile.FieldType)).before args0 about1 = true := code_word (m := ⟨4, 0⟩) (meth := k4m0) (c := k4c0) (by decide +kernel) rfl rfl rfl (by decide +kernel)
def codes1 : List Jvm.Cond := [Jvm.Cond.code x code maxLocals ret, Jvm.Cond.code ({ cls := "com/example/rolling_quorum/rollingquorum/log/EpochEnd", name := "<init>", desc := "(IJ)V" } : Jvm.MethodName) prog_12_method_1_code (4 : Nat) (Option.none : Option Jvm.ClassFile.FieldType), Jvm.Cond.code ({ cls := "java/lang/Object", name := "<init>", desc := "()V" } : Jvm.MethodName) object_method_1_code (1 : Nat) (Option.none : Option Jvm.ClassFile.FieldType), Jvm.Cond.code ({ cls := "com/example/rolling_quorum/rollingquorum/log/EpochEnd", name := "equals", desc := "(Ljava/lang/Object;)Z" } : Jvm.MethodName) prog_12_method_4_code (3 : Nat) (Option.some Jvm.ClassFile.FieldType.boolean), Jvm.Cond.code ({ cls := "java/lang/Long", name := "valueOf", desc := "(J)Ljava/lang/Long;" } : Jvm.MethodName) jdk_35_method_24_code (3 : Nat) (Option.some (Jvm.ClassFile.FieldType.object "java/lang/Long")), Jvm.Cond.code ({ cls := "java/lang/Long", name := "<init>", desc := "(J)V" } : Jvm.MethodName) jdk_35_method_26_code (3 : Nat) (Option.none : Option Jvm.ClassFile.FieldType), Jvm.Cond.code ({ cls := "java/lang/Number", name := "<init>", desc := "()V" } : Jvm.MethodName) jdk_18_method_1_code (1 : Nat) (Option.none : Option Jvm.ClassFile.FieldType)]
set_option maxRecDepth 65536 in
theorem codes_eq : words1.filter isCode = codes1 := rfl
theorem w_codes : ∀ c ∈ words1.filter isCode, c.before args0 about1 = true := by
  rw [codes_eq]
  intro c hc
  simp only [codes1, List.mem_cons, List.not_mem_nil, or_false] at hc
  rcases hc with rfl | rfl | rfl | rfl | rfl | rfl | rfl
  · exact w_c0
  · exact w_c1
  · exact w_c2
  · exact w_c3
  · exact w_c4
  · exact w_c5
  · exact w_c6
set_option maxRecDepth 65536 in
theorem w_t1 : (words1.take 24).all (fun c => isCode c || c.before args0 about1) = true := by decide +kernel
set_option maxRecDepth 65536 in
theorem w_t2 : (words1.drop 24).all (fun c => isCode c || c.before args0 about1) = true := by decide +kernel
theorem w_tables : (allAtoms (Jvm.Cond.code x code maxLocals ret :: tables_1)).before args0 about1 = true := by
  rw [allAtoms_all]
  show words1.all (fun c => c.before args0 about1) = true
  refine all_split ?_ w_codes
  rw [← List.take_append_drop 24 words1, List.all_append, w_t1, w_t2]
  rfl
set_option maxRecDepth 65536 in
theorem w_rest : rest_1_c.before args0 about1 = true := by decide +kernel
set_option maxRecDepth 65536 in
theorem w_case : (Jvm.Cond.and given_1 narrow_1).before args0 about1 = true := by decide +kernel
theorem w_applies : (headSpec (Jvm.Cond.code x code maxLocals ret :: tables_1) room_1).applies x e0.platform about1 = true :=
  (Spec.applies_iff w_frames).mpr ⟨w_running, w_runnable, w_alone, w_named, w_hears, w_ripe, w_room, w_tables⟩
theorem atStart : AtStart classFile x code maxLocals ret World_1 tables_1 room_1 Calls_1 rest_1 Pre_1 launch0 p0 e0 about1 theMethod args0 below0 :=
  ⟨lists_1, trivial, launch0.admits_env _ _ _, launch0.least_env, fairChoices_fair.cas, fairChoices_fair.clock, w_frames, w_args, w_heap, w_applies, trivial, w_rest, w_case⟩
end start1
theorem witness_1 : WitnessClaimed_1 := ⟨start1.p0, start1.e0, start1.about1, start1.theMethod, start1.args0, start1.below0, start1.atStart⟩
end Jvm.Pilot.@@N@@
