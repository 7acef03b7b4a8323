import JvmDerived
import JvmDerived.Pilot.@@N@@Statement
import JvmDerived.Pilot.@@N@@Code
set_option linter.unusedVariables false
set_option linter.unusedSimpArgs false
set_option maxRecDepth 65536
set_option maxHeartbeats 8000000
namespace Jvm.Pilot.@@N@@
open Jvm Jvm.ClassFile Sem Op Lib Jvm.Free Jvm.Stand Jvm.LawKit Jvm.RoadKit Bundle Jvm.Pilot.@@N@@.Jvm.D
abbrev vI (x : Int32) : Slot := .val (.int x)
abbrev vJ (x : Int64) : Slot := .val (.long x)
abbrev vR (x : Addr) : Slot := .val (.ref x)
abbrev vN : Slot := .val .null
/-- the run from S comes to an end at which K holds -/
def Go (p : Program) (e : Env) (below : List Frame) (K : State → Outcome → Prop) (S : State) : Prop := ∃ t o, Steps p.tables e below S t ∧ K t o
theorem Go.via {p : Program} {e : Env} {below : List Frame} {K : State → Outcome → Prop} {A B : State} (h : ∀ t, Steps p.tables e below B t → Steps p.tables e below A t) (g : Go p e below K B) : Go p e below K A := by
  obtain ⟨t, o, h1, h2⟩ := g; exact ⟨t, o, h t h1, h2⟩
/-- a method's end: what it returned, the heap and the places written answer Q -/
def EndK (s : State) (below : List Frame) (Q : Option Value → Heap → List Loc → Prop) (C S : Nat) (t : State) (o : Outcome) : Prop := t.status = .running ∧ Ended t below o ∧ ∃ v L, o = .returned v ∧ Q v t.heap L ∧ FrameEnd s o t L C S
/-- a method's contract -/
def Con (l : Launch) (Z : State) (y : MethodName) (bytes : ByteArray) (maxL : Nat) (ret : Option FieldType) (rm : Room) (as : Array Value) (h : Heap) (Q : Option Value → Heap → List Loc → Prop) : Prop :=
  ∀ ws, MetFree l y (head1 (Jvm.Cond.code y bytes maxL ret :: ws) rm) (fun a U => a = as ∧ Z.Warmed39 U.vm ∧ U.heap = h) (fun _ _ _ _ _ => True) (fun _ U o U' => ∃ v L, o = .returned v ∧ Q v U'.heap L ∧ FrameEnd U o U' L rm.cells rm.slots)
theorem Con.of {l : Launch} {Z : State} {y : MethodName} {bytes : ByteArray} {maxL : Nat} {ret : Option FieldType} {rm : Room} {as : Array Value} {h : Heap} {Q : Option Value → Heap → List Loc → Prop} {Ls : Array Slot} (hp : plainFor y = true) (hfr : ∀ m, entryFrame m as maxL = mkF m 0 Ls [])
    (body : ∀ (p : Program) (e : Env) (s : State) (m : MethodId) (below : List Frame) (meth : Method) (c : Code) (T : State), Stand p l e rm s m as below meth c T [] 0 0 → p.tables.exec = Jvm.exec ∧ c.code = bytes → c.maxLocals = maxL → Z.Warmed39 s.vm → s.vm.findClass y.cls = some m.cls → meth.name = y.name → meth.sig.returnType = ret → meth.locks = false → T.heap = h → Go p e below (EndK s below Q rm.cells rm.slots) (T.setTop (mkF m 0 Ls []))) :
    Con l Z y bytes maxL ret rm as h Q := by
  intro ws
  refine MetFree.of_bodySF hp hisR ?_
  intro p e s m args below meth c s₁ Bd hml hP hK
  obtain ⟨rfl, hZ, hh⟩ := hP
  have e0 : s₁.heap = h := by rw [← hh, Bd.state]; rfl
  obtain ⟨t, o, h1, h2⟩ := body p e s m below meth c s₁ (Stand.of_body Bd) ⟨Bd.exec, Bd.bytes⟩ hml hZ (findClass_of_methodNamed Bd.named) (name_of_methodNamed Bd.named Bd.method).1 Bd.returns Bd.notSynchronized e0
  exact ⟨t, o, castTop (hfr m) h1, h2⟩
theorem selPriv {Z : State} {a0 : Array Value} {y : MethodName} {kk : Nat} (wp : (Cond.privateMethod y).before a0 Z = true) (wi : (Cond.instanceMethod y).before a0 Z = true) (wk : (Cond.instantiable y.cls kk).before a0 Z = true) (hy : y.cls ≠ "java/lang/invoke/MethodHandle" ∧ y.cls ≠ "java/lang/invoke/VarHandle") : (Cond.selects y.cls y y).before a0 Z = true := by
  obtain ⟨mk, methM, hnamed, hmethM, hst, hab⟩ := Cond.instanceMethod_spec wi
  have hp := Cond.privateMethod_at wp mk methM hnamed hmethM
  have hf := State.methodFound?_of_named hnamed hy
  have hc := findClass_of_methodNamed hnamed
  obtain ⟨c, k, h1, h2, h3, h4, -⟩ := Cond.instantiable_spec wk
  cases h1.symm.trans hc
  have h5 : k.isInterface = false := (Bool.or_eq_false_iff.mp h4).1
  simp [Cond.before, Cond.holds, Cond.value, hc, hf, hnamed, selectMethod, hmethM, hp, h2, h5]
/-- an array of that length -/
def Arl (Z : State) (h : Heap) (a : Addr) (n : Int32) : Prop := ∃ k ty vs d, Arv Z h a k ty n vs d
theorem Arv.arl {Z : State} {h : Heap} {a : Addr} {k : ClassId} {ty : FieldType} {n : Int32} {vs : List Value} {d : Value} (A : Arv Z h a k ty n vs d) : Arl Z h a n := ⟨k, ty, vs, d, A⟩
theorem Arl.lt {Z : State} {h : Heap} {a : Addr} {n : Int32} (A : Arl Z h a n) : a < h.size := by obtain ⟨k, ty, vs, d, A⟩ := A; exact A.lt
theorem Arl.ext {Z : State} {h h' : Heap} {a : Addr} {n : Int32} (A : Arl Z h a n) (E : Ext h h') : Arl Z h' a n := by obtain ⟨k, ty, vs, d, A⟩ := A; exact ⟨k, ty, vs, d, A.ext E⟩
theorem Arl.other {Z : State} {h h' : Heap} {a b : Addr} {n : Int32} {sl : Nat} {v : Value} (A : Arl Z h b n) (W : Wr h h' a sl v) (q : b ≠ a) : Arl Z h' b n := by obtain ⟨k, ty, vs, d, A⟩ := A; exact ⟨k, ty, vs, d, A.other W q⟩
theorem Arl.keep {Z : State} {h h' : Heap} {a : Addr} {n : Int32} {ws : List Addr} (A : Arl Z h a n) (K : Keep h h' ws) (q : a ∉ ws) : Arl Z h' a n := by obtain ⟨k, ty, vs, d, A⟩ := A; exact ⟨k, ty, vs, d, A.keep K q⟩
section Steps
variable {p : Program} {l : Launch} {e : Env} {R : Room} {s : State} {m : MethodId} {args : Array Value} {below : List Frame} {meth : Method} {c : Code} {T : State} {locs : List Loc} {cells slots : Nat} {K : State → Outcome → Prop} {Z : State} {a0 : Array Value} {h : Heap} {bs : ByteArray} {Ls Ls' : Array Slot} {st : List Value} {pc pc' : Nat}
theorem gIloadN (X : Stand p l e R s m args below meth c T locs cells slots) (H : p.tables.exec = Jvm.exec ∧ c.code = bs) {k : Fin 4} {v : Int32} (hd : decode bs pc = .ok (.iload_n k, 1)) (hl : Ls[k.val]? = some (.val (.int v))) (pc' : Nat) (hp : pc + 1 = pc') (g : Go p e below K (T.setTop (mkF m pc' Ls (.int v :: st)))) : Go p e below K (T.setTop (mkF m pc Ls (st))) := by
  subst hp
  exact Go.via (fun t k => XS.iloadN (g := mkF m pc Ls (st)) X.here H.1 rfl (hb H.2 hd) hl k) g
theorem gLloadN (X : Stand p l e R s m args below meth c T locs cells slots) (H : p.tables.exec = Jvm.exec ∧ c.code = bs) {k : Fin 4} {v : Int64} (hd : decode bs pc = .ok (.lload_n k, 1)) (hl : Ls[k.val]? = some (.val (.long v))) (pc' : Nat) (hp : pc + 1 = pc') (g : Go p e below K (T.setTop (mkF m pc' Ls (.long v :: st)))) : Go p e below K (T.setTop (mkF m pc Ls (st))) := by
  subst hp
  exact Go.via (fun t k => XS.lloadN (g := mkF m pc Ls (st)) X.here H.1 rfl (hb H.2 hd) hl k) g
theorem gAloadN (X : Stand p l e R s m args below meth c T locs cells slots) (H : p.tables.exec = Jvm.exec ∧ c.code = bs) {k : Fin 4} {v : Value} (hd : decode bs pc = .ok (.aload_n k, 1)) (hl : Ls[k.val]? = some (.val v)) (hv : v.isRef = true) (pc' : Nat) (hp : pc + 1 = pc') (g : Go p e below K (T.setTop (mkF m pc' Ls (v :: st)))) : Go p e below K (T.setTop (mkF m pc Ls (st))) := by
  subst hp
  exact Go.via (fun t k => XS.aloadN (g := mkF m pc Ls (st)) X.here H.1 rfl (hb H.2 hd) hl hv k) g
theorem gIstoreN (X : Stand p l e R s m args below meth c T locs cells slots) (H : p.tables.exec = Jvm.exec ∧ c.code = bs) {k : Fin 4} {v : Int32} (hd : decode bs pc = .ok (.istore_n k, 1)) (hl : storeLocals Ls k.val (.int v) = some Ls') (pc' : Nat) (hp : pc + 1 = pc') (g : Go p e below K (T.setTop (mkF m pc' Ls' (st)))) : Go p e below K (T.setTop (mkF m pc Ls (.int v :: st))) := by
  subst hp
  exact Go.via (fun t k => XS.istoreN (g := mkF m pc Ls (.int v :: st)) X.here H.1 rfl (hb H.2 hd) rfl hl k) g
theorem gLstoreN (X : Stand p l e R s m args below meth c T locs cells slots) (H : p.tables.exec = Jvm.exec ∧ c.code = bs) {k : Fin 4} {v : Int64} (hd : decode bs pc = .ok (.lstore_n k, 1)) (hl : storeLocals Ls k.val (.long v) = some Ls') (pc' : Nat) (hp : pc + 1 = pc') (g : Go p e below K (T.setTop (mkF m pc' Ls' (st)))) : Go p e below K (T.setTop (mkF m pc Ls (.long v :: st))) := by
  subst hp
  exact Go.via (fun t k => XS.lstoreN (g := mkF m pc Ls (.long v :: st)) X.here H.1 rfl (hb H.2 hd) rfl hl k) g
theorem gAstoreN (X : Stand p l e R s m args below meth c T locs cells slots) (H : p.tables.exec = Jvm.exec ∧ c.code = bs) {k : Fin 4} {v : Value} (hd : decode bs pc = .ok (.astore_n k, 1)) (hv : v.isRef = true) (hl : storeLocals Ls k.val v = some Ls') (pc' : Nat) (hp : pc + 1 = pc') (g : Go p e below K (T.setTop (mkF m pc' Ls' (st)))) : Go p e below K (T.setTop (mkF m pc Ls (v :: st))) := by
  subst hp
  exact Go.via (fun t k => XS.astoreN (g := mkF m pc Ls (v :: st)) X.here H.1 rfl (hb H.2 hd) rfl hv hl k) g
theorem gIload (X : Stand p l e R s m args below meth c T locs cells slots) (H : p.tables.exec = Jvm.exec ∧ c.code = bs) {k : Nat} {v : Int32} (hd : decode bs pc = .ok (.iload k, 2)) (hl : Ls[k]? = some (.val (.int v))) (pc' : Nat) (hp : pc + 2 = pc') (g : Go p e below K (T.setTop (mkF m pc' Ls (.int v :: st)))) : Go p e below K (T.setTop (mkF m pc Ls (st))) := by
  subst hp
  exact Go.via (fun t k => XS.iload (g := mkF m pc Ls (st)) X.here H.1 rfl (hb H.2 hd) hl k) g
theorem gLload (X : Stand p l e R s m args below meth c T locs cells slots) (H : p.tables.exec = Jvm.exec ∧ c.code = bs) {k : Nat} {v : Int64} (hd : decode bs pc = .ok (.lload k, 2)) (hl : Ls[k]? = some (.val (.long v))) (pc' : Nat) (hp : pc + 2 = pc') (g : Go p e below K (T.setTop (mkF m pc' Ls (.long v :: st)))) : Go p e below K (T.setTop (mkF m pc Ls (st))) := by
  subst hp
  exact Go.via (fun t k => XS.lload (g := mkF m pc Ls (st)) X.here H.1 rfl (hb H.2 hd) hl k) g
theorem gAload (X : Stand p l e R s m args below meth c T locs cells slots) (H : p.tables.exec = Jvm.exec ∧ c.code = bs) {k : Nat} {v : Value} (hd : decode bs pc = .ok (.aload k, 2)) (hl : Ls[k]? = some (.val v)) (hv : v.isRef = true) (pc' : Nat) (hp : pc + 2 = pc') (g : Go p e below K (T.setTop (mkF m pc' Ls (v :: st)))) : Go p e below K (T.setTop (mkF m pc Ls (st))) := by
  subst hp
  exact Go.via (fun t k => XS.aload (g := mkF m pc Ls (st)) X.here H.1 rfl (hb H.2 hd) hl hv k) g
theorem gIstore (X : Stand p l e R s m args below meth c T locs cells slots) (H : p.tables.exec = Jvm.exec ∧ c.code = bs) {k : Nat} {v : Int32} (hd : decode bs pc = .ok (.istore k, 2)) (hl : storeLocals Ls k (.int v) = some Ls') (pc' : Nat) (hp : pc + 2 = pc') (g : Go p e below K (T.setTop (mkF m pc' Ls' (st)))) : Go p e below K (T.setTop (mkF m pc Ls (.int v :: st))) := by
  subst hp
  exact Go.via (fun t k => XS.istore (g := mkF m pc Ls (.int v :: st)) X.here H.1 rfl (hb H.2 hd) rfl hl k) g
theorem gLstore (X : Stand p l e R s m args below meth c T locs cells slots) (H : p.tables.exec = Jvm.exec ∧ c.code = bs) {k : Nat} {v : Int64} (hd : decode bs pc = .ok (.lstore k, 2)) (hl : storeLocals Ls k (.long v) = some Ls') (pc' : Nat) (hp : pc + 2 = pc') (g : Go p e below K (T.setTop (mkF m pc' Ls' (st)))) : Go p e below K (T.setTop (mkF m pc Ls (.long v :: st))) := by
  subst hp
  exact Go.via (fun t k => XS.lstore (g := mkF m pc Ls (.long v :: st)) X.here H.1 rfl (hb H.2 hd) rfl hl k) g
theorem gAstore (X : Stand p l e R s m args below meth c T locs cells slots) (H : p.tables.exec = Jvm.exec ∧ c.code = bs) {k : Nat} {v : Value} (hd : decode bs pc = .ok (.astore k, 2)) (hv : v.isRef = true) (hl : storeLocals Ls k v = some Ls') (pc' : Nat) (hp : pc + 2 = pc') (g : Go p e below K (T.setTop (mkF m pc' Ls' (st)))) : Go p e below K (T.setTop (mkF m pc Ls (v :: st))) := by
  subst hp
  exact Go.via (fun t k => XS.astore (g := mkF m pc Ls (v :: st)) X.here H.1 rfl (hb H.2 hd) rfl hv hl k) g
theorem gIconst (X : Stand p l e R s m args below meth c T locs cells slots) (H : p.tables.exec = Jvm.exec ∧ c.code = bs) {i : Int} {z : Int32} (hd : decode bs pc = .ok (.iconst i, 1)) (hz : Int32.ofInt i = z) (pc' : Nat) (hp : pc + 1 = pc') (g : Go p e below K (T.setTop (mkF m pc' Ls (.int z :: st)))) : Go p e below K (T.setTop (mkF m pc Ls (st))) := by
  subst hp hz
  exact Go.via (fun t k => XS.iconst (g := mkF m pc Ls (st)) X.here H.1 rfl (hb H.2 hd) k) g
theorem gBipush (X : Stand p l e R s m args below meth c T locs cells slots) (H : p.tables.exec = Jvm.exec ∧ c.code = bs) {i : Int} {z : Int32} (hd : decode bs pc = .ok (.bipush i, 2)) (hz : (Int8.ofInt i).toInt32 = z) (pc' : Nat) (hp : pc + 2 = pc') (g : Go p e below K (T.setTop (mkF m pc' Ls (.int z :: st)))) : Go p e below K (T.setTop (mkF m pc Ls (st))) := by
  subst hp hz
  exact Go.via (fun t k => XS.bipush (g := mkF m pc Ls (st)) X.here H.1 rfl (hb H.2 hd) k) g
theorem gSipush (X : Stand p l e R s m args below meth c T locs cells slots) (H : p.tables.exec = Jvm.exec ∧ c.code = bs) {i : Int} {z : Int32} (hd : decode bs pc = .ok (.sipush i, 3)) (hz : (Int16.ofInt i).toInt32 = z) (pc' : Nat) (hp : pc + 3 = pc') (g : Go p e below K (T.setTop (mkF m pc' Ls (.int z :: st)))) : Go p e below K (T.setTop (mkF m pc Ls (st))) := by
  subst hp hz
  exact Go.via (fun t k => XS.sipush (g := mkF m pc Ls (st)) X.here H.1 rfl (hb H.2 hd) k) g
theorem gLconst (X : Stand p l e R s m args below meth c T locs cells slots) (H : p.tables.exec = Jvm.exec ∧ c.code = bs) {i : Fin 2} {z : Int64} (hd : decode bs pc = .ok (.lconst i, 1)) (hz : Int64.ofNat i = z) (pc' : Nat) (hp : pc + 1 = pc') (g : Go p e below K (T.setTop (mkF m pc' Ls (.long z :: st)))) : Go p e below K (T.setTop (mkF m pc Ls (st))) := by
  subst hp hz
  exact Go.via (fun t k => XS.lconst (g := mkF m pc Ls (st)) X.here H.1 rfl (hb H.2 hd) k) g
theorem gNull (X : Stand p l e R s m args below meth c T locs cells slots) (H : p.tables.exec = Jvm.exec ∧ c.code = bs)  (hd : decode bs pc = .ok (.aconst_null, 1)) (pc' : Nat) (hp : pc + 1 = pc') (g : Go p e below K (T.setTop (mkF m pc' Ls (.null :: st)))) : Go p e below K (T.setTop (mkF m pc Ls (st))) := by
  subst hp
  exact Go.via (fun t k => XS.aconstNull (g := mkF m pc Ls (st)) X.here H.1 rfl (hb H.2 hd) k) g
theorem g_iadd (X : Stand p l e R s m args below meth c T locs cells slots) (H : p.tables.exec = Jvm.exec ∧ c.code = bs) {x y z : Int32} (hd : decode bs pc = .ok (.iadd, 1)) (hz : x + y = z) (pc' : Nat) (hp : pc + 1 = pc') (g : Go p e below K (T.setTop (mkF m pc' Ls (.int z :: st)))) : Go p e below K (T.setTop (mkF m pc Ls (.int y :: .int x :: st))) := by
  subst hp hz
  exact Go.via (fun t k => XS.iadd (g := mkF m pc Ls (.int y :: .int x :: st)) X.here H.1 rfl (hb H.2 hd) rfl k) g
theorem g_isub (X : Stand p l e R s m args below meth c T locs cells slots) (H : p.tables.exec = Jvm.exec ∧ c.code = bs) {x y z : Int32} (hd : decode bs pc = .ok (.isub, 1)) (hz : x - y = z) (pc' : Nat) (hp : pc + 1 = pc') (g : Go p e below K (T.setTop (mkF m pc' Ls (.int z :: st)))) : Go p e below K (T.setTop (mkF m pc Ls (.int y :: .int x :: st))) := by
  subst hp hz
  exact Go.via (fun t k => XS.isub (g := mkF m pc Ls (.int y :: .int x :: st)) X.here H.1 rfl (hb H.2 hd) rfl k) g
theorem g_iand (X : Stand p l e R s m args below meth c T locs cells slots) (H : p.tables.exec = Jvm.exec ∧ c.code = bs) {x y z : Int32} (hd : decode bs pc = .ok (.iand, 1)) (hz : x &&& y = z) (pc' : Nat) (hp : pc + 1 = pc') (g : Go p e below K (T.setTop (mkF m pc' Ls (.int z :: st)))) : Go p e below K (T.setTop (mkF m pc Ls (.int y :: .int x :: st))) := by
  subst hp hz
  exact Go.via (fun t k => XS.iand (g := mkF m pc Ls (.int y :: .int x :: st)) X.here H.1 rfl (hb H.2 hd) rfl k) g
theorem g_iushr (X : Stand p l e R s m args below meth c T locs cells slots) (H : p.tables.exec = Jvm.exec ∧ c.code = bs) {x y z : Int32} (hd : decode bs pc = .ok (.iushr, 1)) (hz : (x.toUInt32 >>> (y &&& 31).toUInt32).toInt32 = z) (pc' : Nat) (hp : pc + 1 = pc') (g : Go p e below K (T.setTop (mkF m pc' Ls (.int z :: st)))) : Go p e below K (T.setTop (mkF m pc Ls (.int y :: .int x :: st))) := by
  subst hp hz
  exact Go.via (fun t k => XS.iushr (g := mkF m pc Ls (.int y :: .int x :: st)) X.here H.1 rfl (hb H.2 hd) rfl k) g
theorem g_ladd (X : Stand p l e R s m args below meth c T locs cells slots) (H : p.tables.exec = Jvm.exec ∧ c.code = bs) {x y z : Int64} (hd : decode bs pc = .ok (.ladd, 1)) (hz : x + y = z) (pc' : Nat) (hp : pc + 1 = pc') (g : Go p e below K (T.setTop (mkF m pc' Ls (.long z :: st)))) : Go p e below K (T.setTop (mkF m pc Ls (.long y :: .long x :: st))) := by
  subst hp hz
  exact Go.via (fun t k => XS.ladd (g := mkF m pc Ls (.long y :: .long x :: st)) X.here H.1 rfl (hb H.2 hd) rfl k) g
theorem g_lsub (X : Stand p l e R s m args below meth c T locs cells slots) (H : p.tables.exec = Jvm.exec ∧ c.code = bs) {x y z : Int64} (hd : decode bs pc = .ok (.lsub, 1)) (hz : x - y = z) (pc' : Nat) (hp : pc + 1 = pc') (g : Go p e below K (T.setTop (mkF m pc' Ls (.long z :: st)))) : Go p e below K (T.setTop (mkF m pc Ls (.long y :: .long x :: st))) := by
  subst hp hz
  exact Go.via (fun t k => XS.lsub (g := mkF m pc Ls (.long y :: .long x :: st)) X.here H.1 rfl (hb H.2 hd) rfl k) g
theorem g_lmul (X : Stand p l e R s m args below meth c T locs cells slots) (H : p.tables.exec = Jvm.exec ∧ c.code = bs) {x y z : Int64} (hd : decode bs pc = .ok (.lmul, 1)) (hz : x * y = z) (pc' : Nat) (hp : pc + 1 = pc') (g : Go p e below K (T.setTop (mkF m pc' Ls (.long z :: st)))) : Go p e below K (T.setTop (mkF m pc Ls (.long y :: .long x :: st))) := by
  subst hp hz
  exact Go.via (fun t k => XS.lmul (g := mkF m pc Ls (.long y :: .long x :: st)) X.here H.1 rfl (hb H.2 hd) rfl k) g
theorem g_lcmp (X : Stand p l e R s m args below meth c T locs cells slots) (H : p.tables.exec = Jvm.exec ∧ c.code = bs) {x y : Int64} {z : Int32} (hd : decode bs pc = .ok (.lcmp, 1)) (hz : lcmpW x y = z) (pc' : Nat) (hp : pc + 1 = pc') (g : Go p e below K (T.setTop (mkF m pc' Ls (.int z :: st)))) : Go p e below K (T.setTop (mkF m pc Ls (.long y :: .long x :: st))) := by
  subst hp hz
  exact Go.via (fun t k => XS.lcmp (g := mkF m pc Ls (.long y :: .long x :: st)) X.here H.1 rfl (hb H.2 hd) rfl k) g
theorem g_i2l (X : Stand p l e R s m args below meth c T locs cells slots) (H : p.tables.exec = Jvm.exec ∧ c.code = bs) {x : Int32} {z : Int64} (hd : decode bs pc = .ok (.i2l, 1)) (hz : x.toInt64 = z) (pc' : Nat) (hp : pc + 1 = pc') (g : Go p e below K (T.setTop (mkF m pc' Ls (.long z :: st)))) : Go p e below K (T.setTop (mkF m pc Ls (.int x :: st))) := by
  subst hp hz
  exact Go.via (fun t k => XS.i2l (g := mkF m pc Ls (.int x :: st)) X.here H.1 rfl (hb H.2 hd) rfl k) g
theorem g_l2i (X : Stand p l e R s m args below meth c T locs cells slots) (H : p.tables.exec = Jvm.exec ∧ c.code = bs) {x : Int64} {z : Int32} (hd : decode bs pc = .ok (.l2i, 1)) (hz : x.toInt32 = z) (pc' : Nat) (hp : pc + 1 = pc') (g : Go p e below K (T.setTop (mkF m pc' Ls (.int z :: st)))) : Go p e below K (T.setTop (mkF m pc Ls (.long x :: st))) := by
  subst hp hz
  exact Go.via (fun t k => XS.l2i (g := mkF m pc Ls (.long x :: st)) X.here H.1 rfl (hb H.2 hd) rfl k) g
theorem g_ineg (X : Stand p l e R s m args below meth c T locs cells slots) (H : p.tables.exec = Jvm.exec ∧ c.code = bs) {x : Int32} {z : Int32} (hd : decode bs pc = .ok (.ineg, 1)) (hz : -x = z) (pc' : Nat) (hp : pc + 1 = pc') (g : Go p e below K (T.setTop (mkF m pc' Ls (.int z :: st)))) : Go p e below K (T.setTop (mkF m pc Ls (.int x :: st))) := by
  subst hp hz
  exact Go.via (fun t k => XS.ineg (g := mkF m pc Ls (.int x :: st)) X.here H.1 rfl (hb H.2 hd) rfl k) g
theorem gDup (X : Stand p l e R s m args below meth c T locs cells slots) (H : p.tables.exec = Jvm.exec ∧ c.code = bs) {v : Value} (hd : decode bs pc = .ok (.dup, 1)) (hc : v.category = 1) (pc' : Nat) (hp : pc + 1 = pc') (g : Go p e below K (T.setTop (mkF m pc' Ls (v :: v :: st)))) : Go p e below K (T.setTop (mkF m pc Ls (v :: st))) := by
  subst hp
  exact Go.via (fun t k => XS.dup (g := mkF m pc Ls (v :: st)) X.here H.1 rfl (hb H.2 hd) rfl hc k) g
theorem gPop (X : Stand p l e R s m args below meth c T locs cells slots) (H : p.tables.exec = Jvm.exec ∧ c.code = bs) {v : Value} (hd : decode bs pc = .ok (.pop, 1)) (hc : v.category = 1) (pc' : Nat) (hp : pc + 1 = pc') (g : Go p e below K (T.setTop (mkF m pc' Ls (st)))) : Go p e below K (T.setTop (mkF m pc Ls (v :: st))) := by
  subst hp
  exact Go.via (fun t k => XS.pop (g := mkF m pc Ls (v :: st)) X.here H.1 rfl (hb H.2 hd) rfl hc k) g
theorem gIinc (X : Stand p l e R s m args below meth c T locs cells slots) (H : p.tables.exec = Jvm.exec ∧ c.code = bs) {k : Nat} {i : Int} {v : Int32} (hd : decode bs pc = .ok (.iinc k i, 3)) (hl : Ls[k]? = some (.val (.int v))) (hl' : storeLocals Ls k (.int (v + Int32.ofInt i)) = some Ls') (pc' : Nat) (hp : pc + 3 = pc') (g : Go p e below K (T.setTop (mkF m pc' Ls' (st)))) : Go p e below K (T.setTop (mkF m pc Ls (st))) := by
  subst hp
  exact Go.via (fun t k => XS.iinc (g := mkF m pc Ls (st)) X.here H.1 rfl (hb H.2 hd) hl hl' k) g
theorem gGoto (X : Stand p l e R s m args below meth c T locs cells slots) (H : p.tables.exec = Jvm.exec ∧ c.code = bs)  {o : Int} (hd : decode bs pc = .ok (.goto o, 3)) (ho : 0 ≤ (pc : Int) + o) (pc' : Nat) (hp : ((pc : Int) + o).toNat = pc') (g : Go p e below K (T.setTop (mkF m pc' Ls (st)))) : Go p e below K (T.setTop (mkF m pc Ls (st))) :=
  Go.via (fun t k => XS.goto (g := mkF m pc Ls (st)) X.here H.1 rfl rfl (hb H.2 hd) ho hp k) g
theorem gIfY (X : Stand p l e R s m args below meth c T locs cells slots) (H : p.tables.exec = Jvm.exec ∧ c.code = bs) {cd : ClassFile.Cond} {x : Int32} {o : Int} (hd : decode bs pc = .ok (.ifCond cd o, 3)) (hc : ifCond.holds cd x = true) (ho : 0 ≤ (pc : Int) + o) (pc' : Nat) (hp : ((pc : Int) + o).toNat = pc') (g : Go p e below K (T.setTop (mkF m pc' Ls (st)))) : Go p e below K (T.setTop (mkF m pc Ls (.int x :: st))) :=
  Go.via (fun t k => XS.ifYes (g := mkF m pc Ls (.int x :: st)) X.here H.1 rfl rfl (hb H.2 hd) rfl hc ho hp k) g
theorem gCmpY (X : Stand p l e R s m args below meth c T locs cells slots) (H : p.tables.exec = Jvm.exec ∧ c.code = bs) {cd : ClassFile.Cond} {x y : Int32} {o : Int} (hd : decode bs pc = .ok (.if_icmp cd o, 3)) (hc : if_icmp.holds cd x y = true) (ho : 0 ≤ (pc : Int) + o) (pc' : Nat) (hp : ((pc : Int) + o).toNat = pc') (g : Go p e below K (T.setTop (mkF m pc' Ls (st)))) : Go p e below K (T.setTop (mkF m pc Ls (.int y :: .int x :: st))) :=
  Go.via (fun t k => XS.icmpYes (g := mkF m pc Ls (.int y :: .int x :: st)) X.here H.1 rfl rfl (hb H.2 hd) rfl hc ho hp k) g
theorem gIfN (X : Stand p l e R s m args below meth c T locs cells slots) (H : p.tables.exec = Jvm.exec ∧ c.code = bs) {o : Int} {cd : ClassFile.Cond} {x : Int32} (hd : decode bs pc = .ok (.ifCond cd o, 3)) (hc : ifCond.holds cd x = false) (pc' : Nat) (hp : pc + 3 = pc') (g : Go p e below K (T.setTop (mkF m pc' Ls (st)))) : Go p e below K (T.setTop (mkF m pc Ls (.int x :: st))) := by
  subst hp
  exact Go.via (fun t k => XS.ifNo (g := mkF m pc Ls (.int x :: st)) X.here H.1 rfl (hb H.2 hd) rfl hc k) g
theorem gCmpN (X : Stand p l e R s m args below meth c T locs cells slots) (H : p.tables.exec = Jvm.exec ∧ c.code = bs) {o : Int} {cd : ClassFile.Cond} {x y : Int32} (hd : decode bs pc = .ok (.if_icmp cd o, 3)) (hc : if_icmp.holds cd x y = false) (pc' : Nat) (hp : pc + 3 = pc') (g : Go p e below K (T.setTop (mkF m pc' Ls (st)))) : Go p e below K (T.setTop (mkF m pc Ls (.int y :: .int x :: st))) := by
  subst hp
  exact Go.via (fun t k => XS.icmpNo (g := mkF m pc Ls (.int y :: .int x :: st)) X.here H.1 rfl (hb H.2 hd) rfl hc k) g
theorem gAcmp (X : Stand p l e R s m args below meth c T locs cells slots) (H : p.tables.exec = Jvm.exec ∧ c.code = bs) {cd : ACond} {x y : Value} {o : Int} {same : Bool} (hd : decode bs pc = .ok (.if_acmp cd o, 3)) (h1 : x.isRef = true) (h2 : y.isRef = true) (hq : decide (x = y) = same) (ho : 0 ≤ (pc : Int) + o) (pc' : Nat) (hp : pc' = if acV cd same = true then ((pc : Int) + o).toNat else pc + 3) (g : Go p e below K (T.setTop (mkF m pc' Ls (st)))) : Go p e below K (T.setTop (mkF m pc Ls (y :: x :: st))) :=
  Go.via (fun t k => Jvm.RoadKit.acmp (g := mkF m pc Ls (y :: x :: st)) X H.1 rfl h1 h2 rfl (hb H.2 hd) rfl hq ho hp k) g
theorem gLdc2 (X : Stand p l e R s m args below meth c T locs cells slots) (H : p.tables.exec = Jvm.exec ∧ c.code = bs) (hZ : Z.Warmed39 s.vm) {own : String} {index : Nat} (hown : s.vm.findClass own = some m.cls) {v : Int64} (w : (Cond.constantLong own index v).before a0 Z = true) (hd : decode bs pc = .ok (.ldc2_w index, 3)) (pc' : Nat) (hp : pc + 3 = pc') (g : Go p e below K (T.setTop (mkF m pc' Ls (.long v :: st)))) : Go p e below K (T.setTop (mkF m pc Ls (st))) := by
  subst hp
  exact Go.via (X.ldc2Long H.1 hown (mvT hZ w) (g := mkF m pc Ls st) rfl (hb H.2 hd)) g
theorem gGetS (X : Stand p l e R s m args below meth c T locs cells slots) (H : p.tables.exec = Jvm.exec ∧ c.code = bs) (hZ : Z.Warmed39 s.vm) {own : String} {index : Nat} (hown : s.vm.findClass own = some m.cls) {O n d : String} {v : Value} (w : (Cond.fieldLink own index O n d).before a0 Z = true) (eT : T.heap = h) (F : Sta Z h O n d v) (hd : decode bs pc = .ok (.getstatic index, 3)) (pc' : Nat) (hp : pc + 3 = pc') (g : ∀ T', Stand p l e R s m args below meth c T' locs cells slots → T'.heap = h → Go p e below K (T'.setTop (mkF m pc' Ls (v :: st)))) : Go p e below K (T.setTop (mkF m pc Ls (st))) := by
  subst hp
  obtain ⟨T', X', e', k⟩ := getS2 X H.1 hZ hown (host := "") (Or.inl w) Via.refl eT F (g := mkF m pc Ls st) rfl (hb H.2 hd)
  exact Go.via k (g T' X' e')
theorem gGetF (X : Stand p l e R s m args below meth c T locs cells slots) (H : p.tables.exec = Jvm.exec ∧ c.code = bs) (hZ : Z.Warmed39 s.vm) {own : String} {index : Nat} (hown : s.vm.findClass own = some m.cls) {R0 O n d : String} {a : Addr} {v : Value} (w : (Cond.fieldLink own index R0 n d).before a0 Z = true) (via : Via Z R0 O n d) (eT : T.heap = h) (F : Fld Z h a O n d v) (hd : decode bs pc = .ok (.getfield index, 3)) (pc' : Nat) (hp : pc + 3 = pc') (g : ∀ T', Stand p l e R s m args below meth c T' locs cells slots → T'.heap = h → Go p e below K (T'.setTop (mkF m pc' Ls (v :: st)))) : Go p e below K (T.setTop (mkF m pc Ls (.ref a :: st))) := by
  subst hp
  obtain ⟨T', X', e', k⟩ := getF X H.1 hZ hown (host := "") (Or.inl w) via eT F (g := mkF m pc Ls (.ref a :: st)) rfl rfl (hb H.2 hd)
  exact Go.via k (g T' X' e')
theorem gStatic (X : Stand p l e R s m args below meth c T locs cells slots) (H : p.tables.exec = Jvm.exec ∧ c.code = bs) (hZ : Z.Warmed39 s.vm) {own : String} {index : Nat} (hown : s.vm.findClass own = some m.cls) {y : MethodName} {bytes : ByteArray} {maxL : Nat} {ret : Option FieldType} {rm : Room} {as : Array Value} {Q : Option Value → Heap → List Loc → Prop} {W maxO : Nat} {argsL rest : List Value} {ps : List FieldType} {r : Option FieldType} (wl : (Cond.methodLink own index y).before a0 Z = true) (wst : (Cond.static y).before a0 Z = true) (hy : y.cls ≠ "java/lang/invoke/MethodHandle" ∧ y.cls ≠ "java/lang/invoke/VarHandle") (wc : (Cond.code y bytes maxL ret).before a0 Z = true) (wz : (Cond.initialized (y).cls).before a0 Z = true) (M : Con l Z y bytes maxL ret rm as h Q) (eT : T.heap = h) (hml : c.maxLocals = maxO) (hs : Ls.size = maxO) (hpd : parseMethodDescriptor y.desc = some ⟨ps, r⟩) (hlen : argsL.length = ps.length) (hstack : st = argsL.reverse ++ rest) (has : argsL.toArray = as) (hd : decode bs pc = .ok (.invokestatic index, 3)) (pc' : Nat) (hp : pc + 3 = pc')
    (g : ∀ v T' L, Q v T'.heap L → Stand p l e R s m args below meth c T' (locs ++ L) (cells + rm.cells) (slots + rm.slots) → Go p e below K (T'.setTop (mkF m pc' Ls (v.toList ++ rest)))) (hW : (rest.map fun v => v.category).sum ≤ W := by exact Nat.le_of_eq rfl) (hf : rm.frames + 1 ≤ R.frames := by decide) (hl : W + (maxL + 11) + rm.locals ≤ R.locals := by decide) (hc : cells + rm.cells ≤ R.cells := by decide) (hsl : slots + rm.slots ≤ R.slots := by decide) : Go p e below K (T.setTop (mkF m pc Ls (st))) := by
  subst hp has
  obtain ⟨v, _, ⟨T', L', k', n'⟩, -, X', ⟨L, hQ, l', y', z'⟩, k⟩ := Jvm.LawKit.callS X H.1 (y := y) hown (mvT hZ wl) (mvT hZ wst) (mvT hZ wz) (mvT hZ wc) hy (backOf (W := W) (M []) hZ wc wz hf hl) (g := mkF m pc Ls st) rfl (hs.trans hml.symm) (argsL := argsL) (rest := rest) (lenOf hpd hlen) hstack (by show 2 * 0 + _ ≤ _; omega) (hb H.2 hd) (fun _ _ => ⟨rfl, eT, hc, hsl⟩)
  dsimp only [Pt.U, Pt.locs, Pt.cells, Pt.slots] at X' l' y' z' k hQ
  subst l' y' z'
  exact Go.via k (g v T' L hQ X')
theorem gSpecial (X : Stand p l e R s m args below meth c T locs cells slots) (H : p.tables.exec = Jvm.exec ∧ c.code = bs) (hZ : Z.Warmed39 s.vm) {own : String} {index : Nat} (hown : s.vm.findClass own = some m.cls) {y : MethodName} {bytes : ByteArray} {maxL : Nat} {ret : Option FieldType} {rm : Room} {as : Array Value} {Q : Option Value → Heap → List Loc → Prop} {W maxO : Nat} {argsL rest : List Value} {ps : List FieldType} {r : Option FieldType} (hin : y.name = "<init>") (hrn : ret = none) (wl : (Cond.methodLink own index y).before a0 Z = true) (wi : (Cond.instanceMethod y).before a0 Z = true) (hy : y.cls ≠ "java/lang/invoke/MethodHandle" ∧ y.cls ≠ "java/lang/invoke/VarHandle") {b : Addr} (wc : (Cond.code y bytes maxL ret).before a0 Z = true) (wz : (Cond.initialized (y).cls).before a0 Z = true) (M : Con l Z y bytes maxL ret rm as h Q) (eT : T.heap = h) (hml : c.maxLocals = maxO) (hs : Ls.size = maxO) (hpd : parseMethodDescriptor y.desc = some ⟨ps, r⟩) (hlen : argsL.length = ps.length) (hstack : st = argsL.reverse ++ .ref b :: rest) (has : (.ref b :: argsL).toArray = as) (hd : decode bs pc = .ok (.invokespecial index, 3)) (pc' : Nat) (hp : pc + 3 = pc')
    (g : ∀ v T' L, Q v T'.heap L → Stand p l e R s m args below meth c T' (locs ++ L) (cells + rm.cells) (slots + rm.slots) → Go p e below K (T'.setTop (mkF m pc' Ls (v.toList ++ rest)))) (hW : (rest.map fun v => v.category).sum ≤ W := by exact Nat.le_of_eq rfl) (hf : rm.frames + 1 ≤ R.frames := by decide) (hl : W + (maxL + 11) + rm.locals ≤ R.locals := by decide) (hc : cells + rm.cells ≤ R.cells := by decide) (hsl : slots + rm.slots ≤ R.slots := by decide) : Go p e below K (T.setTop (mkF m pc Ls (st))) := by
  subst hp has
  subst hrn
  obtain ⟨v, _, ⟨T', L', k', n'⟩, -, X', ⟨L, hQ, l', y', z'⟩, k⟩ := X.specialBack H.1 (y := y) hin hown (mvT hZ wl) (mvT hZ wi) (mvT hZ wc) hy (backOf (W := W) (M []) hZ wc wz hf hl) (g := mkF m pc Ls st) rfl (hs.trans hml.symm) (Steps.refl _) (a := b) (argsL := argsL) (rest := rest) (lenOf hpd hlen) hstack (by show 2 * 0 + _ ≤ _; omega) (hb H.2 hd) (fun _ _ => ⟨rfl, eT, hc, hsl⟩)
  dsimp only [Pt.U, Pt.locs, Pt.cells, Pt.slots] at X' l' y' z' k hQ
  subst l' y' z'
  exact Go.via (fun t q => k.trans q) (g v T' L hQ X')
theorem gRetN (X : Stand p l e R s m args below meth c T locs cells slots) (H : p.tables.exec = Jvm.exec ∧ c.code = bs) (hlk : meth.locks = false) {Q : Option Value → Heap → List Loc → Prop} {C S : Nat} {t : FieldType} {z : Int32} (hret : meth.sig.returnType = some t) (ht : t = .boolean ∨ t = .byte ∨ t = .char ∨ t = .short) (hd : decode bs pc = .ok (.ireturn, 1)) (eT : T.heap = h) (q : Q (some (.int (nar t z))) h locs) (hC : cells ≤ C := by decide) (hS : slots ≤ S := by decide) : Go p e below (EndK s below Q C S) (T.setTop (mkF m pc Ls (.int z :: st))) := by
  subst eT
  obtain ⟨fs, hr, hrun, hended, hW, hsame⟩ := X.leave (v := (some (.int (nar t z)))) (fun h => by rw [hret] at h; cases h) hlk
  exact ⟨_, _, retN X H.1 hret ht (hb H.2 hd) hr, hrun, hended, _, _, rfl, q, ⟨_, rfl⟩, hW, hsame.mono hC hS⟩
theorem gRetI (X : Stand p l e R s m args below meth c T locs cells slots) (H : p.tables.exec = Jvm.exec ∧ c.code = bs) (hlk : meth.locks = false) {Q : Option Value → Heap → List Loc → Prop} {C S : Nat} {z : Int32} (hret : meth.sig.returnType = some .int) (hd : decode bs pc = .ok (.ireturn, 1)) (eT : T.heap = h) (q : Q (some (.int z)) h locs) (hC : cells ≤ C := by decide) (hS : slots ≤ S := by decide) : Go p e below (EndK s below Q C S) (T.setTop (mkF m pc Ls (.int z :: st))) := by
  subst eT
  obtain ⟨fs, hr, hrun, hended, hW, hsame⟩ := X.leave (v := (some (.int z))) (fun h => by rw [hret] at h; cases h) hlk
  exact ⟨_, _, retOut X H.1 hret rfl (Or.inl ⟨rfl, Or.inl rfl, z, rfl⟩) (hb H.2 hd) hr, hrun, hended, _, _, rfl, q, ⟨_, rfl⟩, hW, hsame.mono hC hS⟩
theorem gRetL (X : Stand p l e R s m args below meth c T locs cells slots) (H : p.tables.exec = Jvm.exec ∧ c.code = bs) (hlk : meth.locks = false) {Q : Option Value → Heap → List Loc → Prop} {C S : Nat} {z : Int64} (hret : meth.sig.returnType = some .long) (hd : decode bs pc = .ok (.lreturn, 1)) (eT : T.heap = h) (q : Q (some (.long z)) h locs) (hC : cells ≤ C := by decide) (hS : slots ≤ S := by decide) : Go p e below (EndK s below Q C S) (T.setTop (mkF m pc Ls (.long z :: st))) := by
  subst eT
  obtain ⟨fs, hr, hrun, hended, hW, hsame⟩ := X.leave (v := (some (.long z))) (fun h => by rw [hret] at h; cases h) hlk
  exact ⟨_, _, retOut X H.1 hret rfl (Or.inr (Or.inl ⟨rfl, rfl, z, rfl⟩)) (hb H.2 hd) hr, hrun, hended, _, _, rfl, q, ⟨_, rfl⟩, hW, hsame.mono hC hS⟩
theorem gRetA (X : Stand p l e R s m args below meth c T locs cells slots) (H : p.tables.exec = Jvm.exec ∧ c.code = bs) (hlk : meth.locks = false) {Q : Option Value → Heap → List Loc → Prop} {C S : Nat} {w : Value} {t : FieldType} (hret : meth.sig.returnType = some t) (hn : narrow t w = w) (ht : t.isReference = true) (hv : w.isRef = true) (hd : decode bs pc = .ok (.areturn, 1)) (eT : T.heap = h) (q : Q (some w) h locs) (hC : cells ≤ C := by decide) (hS : slots ≤ S := by decide) : Go p e below (EndK s below Q C S) (T.setTop (mkF m pc Ls (w :: st))) := by
  subst eT
  obtain ⟨fs, hr, hrun, hended, hW, hsame⟩ := X.leave (v := (some w)) (fun h => by rw [hret] at h; cases h) hlk
  exact ⟨_, _, retOut X H.1 hret hn (Or.inr (Or.inr (Or.inr (Or.inr ⟨rfl, ht, hv⟩)))) (hb H.2 hd) hr, hrun, hended, _, _, rfl, q, ⟨_, rfl⟩, hW, hsame.mono hC hS⟩
theorem gRetV (X : Stand p l e R s m args below meth c T locs cells slots) (H : p.tables.exec = Jvm.exec ∧ c.code = bs) (hlk : meth.locks = false) {Q : Option Value → Heap → List Loc → Prop} {C S : Nat}  (hret : meth.sig.returnType = none) (hd : decode bs pc = .ok (.return_, 1)) (eT : T.heap = h) (q : Q none h locs) (hC : cells ≤ C := by decide) (hS : slots ≤ S := by decide) : Go p e below (EndK s below Q C S) (T.setTop (mkF m pc Ls ([]))) := by
  subst eT
  obtain ⟨fs, hr, hrun, hended, hW, hsame⟩ := X.leave (v := none) (fun _ => rfl) hlk
  exact ⟨_, _, X.returnOut H.1 hret (hb H.2 hd) hr, hrun, hended, _, _, rfl, q, ⟨_, rfl⟩, hW, hsame.mono hC hS⟩
theorem gNew (X : Stand p l e R s m args below meth c T locs cells slots) (H : p.tables.exec = Jvm.exec ∧ c.code = bs) (hZ : Z.Warmed39 s.vm) {own : String} {index : Nat} (hown : s.vm.findClass own = some m.cls) {C : String} {n : Nat} (w : (Cond.classLink own index C).before a0 Z = true) (wi : (Cond.instantiable C n).before a0 Z = true) (wz : (Cond.initialized C).before a0 Z = true) (eT : T.heap = h) (hc : cells + 1 ≤ R.cells) (hsl : slots + n ≤ R.slots) (hd : decode bs pc = .ok (.new index, 3)) (pc' : Nat) (hp : pc + 3 = pc')
    (g : ∀ T' h' b, Stand p l e R s m args below meth c T' locs (cells + 1) (slots + n) → T'.heap = h' → h.size = b → Ext h h' → Exa Z h' b C → (∀ {O nm d : String} {ty : FieldType}, Laid Z a0 C O nm d → parseFieldDescriptor d = some ty → Fld Z h' b O nm d (defaultValue ty)) → Go p e below K (T'.setTop (mkF m pc' Ls (.ref b :: st)))) : Go p e below K (T.setTop (mkF m pc Ls (st))) := by
  subst hp
  obtain ⟨T', h', X', e', E', A', D', -, k⟩ := newO X H.1 hZ hown w wi wz eT (g := mkF m pc Ls st) rfl (hb H.2 hd) hc hsl
  exact Go.via k (g T' h' _ X' e' rfl E' A' D')
theorem gInitO (X : Stand p l e R s m args below meth c T locs cells slots) (H : p.tables.exec = Jvm.exec ∧ c.code = bs) (hZ : Z.Warmed39 s.vm) {own : String} {index : Nat} (hown : s.vm.findClass own = some m.cls) (w1 : (Cond.methodLink own index Lib.objectInit).before a0 Z = true) (w2 : (Cond.instanceMethod Lib.objectInit).before a0 Z = true) (w3 : (Cond.code Lib.objectInit ⟨#[0xb1]⟩ 1 none).before a0 Z = true) (eT : T.heap = h) {a : Addr} {V maxO : Nat} (hml : c.maxLocals = maxO) (hs : Ls.size = maxO) (hW : (st.map fun v => v.category).sum ≤ V) (hf : 1 ≤ R.frames) (hl : V + 12 ≤ R.locals) (hd : decode bs pc = .ok (.invokespecial index, 3)) (pc' : Nat) (hp : pc + 3 = pc')
    (g : ∀ T', Stand p l e R s m args below meth c T' locs cells slots → T'.heap = h → Go p e below K (T'.setTop (mkF m pc' Ls st))) : Go p e below K (T.setTop (mkF m pc Ls (.ref a :: st))) := by
  subst hp
  obtain ⟨T', X', e', k⟩ := initO X H.1 hZ hown w1 w2 w3 eT (g := mkF m pc Ls (.ref a :: st)) rfl (hs.trans hml.symm) rfl (hb H.2 hd) hf (W := V) (by show 2 * 0 + _ ≤ _; omega) hl
  exact Go.via k (g T' X' e')
theorem gPutF (X : Stand p l e R s m args below meth c T locs cells slots) (H : p.tables.exec = Jvm.exec ∧ c.code = bs) (hZ : Z.Warmed39 s.vm) {own : String} {index : Nat} (hown : s.vm.findClass own = some m.cls) {R0 O n d C : String} {kk : Nat} {ty : FieldType} (w : (Cond.fieldLink own index R0 n d).before a0 Z = true) (via : Via Z R0 O n d) (eT : T.heap = h) {a : Addr} {v v' old : Value} (F : Fld Z h a O n d old) (E : Exa Z h a C) (L : (Cond.lays C O n d).before a0 Z = true ∨ ((Cond.laysFinal C O n d).before a0 Z = true ∧ own = O ∧ meth.name = "<init>")) (wi : (Cond.instantiable C kk).before a0 Z = true) (hty : parseFieldDescriptor d = some ty) (hn : narrow ty v = v') (hf : fits ty v' = true) (hd : decode bs pc = .ok (.putfield index, 3)) (pc' : Nat) (hp : pc + 3 = pc')
    (g : ∀ T' h', Stand p l e R s m args below meth c T' (locs ++ [⟨a, Jvm.RoadKit.slotOf Z O n d⟩]) cells slots → T'.heap = h' → Wr h h' a (Jvm.RoadKit.slotOf Z O n d) v' → Fld Z h' a O n d v' → Go p e below K (T'.setTop (mkF m pc' Ls st))) : Go p e below K (T.setTop (mkF m pc Ls (v :: .ref a :: st))) := by
  subst hp
  obtain ⟨T', h', X', e', W', k⟩ := putFN X H.1 hZ hown w via eT F E L wi hty hn hf (g := mkF m pc Ls (v :: .ref a :: st)) rfl rfl (hb H.2 hd)
  exact Go.via k (g T' h' X' e' W' (F.same W'))
theorem gNewR (X : Stand p l e R s m args below meth c T locs cells slots) (H : p.tables.exec = Jvm.exec ∧ c.code = bs) (hZ : Z.Warmed39 s.vm) {own : String} {index : Nat} (hown : s.vm.findClass own = some m.cls) {C : String} (w1 : (Cond.classLink own index C).before a0 Z = true) (w2 : (Cond.arrayOver (.object C)).before a0 Z = true) (eT : T.heap = h) {n : Int32} (hn : ¬ n < 0) {cap : Nat} (hcap : n.toNatClampNeg ≤ cap) (hb8 : cap * 8 ≤ 536870912) {vs : List Value} (hvs : List.replicate cap Value.null = vs) (hc : cells + 1 ≤ R.cells) (hsl : slots + cap ≤ R.slots) (hd : decode bs pc = .ok (.anewarray index, 3)) (pc' : Nat) (hp : pc + 3 = pc')
    (g : ∀ T' h' b k, Stand p l e R s m args below meth c T' locs (cells + 1) (slots + cap) → T'.heap = h' → h.size = b → Ext h h' → Arv Z h' b k (.object C) n vs .null → Ovr Z k C → Go p e below K (T'.setTop (mkF m pc' Ls (.ref b :: st)))) : Go p e below K (T.setTop (mkF m pc Ls (.int n :: st))) := by
  subst hp
  obtain ⟨T', h', k', X', e', E', A', O', k⟩ := newR X H.1 hZ hown w1 w2 eT (g := mkF m pc Ls (.int n :: st)) rfl (hb H.2 hd) rfl hn hcap hb8 hc hsl
  refine Go.via k (g T' h' _ k' X' e' rfl E' ?_ O')
  rw [← hvs]
  exact (Arv.new A' hn).pad (pad_rep [] _ _)
theorem gAaload (X : Stand p l e R s m args below meth c T locs cells slots) (H : p.tables.exec = Jvm.exec ∧ c.code = bs) (hZ : Z.Warmed39 s.vm) (eT : T.heap = h) {a : Addr} {k : ClassId} {n j : Int32} {vs : List Value} {dv v : Value} {ty : FieldType} (hty : ty.isReference = true) (A : Arv Z h a k ty n vs dv) (hj : ¬ j < 0 ∧ j < n) (hv : vs.getD j.toNatClampNeg dv = v) (hd : decode bs pc = .ok (.aaload, 1)) (pc' : Nat) (hp : pc + 1 = pc') (g : Go p e below K (T.setTop (mkF m pc' Ls (v :: st)))) : Go p e below K (T.setTop (mkF m pc Ls (.int j :: .ref a :: st))) := by
  subst hp
  obtain ⟨c', Ar, q, S, N, Hs, Gs⟩ := A
  have hin := inb_of S hj
  exact Go.via (X.aaload H.1 (j := j) (v := v) (by rw [eT]; exact Ar.1) (State.isArrayOf_alike hZ.alike Ar.2.1) hty Ar.2.2 hin (Hs.at hin hv) (g := mkF m pc Ls (.int j :: .ref a :: st)) rfl rfl (hb H.2 hd)) g
theorem gLen (X : Stand p l e R s m args below meth c T locs cells slots) (H : p.tables.exec = Jvm.exec ∧ c.code = bs) (hZ : Z.Warmed39 s.vm) (eT : T.heap = h) {a : Addr} {n : Int32} (A : Arl Z h a n) (hd : decode bs pc = .ok (.arraylength, 1)) (pc' : Nat) (hp : pc + 1 = pc') (g : Go p e below K (T.setTop (mkF m pc' Ls (.int n :: st)))) : Go p e below K (T.setTop (mkF m pc Ls (.ref a :: st))) := by
  subst hp
  obtain ⟨k, ty, vs, dv, c', Ar, q, S, N, Hs, Gs⟩ := A
  refine Go.via (X.arraylength H.1 (by rw [eT]; exact Ar.1) (State.isArrayOf_alike hZ.alike Ar.2.1) (g := mkF m pc Ls (.ref a :: st)) rfl rfl (hb H.2 hd)) ?_
  rw [len_of S N]
  exact g
theorem gAastore (X : Stand p l e R s m args below meth c T locs cells slots) (H : p.tables.exec = Jvm.exec ∧ c.code = bs) (hZ : Z.Warmed39 s.vm) (eT : T.heap = h) {a : Addr} {k : ClassId} {n j : Int32} {vs vs' : List Value} {dv : Value} {v : Value} {C : String} (hft : fits (.object C) v = true) (hsto : Sto Z h a v) (A : Arv Z h a k (.object C) n vs dv) (hj : ¬ j < 0 ∧ j < n) {i : Nat} (hi : j.toNatClampNeg = i) (hlt : i < vs.length) (hvs : vs.set i v = vs') (hd : decode bs pc = .ok (.aastore, 1)) (pc' : Nat) (hp : pc + 1 = pc')
    (g : ∀ T' h', Stand p l e R s m args below meth c T' (locs ++ [⟨a, j.toNatClampNeg⟩]) cells slots → T'.heap = h' → Wr h h' a j.toNatClampNeg v → Arv Z h' a k (.object C) n vs' dv → Go p e below K (T'.setTop (mkF m pc' Ls st))) : Go p e below K (T.setTop (mkF m pc Ls (v :: .int j :: .ref a :: st))) := by
  subst hp hvs
  obtain ⟨c', Ar, q, S, N, Hs, Gs⟩ := A
  have hin := inb_of S hj
  obtain ⟨T', h', X', e', W', k'⟩ := stR X H.1 hZ eT Ar (j := j) hin rfl hsto (g := mkF m pc Ls (v :: .int j :: .ref a :: st)) rfl rfl (hb H.2 hd)
  exact Go.via k' (g T' h' X' e' W' (Arv.set Ar q S N Hs Gs hft W' i hi hlt))
theorem gPrivate (X : Stand p l e R s m args below meth c T locs cells slots) (H : p.tables.exec = Jvm.exec ∧ c.code = bs) (hZ : Z.Warmed39 s.vm) {own : String} {index : Nat} (hown : s.vm.findClass own = some m.cls) {y : MethodName} {bytes : ByteArray} {maxL : Nat} {ret : Option FieldType} {rm : Room} {as : Array Value} {Q : Option Value → Heap → List Loc → Prop} {W maxO : Nat} {argsL rest : List Value} {ps : List FieldType} {r : Option FieldType} (wl : (Cond.methodLink own index y).before a0 Z = true) (wi : (Cond.instanceMethod y).before a0 Z = true) (wp : (Cond.privateMethod y).before a0 Z = true) {kk : Nat} (wk : (Cond.instantiable y.cls kk).before a0 Z = true) (hy : y.cls ≠ "java/lang/invoke/MethodHandle" ∧ y.cls ≠ "java/lang/invoke/VarHandle") {b : Addr} {C : String} (E : Exa Z h b C) (wc : (Cond.code y bytes maxL ret).before a0 Z = true) (wz : (Cond.initialized (y).cls).before a0 Z = true) (M : Con l Z y bytes maxL ret rm as h Q) (eT : T.heap = h) (hml : c.maxLocals = maxO) (hs : Ls.size = maxO) (hpd : parseMethodDescriptor y.desc = some ⟨ps, r⟩) (hlen : argsL.length = ps.length) (hstack : st = argsL.reverse ++ .ref b :: rest) (has : (.ref b :: argsL).toArray = as) (hd : decode bs pc = .ok (.invokevirtual index, 3)) (pc' : Nat) (hp : pc + 3 = pc')
    (g : ∀ v T' L, Q v T'.heap L → Stand p l e R s m args below meth c T' (locs ++ L) (cells + rm.cells) (slots + rm.slots) → Go p e below K (T'.setTop (mkF m pc' Ls (v.toList ++ rest)))) (hW : (rest.map fun v => v.category).sum ≤ W := by exact Nat.le_of_eq rfl) (hf : rm.frames + 1 ≤ R.frames := by decide) (hl : W + (maxL + 11) + rm.locals ≤ R.locals := by decide) (hc : cells + rm.cells ≤ R.cells := by decide) (hsl : slots + rm.slots ≤ R.slots := by decide) : Go p e below K (T.setTop (mkF m pc Ls (st))) := by
  subst hp has
  obtain ⟨cq, q1, q2⟩ := E.cell
  obtain ⟨v, _, ⟨T', L', k', n'⟩, -, X', ⟨L, hQ, l', y', z'⟩, k⟩ := X.privateBack H.1 (y := y) hown (mvT hZ wl) (mvT hZ wi) (mvT hZ (selPriv wp wi wk hy)) (Cond.privateMethod_at (mvP hZ wp (args := #[]))) (mvT hZ wc) hy (backOf (W := W) (M []) hZ wc wz hf hl) (g := mkF m pc Ls st) rfl (hs.trans hml.symm) (Steps.refl _) (a := b) (by rw [eT]; exact q1) q2 (argsL := argsL) (rest := rest) (lenOf hpd hlen) hstack (by show 2 * 0 + _ ≤ _; omega) (hb H.2 hd) (fun _ _ => ⟨rfl, eT, hc, hsl⟩)
  dsimp only [Pt.U, Pt.locs, Pt.cells, Pt.slots] at X' l' y' z' k hQ
  subst l' y' z'
  exact Go.via (fun t q => k.trans q) (g v T' L hQ X')
theorem gCopy (X : Stand p l e R s m args below meth c T locs cells slots) (H : p.tables.exec = Jvm.exec ∧ c.code = bs) (hZ : Z.Warmed39 s.vm) {own : String} {index : Nat} (hown : s.vm.findClass own = some m.cls) (w1 : (Cond.methodLink own index Jvm.Stand.acN).before a0 Z = true) (w2 : (Cond.native Jvm.Stand.acN).before a0 Z = true) (w3 : (Cond.static Jvm.Stand.acN).before a0 Z = true) (w4 : (Cond.initialized "java/lang/System").before a0 Z = true) (eT : T.heap = h) {a b : Addr} {k k' : ClassId} {ty ty' : FieldType} {z z' sp dp nn : Int32} {vs vd us vd' : List Value} {dv dd : Value} (A : Arv Z h a k ty z vs dv) (B : Arv Z h b k' ty' z' vd dd) (hty : (ty = ty' ∧ refKind ty = false) ∨ (refKind ty = true ∧ refKind ty' = true ∧ StoL Z h b us)) (h1 : ¬ sp < 0) (h2 : ¬ dp < 0) (h3 : ¬ nn < 0) (h4 : sp.toNatClampNeg + nn.toNatClampNeg ≤ z.toNatClampNeg) (h5 : dp.toNatClampNeg + nn.toNatClampNeg ≤ z'.toNatClampNeg) (hus : us = (List.range nn.toNatClampNeg).map fun i => vs.getD (sp.toNatClampNeg + i) dv) (hll : dp.toNatClampNeg + nn.toNatClampNeg ≤ vd.length) {n0 : Nat} (N : Fr n0 locs) (ge : n0 ≤ b) {V maxO : Nat} (hml : c.maxLocals = maxO) (hs : Ls.size = maxO) (hf : 1 ≤ R.frames) (hW : (st.map fun v => v.category).sum ≤ V) (hlo : V + (nativeFrameWords "java/lang/System" "arraycopy" 5 + 11) ≤ R.locals) (hvd : vd.take dp.toNatClampNeg ++ us ++ vd.drop (dp.toNatClampNeg + nn.toNatClampNeg) = vd') (hd : decode bs pc = .ok (.invokestatic index, 3)) (pc' : Nat) (hp : pc + 3 = pc')
    (g : ∀ T' h' L, Stand p l e R s m args below meth c T' L cells slots → T'.heap = h' → Fr n0 L → Keep h h' [b] → Arv Z h' b k' ty' z' vd' dd → Go p e below K (T'.setTop (mkF m pc' Ls st))) : Go p e below K (T.setTop (mkF m pc Ls (.int nn :: .int dp :: .ref b :: .int sp :: .ref a :: st))) := by
  subst hp hvd
  obtain ⟨T', h', L, X', e', N', K', V', q⟩ := cpA X H.1 hZ hown w1 w2 w3 w4 eT A B hty h1 h2 h3 h4 h5 hus hll N ge (g := mkF m pc Ls (.int nn :: .int dp :: .ref b :: .int sp :: .ref a :: st)) rfl (hs.trans hml.symm) rfl (hb H.2 hd) hf (W := V) (by show 2 * 0 + _ ≤ _; omega) hlo
  exact Go.via q (g T' h' L X' e' N' K' V')
theorem gDupX1 (X : Stand p l e R s m args below meth c T locs cells slots) (H : p.tables.exec = Jvm.exec ∧ c.code = bs) {v w : Value} (hd : decode bs pc = .ok (.dup_x1, 1)) (hc : v.category = 1) (hc' : w.category = 1) (pc' : Nat) (hp : pc + 1 = pc') (g : Go p e below K (T.setTop (mkF m pc' Ls (v :: w :: v :: st)))) : Go p e below K (T.setTop (mkF m pc Ls (v :: w :: st))) := by
  subst hp
  exact Go.via (fun t k => XS.dupX1 (g := mkF m pc Ls (v :: w :: st)) X.here H.1 rfl (hb H.2 hd) rfl hc hc' k) g
theorem gInterface (X : Stand p l e R s m args below meth c T locs cells slots) (H : p.tables.exec = Jvm.exec ∧ c.code = bs) (hZ : Z.Warmed39 s.vm) {own : String} {index : Nat} (hown : s.vm.findClass own = some m.cls) {C : String} {y z : MethodName} {count : Nat} {bytes : ByteArray} {maxL : Nat} {ret : Option FieldType} {rm : Room} {as : Array Value} {Q : Option Value → Heap → List Loc → Prop} {W maxO : Nat} {argsL rest : List Value} {ps : List FieldType} {r : Option FieldType} (wl : (Cond.methodLink own index y).before a0 Z = true) (wd : (Cond.declares y).before a0 Z = true) (wf : (Cond.interfaceMethod y.cls y.cls y.name y.desc).before args s = true) (wse : (Cond.selects C y z).before a0 Z = true) (wi : (Cond.instanceMethod z).before a0 Z = true) (wpu : (Cond.publicMethod z).before a0 Z = true) (wun : (Cond.unhidden C y.name y.desc).before a0 Z = true) (wca : (Cond.castable C y.cls).before a0 Z = true) (hy : y.cls ≠ "java/lang/invoke/MethodHandle" ∧ y.cls ≠ "java/lang/invoke/VarHandle") {b : Addr} (E : Exa Z h b C) (wc : (Cond.code z bytes maxL ret).before a0 Z = true) (wz : (Cond.initialized (z).cls).before a0 Z = true) (M : Con l Z z bytes maxL ret rm as h Q) (eT : T.heap = h) (hml : c.maxLocals = maxO) (hs : Ls.size = maxO) (hpd : parseMethodDescriptor y.desc = some ⟨ps, r⟩) (hlen : argsL.length = ps.length) (hstack : st = argsL.reverse ++ .ref b :: rest) (has : (.ref b :: argsL).toArray = as) (hd : decode bs pc = .ok (.invokeinterface index count, 5)) (pc' : Nat) (hp : pc + 5 = pc')
    (g : ∀ v T' L, Q v T'.heap L → Stand p l e R s m args below meth c T' (locs ++ L) (cells + rm.cells) (slots + rm.slots) → Go p e below K (T'.setTop (mkF m pc' Ls (v.toList ++ rest)))) (hW : (rest.map fun v => v.category).sum ≤ W := by exact Nat.le_of_eq rfl) (hf : rm.frames + 1 ≤ R.frames := by decide) (hl : W + (maxL + 11) + rm.locals ≤ R.locals := by decide) (hc : cells + rm.cells ≤ R.cells := by decide) (hsl : slots + rm.slots ≤ R.slots := by decide) : Go p e below K (T.setTop (mkF m pc Ls (st))) := by
  subst hp has
  obtain ⟨cB, kB, q1, q2, q3⟩ := isOf hZ eT E
  obtain ⟨v, _, ⟨T', L', k', n'⟩, -, X', ⟨L, hQ, l', y', z'⟩, k⟩ := X.interfaceBack H.1 (xi := y) (y := z) hown (mvT hZ wl) (mvT hZ wd) wf (mvT hZ wse) (mvT hZ wi) (mvT hZ wpu) (mvT hZ wun) (mvT hZ wca) hy (backOf (W := W) (M []) hZ wc wz hf hl) q1 q2 q3 (g := mkF m pc Ls st) rfl (hs.trans hml.symm) (Steps.refl _) (argsL := argsL) (rest := rest) (lenOf hpd hlen) hstack (by show 2 * 0 + _ ≤ _; omega) (hb H.2 hd) (fun _ _ => ⟨rfl, eT, hc, hsl⟩)
  dsimp only [Pt.U, Pt.locs, Pt.cells, Pt.slots] at X' l' y' z' k hQ
  subst l' y' z'
  exact Go.via (fun t q => k.trans q) (g v T' L hQ X')
theorem gVirt (X : Stand p l e R s m args below meth c T locs cells slots) (H : p.tables.exec = Jvm.exec ∧ c.code = bs) (hZ : Z.Warmed39 s.vm) {own : String} {index : Nat} (hown : s.vm.findClass own = some m.cls) {C : String} {y : MethodName} {bytes : ByteArray} {maxL : Nat} {ret : Option FieldType} {rm : Room} {as : Array Value} {Q : Option Value → Heap → List Loc → Prop} {W maxO : Nat} {argsL rest : List Value} {ps : List FieldType} {r : Option FieldType} (wl : (Cond.methodLink own index y).before a0 Z = true) (wd : (Cond.declares y).before a0 Z = true) (wse : (Cond.selects C y y).before a0 Z = true) (wi : (Cond.instanceMethod y).before a0 Z = true) (hy : y.cls ≠ "java/lang/invoke/MethodHandle" ∧ y.cls ≠ "java/lang/invoke/VarHandle") {b : Addr} (E : Exa Z h b C) (wc : (Cond.code y bytes maxL ret).before a0 Z = true) (wz : (Cond.initialized (y).cls).before a0 Z = true) (M : Con l Z y bytes maxL ret rm as h Q) (eT : T.heap = h) (hml : c.maxLocals = maxO) (hs : Ls.size = maxO) (hpd : parseMethodDescriptor y.desc = some ⟨ps, r⟩) (hlen : argsL.length = ps.length) (hstack : st = argsL.reverse ++ .ref b :: rest) (has : (.ref b :: argsL).toArray = as) (hd : decode bs pc = .ok (.invokevirtual index, 3)) (pc' : Nat) (hp : pc + 3 = pc')
    (g : ∀ v T' L, Q v T'.heap L → Stand p l e R s m args below meth c T' (locs ++ L) (cells + rm.cells) (slots + rm.slots) → Go p e below K (T'.setTop (mkF m pc' Ls (v.toList ++ rest)))) (hW : (rest.map fun v => v.category).sum ≤ W := by exact Nat.le_of_eq rfl) (hf : rm.frames + 1 ≤ R.frames := by decide) (hl : W + (maxL + 11) + rm.locals ≤ R.locals := by decide) (hc : cells + rm.cells ≤ R.cells := by decide) (hsl : slots + rm.slots ≤ R.slots := by decide) : Go p e below K (T.setTop (mkF m pc Ls (st))) := by
  subst hp has
  obtain ⟨cB, kB, q1, q2, q3⟩ := isOf hZ eT E
  obtain ⟨v, _, ⟨T', L', k', n'⟩, -, X', ⟨L, hQ, l', y', z'⟩, k⟩ := X.virtualBack H.1 (y := y) (z := y) hown (mvT hZ wl) (mvT hZ wd) (notFace_of_selects (args := #[]) (mvT hZ wse)) (mvT hZ wse) (mvT hZ wi) hy (backOf (W := W) (M []) hZ wc wz hf hl) q1 q3 (g := mkF m pc Ls st) rfl (hs.trans hml.symm) (Steps.refl _) (argsL := argsL) (rest := rest) (lenOf hpd hlen) hstack (by show 2 * 0 + _ ≤ _; omega) (hb H.2 hd) (fun _ _ => ⟨rfl, eT, hc, hsl⟩)
  dsimp only [Pt.U, Pt.locs, Pt.cells, Pt.slots] at X' l' y' z' k hQ
  subst l' y' z'
  exact Go.via (fun t q => k.trans q) (g v T' L hQ X')
theorem gBoxload (X : Stand p l e R s m args below meth c T locs cells slots) (H : p.tables.exec = Jvm.exec ∧ c.code = bs) (hZ : Z.Warmed39 s.vm) (eT : T.heap = h) {a b : Addr} {cl : Cell} {ty : FieldType} {j : Int32} (hty : ty.isReference = true) (A : Arr Z h a cl ty) (hin : ¬ (j < 0 ∨ cl.slots.size ≤ j.toNatClampNeg)) (hv : cl.slots[j.toNatClampNeg]? = some (.ref b)) (hd : decode bs pc = .ok (.aaload, 1)) (pc' : Nat) (hp : pc + 1 = pc') (g : Go p e below K (T.setTop (mkF m pc' Ls (.ref b :: st)))) : Go p e below K (T.setTop (mkF m pc Ls (.int j :: .ref a :: st))) := by
  subst hp
  exact Go.via (X.aaload H.1 (j := j) (v := .ref b) (by rw [eT]; exact A.1) (State.isArrayOf_alike hZ.alike A.2.1) hty A.2.2 hin hv (g := mkF m pc Ls (.int j :: .ref a :: st)) rfl rfl (hb H.2 hd)) g
end Steps
def wd0 := List.mem_of_getElem? (l := tables_1) (i := 0) rfl
def wd1 := List.mem_of_getElem? (l := tables_1) (i := 1) rfl
def wd2 := List.mem_of_getElem? (l := tables_1) (i := 2) rfl
def wd3 := List.mem_of_getElem? (l := tables_1) (i := 3) rfl
def wd4 := List.mem_of_getElem? (l := tables_1) (i := 4) rfl
def wd5 := List.mem_of_getElem? (l := tables_1) (i := 5) rfl
def wd6 := List.mem_of_getElem? (l := tables_1) (i := 6) rfl
def wd7 := List.mem_of_getElem? (l := tables_1) (i := 7) rfl
def wd10 := List.mem_of_getElem? (l := tables_1) (i := 10) rfl
def wd11 := List.mem_of_getElem? (l := tables_1) (i := 11) rfl
def wd12 := List.mem_of_getElem? (l := tables_1) (i := 12) rfl
def wd13 := List.mem_of_getElem? (l := tables_1) (i := 13) rfl
def wd16 := List.mem_of_getElem? (l := tables_1) (i := 16) rfl
def wd17 := List.mem_of_getElem? (l := tables_1) (i := 17) rfl
def wd18 := List.mem_of_getElem? (l := tables_1) (i := 18) rfl
def wd19 := List.mem_of_getElem? (l := tables_1) (i := 19) rfl
def wd20 := List.mem_of_getElem? (l := tables_1) (i := 20) rfl
def wd21 := List.mem_of_getElem? (l := tables_1) (i := 21) rfl
def wd22 := List.mem_of_getElem? (l := tables_1) (i := 22) rfl
def wd23 := List.mem_of_getElem? (l := tables_1) (i := 23) rfl
def wd24 := List.mem_of_getElem? (l := tables_1) (i := 24) rfl
def wd25 := List.mem_of_getElem? (l := tables_1) (i := 25) rfl
def wd26 := List.mem_of_getElem? (l := tables_1) (i := 26) rfl
def wd27 := List.mem_of_getElem? (l := tables_1) (i := 27) rfl
def wd28 := List.mem_of_getElem? (l := tables_1) (i := 28) rfl
def wd29 := List.mem_of_getElem? (l := tables_1) (i := 29) rfl
def wd30 := List.mem_of_getElem? (l := tables_1) (i := 30) rfl
def wd31 := List.mem_of_getElem? (l := tables_1) (i := 31) rfl
def wd32 := List.mem_of_getElem? (l := tables_1) (i := 32) rfl
def wd33 := List.mem_of_getElem? (l := tables_1) (i := 33) rfl
def wd34 := List.mem_of_getElem? (l := tables_1) (i := 34) rfl
def wd35 := List.mem_of_getElem? (l := tables_1) (i := 35) rfl
def wd36 := List.mem_of_getElem? (l := tables_1) (i := 36) rfl
def wd37 := List.mem_of_getElem? (l := tables_1) (i := 37) rfl
def wd38 := List.mem_of_getElem? (l := tables_1) (i := 38) rfl
def wd39 := List.mem_of_getElem? (l := tables_1) (i := 39) rfl
def wd40 := List.mem_of_getElem? (l := tables_1) (i := 40) rfl
def wd41 := List.mem_of_getElem? (l := tables_1) (i := 41) rfl
def wd42 := List.mem_of_getElem? (l := tables_1) (i := 42) rfl
def wd43 := List.mem_of_getElem? (l := tables_1) (i := 43) rfl
def wd44 := List.mem_of_getElem? (l := tables_1) (i := 44) rfl
def wd46 := List.mem_of_getElem? (l := tables_1) (i := 46) rfl
def wd47 := List.mem_of_getElem? (l := tables_1) (i := 47) rfl
def wd48 := List.mem_of_getElem? (l := tables_1) (i := 48) rfl
def wd49 := List.mem_of_getElem? (l := tables_1) (i := 49) rfl
def wd51 := List.mem_of_getElem? (l := tables_1) (i := 51) rfl
def wd52 := List.mem_of_getElem? (l := tables_1) (i := 52) rfl
def wd53 := List.mem_of_getElem? (l := tables_1) (i := 53) rfl
def wd54 := List.mem_of_getElem? (l := tables_1) (i := 54) rfl
def wd56 := List.mem_of_getElem? (l := tables_1) (i := 56) rfl
def wd57 := List.mem_of_getElem? (l := tables_1) (i := 57) rfl
def wd58 := List.mem_of_getElem? (l := tables_1) (i := 58) rfl
def wd59 := List.mem_of_getElem? (l := tables_1) (i := 59) rfl
def wd60 := List.mem_of_getElem? (l := tables_1) (i := 60) rfl
def wd61 := List.mem_of_getElem? (l := tables_1) (i := 61) rfl
def wd62 := List.mem_of_getElem? (l := tables_1) (i := 62) rfl
def wd63 := List.mem_of_getElem? (l := tables_1) (i := 63) rfl
def wd64 := List.mem_of_getElem? (l := tables_1) (i := 64) rfl
def wd65 := List.mem_of_getElem? (l := tables_1) (i := 65) rfl
def wd66 := List.mem_of_getElem? (l := tables_1) (i := 66) rfl
def wd67 := List.mem_of_getElem? (l := tables_1) (i := 67) rfl
def wd68 := List.mem_of_getElem? (l := tables_1) (i := 68) rfl
def wd69 := List.mem_of_getElem? (l := tables_1) (i := 69) rfl
def wd70 := List.mem_of_getElem? (l := tables_1) (i := 70) rfl
def wd71 := List.mem_of_getElem? (l := tables_1) (i := 71) rfl
def wd72 := List.mem_of_getElem? (l := tables_1) (i := 72) rfl
def wd73 := List.mem_of_getElem? (l := tables_1) (i := 73) rfl
def wd74 := List.mem_of_getElem? (l := tables_1) (i := 74) rfl
def wd75 := List.mem_of_getElem? (l := tables_1) (i := 75) rfl
def wd76 := List.mem_of_getElem? (l := tables_1) (i := 76) rfl
def wd77 := List.mem_of_getElem? (l := tables_1) (i := 77) rfl
def wd78 := List.mem_of_getElem? (l := tables_1) (i := 78) rfl
def wd79 := List.mem_of_getElem? (l := tables_1) (i := 79) rfl
def wd80 := List.mem_of_getElem? (l := tables_1) (i := 80) rfl
def wd81 := List.mem_of_getElem? (l := tables_1) (i := 81) rfl
def wd82 := List.mem_of_getElem? (l := tables_1) (i := 82) rfl
def wd83 := List.mem_of_getElem? (l := tables_1) (i := 83) rfl
def wd84 := List.mem_of_getElem? (l := tables_1) (i := 84) rfl
def wd85 := List.mem_of_getElem? (l := tables_1) (i := 85) rfl
def wd86 := List.mem_of_getElem? (l := tables_1) (i := 86) rfl
def wd87 := List.mem_of_getElem? (l := tables_1) (i := 87) rfl
def wd88 := List.mem_of_getElem? (l := tables_1) (i := 88) rfl
def wd89 := List.mem_of_getElem? (l := tables_1) (i := 89) rfl
def wd90 := List.mem_of_getElem? (l := tables_1) (i := 90) rfl
def wd91 := List.mem_of_getElem? (l := tables_1) (i := 91) rfl
def wd92 := List.mem_of_getElem? (l := tables_1) (i := 92) rfl
def wd93 := List.mem_of_getElem? (l := tables_1) (i := 93) rfl
def wd94 := List.mem_of_getElem? (l := tables_1) (i := 94) rfl
def wd95 := List.mem_of_getElem? (l := tables_1) (i := 95) rfl
def wd96 := List.mem_of_getElem? (l := tables_1) (i := 96) rfl
def wd97 := List.mem_of_getElem? (l := tables_1) (i := 97) rfl
def wd98 := List.mem_of_getElem? (l := tables_1) (i := 98) rfl
def wd99 := List.mem_of_getElem? (l := tables_1) (i := 99) rfl
def wd100 := List.mem_of_getElem? (l := tables_1) (i := 100) rfl
def wd101 := List.mem_of_getElem? (l := tables_1) (i := 101) rfl
def wd102 := List.mem_of_getElem? (l := tables_1) (i := 102) rfl
def wd103 := List.mem_of_getElem? (l := tables_1) (i := 103) rfl
def wd104 := List.mem_of_getElem? (l := tables_1) (i := 104) rfl
def wd105 := List.mem_of_getElem? (l := tables_1) (i := 105) rfl
def wd106 := List.mem_of_getElem? (l := tables_1) (i := 106) rfl
def wd107 := List.mem_of_getElem? (l := tables_1) (i := 107) rfl
def wd108 := List.mem_of_getElem? (l := tables_1) (i := 108) rfl
def wd109 := List.mem_of_getElem? (l := tables_1) (i := 109) rfl
def wd110 := List.mem_of_getElem? (l := tables_1) (i := 110) rfl
def wd111 := List.mem_of_getElem? (l := tables_1) (i := 111) rfl
def wd112 := List.mem_of_getElem? (l := tables_1) (i := 112) rfl
def wd113 := List.mem_of_getElem? (l := tables_1) (i := 113) rfl
def wd114 := List.mem_of_getElem? (l := tables_1) (i := 114) rfl
def wd115 := List.mem_of_getElem? (l := tables_1) (i := 115) rfl
def wd116 := List.mem_of_getElem? (l := tables_1) (i := 116) rfl
def wd117 := List.mem_of_getElem? (l := tables_1) (i := 117) rfl
def wd118 := List.mem_of_getElem? (l := tables_1) (i := 118) rfl
def wd119 := List.mem_of_getElem? (l := tables_1) (i := 119) rfl
def wd120 := List.mem_of_getElem? (l := tables_1) (i := 120) rfl
def wd121 := List.mem_of_getElem? (l := tables_1) (i := 121) rfl
def wd122 := List.mem_of_getElem? (l := tables_1) (i := 122) rfl
def wd123 := List.mem_of_getElem? (l := tables_1) (i := 123) rfl
def wd124 := List.mem_of_getElem? (l := tables_1) (i := 124) rfl
def wd125 := List.mem_of_getElem? (l := tables_1) (i := 125) rfl
def wd126 := List.mem_of_getElem? (l := tables_1) (i := 126) rfl
def wd127 := List.mem_of_getElem? (l := tables_1) (i := 127) rfl
def wd128 := List.mem_of_getElem? (l := tables_1) (i := 128) rfl
def wd129 := List.mem_of_getElem? (l := tables_1) (i := 129) rfl
def wd130 := List.mem_of_getElem? (l := tables_1) (i := 130) rfl
def wd131 := List.mem_of_getElem? (l := tables_1) (i := 131) rfl
def wd132 := List.mem_of_getElem? (l := tables_1) (i := 132) rfl
def wd133 := List.mem_of_getElem? (l := tables_1) (i := 133) rfl
def wd134 := List.mem_of_getElem? (l := tables_1) (i := 134) rfl
def wd135 := List.mem_of_getElem? (l := tables_1) (i := 135) rfl
def wd136 := List.mem_of_getElem? (l := tables_1) (i := 136) rfl
def wd137 := List.mem_of_getElem? (l := tables_1) (i := 137) rfl
def wd138 := List.mem_of_getElem? (l := tables_1) (i := 138) rfl
def wd139 := List.mem_of_getElem? (l := tables_1) (i := 139) rfl
def wd140 := List.mem_of_getElem? (l := tables_1) (i := 140) rfl
def wd141 := List.mem_of_getElem? (l := tables_1) (i := 141) rfl
def wd142 := List.mem_of_getElem? (l := tables_1) (i := 142) rfl
def wd143 := List.mem_of_getElem? (l := tables_1) (i := 143) rfl
def wd144 := List.mem_of_getElem? (l := tables_1) (i := 144) rfl
def wd145 := List.mem_of_getElem? (l := tables_1) (i := 145) rfl
def wd146 := List.mem_of_getElem? (l := tables_1) (i := 146) rfl
def wd147 := List.mem_of_getElem? (l := tables_1) (i := 147) rfl
def wd148 := List.mem_of_getElem? (l := tables_1) (i := 148) rfl
def wd149 := List.mem_of_getElem? (l := tables_1) (i := 149) rfl
def wd150 := List.mem_of_getElem? (l := tables_1) (i := 150) rfl
def wd151 := List.mem_of_getElem? (l := tables_1) (i := 151) rfl
def wd152 := List.mem_of_getElem? (l := tables_1) (i := 152) rfl
theorem d1_0 : decode jdk_38_method_2_code 0 = .ok (.aload_n 0, 1) := by decide +kernel
theorem d1_1 : decode jdk_38_method_2_code 1 = .ok (.invokespecial 1, 3) := by decide +kernel
theorem d1_4 : decode jdk_38_method_2_code 4 = .ok (.aload_n 0, 1) := by decide +kernel
theorem d1_5 : decode jdk_38_method_2_code 5 = .ok (.getstatic 39, 3) := by decide +kernel
theorem d1_8 : decode jdk_38_method_2_code 8 = .ok (.putfield 9, 3) := by decide +kernel
theorem d1_11 : decode jdk_38_method_2_code 11 = .ok (.return_, 1) := by decide +kernel
theorem d2_0 : decode jdk_39_method_1_code 0 = .ok (.aload_n 0, 1) := by decide +kernel
theorem d2_1 : decode jdk_39_method_1_code 1 = .ok (.invokespecial 1, 3) := by decide +kernel
theorem d2_4 : decode jdk_39_method_1_code 4 = .ok (.aload_n 0, 1) := by decide +kernel
theorem d2_5 : decode jdk_39_method_1_code 5 = .ok (.iconst 0, 1) := by decide +kernel
theorem d2_6 : decode jdk_39_method_1_code 6 = .ok (.putfield 7, 3) := by decide +kernel
theorem d2_9 : decode jdk_39_method_1_code 9 = .ok (.return_, 1) := by decide +kernel
theorem d3_0 : decode jdk_22_method_1_code 0 = .ok (.aload_n 0, 1) := by decide +kernel
theorem d3_1 : decode jdk_22_method_1_code 1 = .ok (.invokespecial 1, 3) := by decide +kernel
theorem d3_4 : decode jdk_22_method_1_code 4 = .ok (.return_, 1) := by decide +kernel
theorem d5_0 : decode jdk_33_method_22_code 0 = .ok (.iload_n 0, 1) := by decide +kernel
theorem d5_1 : decode jdk_33_method_22_code 1 = .ok (.bipush (-128), 2) := by decide +kernel
theorem d5_3 : decode jdk_33_method_22_code 3 = .ok (.if_icmp .lt 20, 3) := by decide +kernel
theorem d5_6 : decode jdk_33_method_22_code 6 = .ok (.iload_n 0, 1) := by decide +kernel
theorem d5_7 : decode jdk_33_method_22_code 7 = .ok (.getstatic 191, 3) := by decide +kernel
theorem d5_10 : decode jdk_33_method_22_code 10 = .ok (.if_icmp .gt 13, 3) := by decide +kernel
theorem d5_13 : decode jdk_33_method_22_code 13 = .ok (.getstatic 195, 3) := by decide +kernel
theorem d5_16 : decode jdk_33_method_22_code 16 = .ok (.iload_n 0, 1) := by decide +kernel
theorem d5_17 : decode jdk_33_method_22_code 17 = .ok (.sipush 128, 3) := by decide +kernel
theorem d5_20 : decode jdk_33_method_22_code 20 = .ok (.iadd, 1) := by decide +kernel
theorem d5_21 : decode jdk_33_method_22_code 21 = .ok (.aaload, 1) := by decide +kernel
theorem d5_22 : decode jdk_33_method_22_code 22 = .ok (.areturn, 1) := by decide +kernel
theorem d6_0 : decode jdk_38_method_25_code 0 = .ok (.aload_n 0, 1) := by decide +kernel
theorem d6_1 : decode jdk_38_method_25_code 1 = .ok (.dup, 1) := by decide +kernel
theorem d6_2 : decode jdk_38_method_25_code 2 = .ok (.getfield 63, 3) := by decide +kernel
theorem d6_5 : decode jdk_38_method_25_code 5 = .ok (.iconst 1, 1) := by decide +kernel
theorem d6_6 : decode jdk_38_method_25_code 6 = .ok (.iadd, 1) := by decide +kernel
theorem d6_7 : decode jdk_38_method_25_code 7 = .ok (.putfield 63, 3) := by decide +kernel
theorem d6_10 : decode jdk_38_method_25_code 10 = .ok (.aload_n 0, 1) := by decide +kernel
theorem d6_11 : decode jdk_38_method_25_code 11 = .ok (.aload_n 1, 1) := by decide +kernel
theorem d6_12 : decode jdk_38_method_25_code 12 = .ok (.aload_n 0, 1) := by decide +kernel
theorem d6_13 : decode jdk_38_method_25_code 13 = .ok (.getfield 9, 3) := by decide +kernel
theorem d6_16 : decode jdk_38_method_25_code 16 = .ok (.aload_n 0, 1) := by decide +kernel
theorem d6_17 : decode jdk_38_method_25_code 17 = .ok (.getfield 48, 3) := by decide +kernel
theorem d6_20 : decode jdk_38_method_25_code 20 = .ok (.invokevirtual 131, 3) := by decide +kernel
theorem d6_23 : decode jdk_38_method_25_code 23 = .ok (.iconst 1, 1) := by decide +kernel
theorem d6_24 : decode jdk_38_method_25_code 24 = .ok (.ireturn, 1) := by decide +kernel
theorem d7_0 : decode jdk_38_method_24_code 0 = .ok (.iload_n 3, 1) := by decide +kernel
theorem d7_1 : decode jdk_38_method_24_code 1 = .ok (.aload_n 2, 1) := by decide +kernel
theorem d7_2 : decode jdk_38_method_24_code 2 = .ok (.arraylength, 1) := by decide +kernel
theorem d7_3 : decode jdk_38_method_24_code 3 = .ok (.if_icmp .ne 8, 3) := by decide +kernel
theorem d7_6 : decode jdk_38_method_24_code 6 = .ok (.aload_n 0, 1) := by decide +kernel
theorem d7_7 : decode jdk_38_method_24_code 7 = .ok (.invokevirtual 129, 3) := by decide +kernel
theorem d7_10 : decode jdk_38_method_24_code 10 = .ok (.astore_n 2, 1) := by decide +kernel
theorem d7_11 : decode jdk_38_method_24_code 11 = .ok (.aload_n 2, 1) := by decide +kernel
theorem d7_12 : decode jdk_38_method_24_code 12 = .ok (.iload_n 3, 1) := by decide +kernel
theorem d7_13 : decode jdk_38_method_24_code 13 = .ok (.aload_n 1, 1) := by decide +kernel
theorem d7_14 : decode jdk_38_method_24_code 14 = .ok (.aastore, 1) := by decide +kernel
theorem d7_15 : decode jdk_38_method_24_code 15 = .ok (.aload_n 0, 1) := by decide +kernel
theorem d7_16 : decode jdk_38_method_24_code 16 = .ok (.iload_n 3, 1) := by decide +kernel
theorem d7_17 : decode jdk_38_method_24_code 17 = .ok (.iconst 1, 1) := by decide +kernel
theorem d7_18 : decode jdk_38_method_24_code 18 = .ok (.iadd, 1) := by decide +kernel
theorem d7_19 : decode jdk_38_method_24_code 19 = .ok (.putfield 48, 3) := by decide +kernel
theorem d7_22 : decode jdk_38_method_24_code 22 = .ok (.return_, 1) := by decide +kernel
theorem d8_0 : decode jdk_38_method_7_code 0 = .ok (.aload_n 0, 1) := by decide +kernel
theorem d8_1 : decode jdk_38_method_7_code 1 = .ok (.aload_n 0, 1) := by decide +kernel
theorem d8_2 : decode jdk_38_method_7_code 2 = .ok (.getfield 48, 3) := by decide +kernel
theorem d8_5 : decode jdk_38_method_7_code 5 = .ok (.iconst 1, 1) := by decide +kernel
theorem d8_6 : decode jdk_38_method_7_code 6 = .ok (.iadd, 1) := by decide +kernel
theorem d8_7 : decode jdk_38_method_7_code 7 = .ok (.invokevirtual 69, 3) := by decide +kernel
theorem d8_10 : decode jdk_38_method_7_code 10 = .ok (.areturn, 1) := by decide +kernel
theorem d9_0 : decode jdk_38_method_6_code 0 = .ok (.aload_n 0, 1) := by decide +kernel
theorem d9_1 : decode jdk_38_method_6_code 1 = .ok (.getfield 9, 3) := by decide +kernel
theorem d9_4 : decode jdk_38_method_6_code 4 = .ok (.arraylength, 1) := by decide +kernel
theorem d9_5 : decode jdk_38_method_6_code 5 = .ok (.istore_n 2, 1) := by decide +kernel
theorem d9_6 : decode jdk_38_method_6_code 6 = .ok (.iload_n 2, 1) := by decide +kernel
theorem d9_7 : decode jdk_38_method_6_code 7 = .ok (.ifCond .gt 13, 3) := by decide +kernel
theorem d9_10 : decode jdk_38_method_6_code 10 = .ok (.aload_n 0, 1) := by decide +kernel
theorem d9_11 : decode jdk_38_method_6_code 11 = .ok (.getfield 9, 3) := by decide +kernel
theorem d9_14 : decode jdk_38_method_6_code 14 = .ok (.getstatic 39, 3) := by decide +kernel
theorem d9_17 : decode jdk_38_method_6_code 17 = .ok (.if_acmp .eq 28, 3) := by decide +kernel
theorem d9_45 : decode jdk_38_method_6_code 45 = .ok (.aload_n 0, 1) := by decide +kernel
theorem d9_46 : decode jdk_38_method_6_code 46 = .ok (.bipush 10, 2) := by decide +kernel
theorem d9_48 : decode jdk_38_method_6_code 48 = .ok (.iload_n 1, 1) := by decide +kernel
theorem d9_49 : decode jdk_38_method_6_code 49 = .ok (.invokestatic 79, 3) := by decide +kernel
theorem d9_52 : decode jdk_38_method_6_code 52 = .ok (.anewarray 7, 3) := by decide +kernel
theorem d9_55 : decode jdk_38_method_6_code 55 = .ok (.dup_x1, 1) := by decide +kernel
theorem d9_56 : decode jdk_38_method_6_code 56 = .ok (.putfield 9, 3) := by decide +kernel
theorem d9_59 : decode jdk_38_method_6_code 59 = .ok (.areturn, 1) := by decide +kernel
theorem d10_0 : decode jdk_29_method_65_code 0 = .ok (.iload_n 0, 1) := by decide +kernel
theorem d10_1 : decode jdk_29_method_65_code 1 = .ok (.iload_n 1, 1) := by decide +kernel
theorem d10_2 : decode jdk_29_method_65_code 2 = .ok (.if_icmp .lt 7, 3) := by decide +kernel
theorem d10_5 : decode jdk_29_method_65_code 5 = .ok (.iload_n 0, 1) := by decide +kernel
theorem d10_6 : decode jdk_29_method_65_code 6 = .ok (.goto 4, 3) := by decide +kernel
theorem d10_9 : decode jdk_29_method_65_code 9 = .ok (.iload_n 1, 1) := by decide +kernel
theorem d10_10 : decode jdk_29_method_65_code 10 = .ok (.ireturn, 1) := by decide +kernel
theorem d11_0 : decode prog_50_method_1_code 0 = .ok (.aload_n 0, 1) := by decide +kernel
theorem d11_1 : decode prog_50_method_1_code 1 = .ok (.invokespecial 3, 3) := by decide +kernel
theorem d11_4 : decode prog_50_method_1_code 4 = .ok (.aload_n 0, 1) := by decide +kernel
theorem d11_5 : decode prog_50_method_1_code 5 = .ok (.iload_n 1, 1) := by decide +kernel
theorem d11_6 : decode prog_50_method_1_code 6 = .ok (.putfield 9, 3) := by decide +kernel
theorem d11_9 : decode prog_50_method_1_code 9 = .ok (.aload_n 0, 1) := by decide +kernel
theorem d11_10 : decode prog_50_method_1_code 10 = .ok (.aload_n 2, 1) := by decide +kernel
theorem d11_11 : decode prog_50_method_1_code 11 = .ok (.aload_n 2, 1) := by decide +kernel
theorem d11_12 : decode prog_50_method_1_code 12 = .ok (.invokeinterface 15 1, 5) := by decide +kernel
theorem d11_17 : decode prog_50_method_1_code 17 = .ok (.iconst 1, 1) := by decide +kernel
theorem d11_18 : decode prog_50_method_1_code 18 = .ok (.invokestatic 21, 3) := by decide +kernel
theorem d11_21 : decode prog_50_method_1_code 21 = .ok (.anewarray 4, 3) := by decide +kernel
theorem d11_24 : decode prog_50_method_1_code 24 = .ok (.invokeinterface 27 2, 5) := by decide +kernel
theorem d11_29 : decode prog_50_method_1_code 29 = .ok (.putfield 31, 3) := by decide +kernel
theorem d11_32 : decode prog_50_method_1_code 32 = .ok (.aload_n 0, 1) := by decide +kernel
theorem d11_33 : decode prog_50_method_1_code 33 = .ok (.aload_n 2, 1) := by decide +kernel
theorem d11_34 : decode prog_50_method_1_code 34 = .ok (.invokeinterface 15 1, 5) := by decide +kernel
theorem d11_39 : decode prog_50_method_1_code 39 = .ok (.putfield 35, 3) := by decide +kernel
theorem d11_42 : decode prog_50_method_1_code 42 = .ok (.return_, 1) := by decide +kernel
theorem d12_0 : decode jdk_38_method_8_code 0 = .ok (.aload_n 0, 1) := by decide +kernel
theorem d12_1 : decode jdk_38_method_8_code 1 = .ok (.getfield 48, 3) := by decide +kernel
theorem d12_4 : decode jdk_38_method_8_code 4 = .ok (.ireturn, 1) := by decide +kernel
theorem d13_0 : decode jdk_38_method_17_code 0 = .ok (.aload_n 1, 1) := by decide +kernel
theorem d13_1 : decode jdk_38_method_17_code 1 = .ok (.arraylength, 1) := by decide +kernel
theorem d13_2 : decode jdk_38_method_17_code 2 = .ok (.aload_n 0, 1) := by decide +kernel
theorem d13_3 : decode jdk_38_method_17_code 3 = .ok (.getfield 48, 3) := by decide +kernel
theorem d13_6 : decode jdk_38_method_17_code 6 = .ok (.if_icmp .ge 19, 3) := by decide +kernel
theorem d13_25 : decode jdk_38_method_17_code 25 = .ok (.aload_n 0, 1) := by decide +kernel
theorem d13_26 : decode jdk_38_method_17_code 26 = .ok (.getfield 9, 3) := by decide +kernel
theorem d13_29 : decode jdk_38_method_17_code 29 = .ok (.iconst 0, 1) := by decide +kernel
theorem d13_30 : decode jdk_38_method_17_code 30 = .ok (.aload_n 1, 1) := by decide +kernel
theorem d13_31 : decode jdk_38_method_17_code 31 = .ok (.iconst 0, 1) := by decide +kernel
theorem d13_32 : decode jdk_38_method_17_code 32 = .ok (.aload_n 0, 1) := by decide +kernel
theorem d13_33 : decode jdk_38_method_17_code 33 = .ok (.getfield 48, 3) := by decide +kernel
theorem d13_36 : decode jdk_38_method_17_code 36 = .ok (.invokestatic 112, 3) := by decide +kernel
theorem d13_39 : decode jdk_38_method_17_code 39 = .ok (.aload_n 1, 1) := by decide +kernel
theorem d13_40 : decode jdk_38_method_17_code 40 = .ok (.arraylength, 1) := by decide +kernel
theorem d13_41 : decode jdk_38_method_17_code 41 = .ok (.aload_n 0, 1) := by decide +kernel
theorem d13_42 : decode jdk_38_method_17_code 42 = .ok (.getfield 48, 3) := by decide +kernel
theorem d13_45 : decode jdk_38_method_17_code 45 = .ok (.if_icmp .le 10, 3) := by decide +kernel
theorem d13_48 : decode jdk_38_method_17_code 48 = .ok (.aload_n 1, 1) := by decide +kernel
theorem d13_49 : decode jdk_38_method_17_code 49 = .ok (.aload_n 0, 1) := by decide +kernel
theorem d13_50 : decode jdk_38_method_17_code 50 = .ok (.getfield 48, 3) := by decide +kernel
theorem d13_53 : decode jdk_38_method_17_code 53 = .ok (.aconst_null, 1) := by decide +kernel
theorem d13_54 : decode jdk_38_method_17_code 54 = .ok (.aastore, 1) := by decide +kernel
theorem d13_55 : decode jdk_38_method_17_code 55 = .ok (.aload_n 1, 1) := by decide +kernel
theorem d13_56 : decode jdk_38_method_17_code 56 = .ok (.areturn, 1) := by decide +kernel
theorem d14_0 : decode prog_50_method_7_code 0 = .ok (.lload_n 1, 1) := by decide +kernel
theorem d14_1 : decode prog_50_method_7_code 1 = .ok (.aload_n 0, 1) := by decide +kernel
theorem d14_2 : decode prog_50_method_7_code 2 = .ok (.getfield 41, 3) := by decide +kernel
theorem d14_5 : decode prog_50_method_7_code 5 = .ok (.lsub, 1) := by decide +kernel
theorem d14_6 : decode prog_50_method_7_code 6 = .ok (.lstore_n 3, 1) := by decide +kernel
theorem d14_7 : decode prog_50_method_7_code 7 = .ok (.lload_n 3, 1) := by decide +kernel
theorem d14_8 : decode prog_50_method_7_code 8 = .ok (.lconst 0, 1) := by decide +kernel
theorem d14_9 : decode prog_50_method_7_code 9 = .ok (.lcmp, 1) := by decide +kernel
theorem d14_10 : decode prog_50_method_7_code 10 = .ok (.ifCond .lt 18, 3) := by decide +kernel
theorem d14_13 : decode prog_50_method_7_code 13 = .ok (.lload_n 3, 1) := by decide +kernel
theorem d14_14 : decode prog_50_method_7_code 14 = .ok (.aload_n 0, 1) := by decide +kernel
theorem d14_15 : decode prog_50_method_7_code 15 = .ok (.getfield 35, 3) := by decide +kernel
theorem d14_18 : decode prog_50_method_7_code 18 = .ok (.i2l, 1) := by decide +kernel
theorem d14_19 : decode prog_50_method_7_code 19 = .ok (.lcmp, 1) := by decide +kernel
theorem d14_20 : decode prog_50_method_7_code 20 = .ok (.ifCond .ge 8, 3) := by decide +kernel
theorem d14_23 : decode prog_50_method_7_code 23 = .ok (.lload_n 3, 1) := by decide +kernel
theorem d14_24 : decode prog_50_method_7_code 24 = .ok (.l2i, 1) := by decide +kernel
theorem d14_25 : decode prog_50_method_7_code 25 = .ok (.goto 4, 3) := by decide +kernel
theorem d14_28 : decode prog_50_method_7_code 28 = .ok (.iconst (-1), 1) := by decide +kernel
theorem d14_29 : decode prog_50_method_7_code 29 = .ok (.ireturn, 1) := by decide +kernel
theorem d15_0 : decode method_2_code 0 = .ok (.iload_n 1, 1) := by decide +kernel
theorem d15_1 : decode method_2_code 1 = .ok (.ifCond .eq 11, 3) := by decide +kernel
theorem d15_4 : decode method_2_code 4 = .ok (.aload_n 0, 1) := by decide +kernel
theorem d15_5 : decode method_2_code 5 = .ok (.invokevirtual 7, 3) := by decide +kernel
theorem d15_8 : decode method_2_code 8 = .ok (.pop, 1) := by decide +kernel
theorem d15_9 : decode method_2_code 9 = .ok (.goto 12, 3) := by decide +kernel
theorem d15_12 : decode method_2_code 12 = .ok (.aload_n 0, 1) := by decide +kernel
theorem d15_13 : decode method_2_code 13 = .ok (.bipush 20, 2) := by decide +kernel
theorem d15_15 : decode method_2_code 15 = .ok (.invokestatic 13, 3) := by decide +kernel
theorem d15_18 : decode method_2_code 18 = .ok (.invokevirtual 19, 3) := by decide +kernel
theorem d15_21 : decode method_2_code 21 = .ok (.return_, 1) := by decide +kernel
theorem d16_0 : decode prog_50_method_10_code 0 = .ok (.aload_n 0, 1) := by decide +kernel
theorem d16_1 : decode prog_50_method_10_code 1 = .ok (.getfield 35, 3) := by decide +kernel
theorem d16_4 : decode prog_50_method_10_code 4 = .ok (.ifCond .ne 5, 3) := by decide +kernel
theorem d16_7 : decode prog_50_method_10_code 7 = .ok (.aconst_null, 1) := by decide +kernel
theorem d16_8 : decode prog_50_method_10_code 8 = .ok (.areturn, 1) := by decide +kernel
theorem d16_9 : decode prog_50_method_10_code 9 = .ok (.aload_n 0, 1) := by decide +kernel
theorem d16_10 : decode prog_50_method_10_code 10 = .ok (.iconst 0, 1) := by decide +kernel
theorem d16_11 : decode prog_50_method_10_code 11 = .ok (.invokevirtual 55, 3) := by decide +kernel
theorem d16_14 : decode prog_50_method_10_code 14 = .ok (.astore_n 1, 1) := by decide +kernel
theorem d16_15 : decode prog_50_method_10_code 15 = .ok (.aload_n 0, 1) := by decide +kernel
theorem d16_16 : decode prog_50_method_10_code 16 = .ok (.getfield 31, 3) := by decide +kernel
theorem d16_19 : decode prog_50_method_10_code 19 = .ok (.aload_n 0, 1) := by decide +kernel
theorem d16_20 : decode prog_50_method_10_code 20 = .ok (.getfield 52, 3) := by decide +kernel
theorem d16_23 : decode prog_50_method_10_code 23 = .ok (.aconst_null, 1) := by decide +kernel
theorem d16_24 : decode prog_50_method_10_code 24 = .ok (.aastore, 1) := by decide +kernel
theorem d16_25 : decode prog_50_method_10_code 25 = .ok (.aload_n 0, 1) := by decide +kernel
theorem d16_26 : decode prog_50_method_10_code 26 = .ok (.aload_n 0, 1) := by decide +kernel
theorem d16_27 : decode prog_50_method_10_code 27 = .ok (.iconst 1, 1) := by decide +kernel
theorem d16_28 : decode prog_50_method_10_code 28 = .ok (.invokevirtual 37, 3) := by decide +kernel
theorem d16_31 : decode prog_50_method_10_code 31 = .ok (.putfield 52, 3) := by decide +kernel
theorem d16_34 : decode prog_50_method_10_code 34 = .ok (.aload_n 0, 1) := by decide +kernel
theorem d16_35 : decode prog_50_method_10_code 35 = .ok (.dup, 1) := by decide +kernel
theorem d16_36 : decode prog_50_method_10_code 36 = .ok (.getfield 35, 3) := by decide +kernel
theorem d16_39 : decode prog_50_method_10_code 39 = .ok (.iconst 1, 1) := by decide +kernel
theorem d16_40 : decode prog_50_method_10_code 40 = .ok (.isub, 1) := by decide +kernel
theorem d16_41 : decode prog_50_method_10_code 41 = .ok (.putfield 35, 3) := by decide +kernel
theorem d16_44 : decode prog_50_method_10_code 44 = .ok (.aload_n 0, 1) := by decide +kernel
theorem d16_45 : decode prog_50_method_10_code 45 = .ok (.dup, 1) := by decide +kernel
theorem d16_46 : decode prog_50_method_10_code 46 = .ok (.getfield 41, 3) := by decide +kernel
theorem d16_49 : decode prog_50_method_10_code 49 = .ok (.lconst 1, 1) := by decide +kernel
theorem d16_50 : decode prog_50_method_10_code 50 = .ok (.ladd, 1) := by decide +kernel
theorem d16_51 : decode prog_50_method_10_code 51 = .ok (.putfield 41, 3) := by decide +kernel
theorem d16_54 : decode prog_50_method_10_code 54 = .ok (.aload_n 1, 1) := by decide +kernel
theorem d16_55 : decode prog_50_method_10_code 55 = .ok (.areturn, 1) := by decide +kernel
theorem d17_0 : decode prog_50_method_4_code 0 = .ok (.aload_n 0, 1) := by decide +kernel
theorem d17_1 : decode prog_50_method_4_code 1 = .ok (.getfield 31, 3) := by decide +kernel
theorem d17_4 : decode prog_50_method_4_code 4 = .ok (.aload_n 0, 1) := by decide +kernel
theorem d17_5 : decode prog_50_method_4_code 5 = .ok (.iload_n 1, 1) := by decide +kernel
theorem d17_6 : decode prog_50_method_4_code 6 = .ok (.invokevirtual 37, 3) := by decide +kernel
theorem d17_9 : decode prog_50_method_4_code 9 = .ok (.aaload, 1) := by decide +kernel
theorem d17_10 : decode prog_50_method_4_code 10 = .ok (.areturn, 1) := by decide +kernel
theorem d18_0 : decode prog_50_method_12_code 0 = .ok (.aload_n 0, 1) := by decide +kernel
theorem d18_1 : decode prog_50_method_12_code 1 = .ok (.getfield 52, 3) := by decide +kernel
theorem d18_4 : decode prog_50_method_12_code 4 = .ok (.iload_n 1, 1) := by decide +kernel
theorem d18_5 : decode prog_50_method_12_code 5 = .ok (.iadd, 1) := by decide +kernel
theorem d18_6 : decode prog_50_method_12_code 6 = .ok (.istore_n 2, 1) := by decide +kernel
theorem d18_7 : decode prog_50_method_12_code 7 = .ok (.iload_n 2, 1) := by decide +kernel
theorem d18_8 : decode prog_50_method_12_code 8 = .ok (.aload_n 0, 1) := by decide +kernel
theorem d18_9 : decode prog_50_method_12_code 9 = .ok (.getfield 31, 3) := by decide +kernel
theorem d18_12 : decode prog_50_method_12_code 12 = .ok (.arraylength, 1) := by decide +kernel
theorem d18_13 : decode prog_50_method_12_code 13 = .ok (.if_icmp .ge 7, 3) := by decide +kernel
theorem d18_16 : decode prog_50_method_12_code 16 = .ok (.iload_n 2, 1) := by decide +kernel
theorem d18_17 : decode prog_50_method_12_code 17 = .ok (.goto 10, 3) := by decide +kernel
theorem d18_20 : decode prog_50_method_12_code 20 = .ok (.iload_n 2, 1) := by decide +kernel
theorem d18_21 : decode prog_50_method_12_code 21 = .ok (.aload_n 0, 1) := by decide +kernel
theorem d18_22 : decode prog_50_method_12_code 22 = .ok (.getfield 31, 3) := by decide +kernel
theorem d18_25 : decode prog_50_method_12_code 25 = .ok (.arraylength, 1) := by decide +kernel
theorem d18_26 : decode prog_50_method_12_code 26 = .ok (.isub, 1) := by decide +kernel
theorem d18_27 : decode prog_50_method_12_code 27 = .ok (.ireturn, 1) := by decide +kernel
theorem d19_0 : decode jdk_29_method_69_code 0 = .ok (.iload_n 0, 1) := by decide +kernel
theorem d19_1 : decode jdk_29_method_69_code 1 = .ok (.iload_n 1, 1) := by decide +kernel
theorem d19_2 : decode jdk_29_method_69_code 2 = .ok (.if_icmp .gt 7, 3) := by decide +kernel
theorem d19_5 : decode jdk_29_method_69_code 5 = .ok (.iload_n 0, 1) := by decide +kernel
theorem d19_6 : decode jdk_29_method_69_code 6 = .ok (.goto 4, 3) := by decide +kernel
theorem d19_9 : decode jdk_29_method_69_code 9 = .ok (.iload_n 1, 1) := by decide +kernel
theorem d19_10 : decode jdk_29_method_69_code 10 = .ok (.ireturn, 1) := by decide +kernel
theorem d20_0 : decode prog_50_method_9_code 0 = .ok (.aload_n 0, 1) := by decide +kernel
theorem d20_1 : decode prog_50_method_9_code 1 = .ok (.invokevirtual 45, 3) := by decide +kernel
theorem d20_4 : decode prog_50_method_9_code 4 = .ok (.aload_n 0, 1) := by decide +kernel
theorem d20_5 : decode prog_50_method_9_code 5 = .ok (.aload_n 0, 1) := by decide +kernel
theorem d20_6 : decode prog_50_method_9_code 6 = .ok (.aload_n 0, 1) := by decide +kernel
theorem d20_7 : decode prog_50_method_9_code 7 = .ok (.getfield 31, 3) := by decide +kernel
theorem d20_10 : decode prog_50_method_9_code 10 = .ok (.arraylength, 1) := by decide +kernel
theorem d20_11 : decode prog_50_method_9_code 11 = .ok (.iconst 1, 1) := by decide +kernel
theorem d20_12 : decode prog_50_method_9_code 12 = .ok (.isub, 1) := by decide +kernel
theorem d20_13 : decode prog_50_method_9_code 13 = .ok (.invokevirtual 37, 3) := by decide +kernel
theorem d20_16 : decode prog_50_method_9_code 16 = .ok (.putfield 52, 3) := by decide +kernel
theorem d20_19 : decode prog_50_method_9_code 19 = .ok (.aload_n 0, 1) := by decide +kernel
theorem d20_20 : decode prog_50_method_9_code 20 = .ok (.dup, 1) := by decide +kernel
theorem d20_21 : decode prog_50_method_9_code 21 = .ok (.getfield 35, 3) := by decide +kernel
theorem d20_24 : decode prog_50_method_9_code 24 = .ok (.iconst 1, 1) := by decide +kernel
theorem d20_25 : decode prog_50_method_9_code 25 = .ok (.iadd, 1) := by decide +kernel
theorem d20_26 : decode prog_50_method_9_code 26 = .ok (.putfield 35, 3) := by decide +kernel
theorem d20_29 : decode prog_50_method_9_code 29 = .ok (.aload_n 0, 1) := by decide +kernel
theorem d20_30 : decode prog_50_method_9_code 30 = .ok (.dup, 1) := by decide +kernel
theorem d20_31 : decode prog_50_method_9_code 31 = .ok (.getfield 41, 3) := by decide +kernel
theorem d20_34 : decode prog_50_method_9_code 34 = .ok (.lconst 1, 1) := by decide +kernel
theorem d20_35 : decode prog_50_method_9_code 35 = .ok (.lsub, 1) := by decide +kernel
theorem d20_36 : decode prog_50_method_9_code 36 = .ok (.putfield 41, 3) := by decide +kernel
theorem d20_39 : decode prog_50_method_9_code 39 = .ok (.aload_n 0, 1) := by decide +kernel
theorem d20_40 : decode prog_50_method_9_code 40 = .ok (.iconst 0, 1) := by decide +kernel
theorem d20_41 : decode prog_50_method_9_code 41 = .ok (.aload_n 1, 1) := by decide +kernel
theorem d20_42 : decode prog_50_method_9_code 42 = .ok (.invokevirtual 48, 3) := by decide +kernel
theorem d20_45 : decode prog_50_method_9_code 45 = .ok (.return_, 1) := by decide +kernel
theorem d21_0 : decode prog_50_method_13_code 0 = .ok (.aload_n 0, 1) := by decide +kernel
theorem d21_1 : decode prog_50_method_13_code 1 = .ok (.getfield 35, 3) := by decide +kernel
theorem d21_4 : decode prog_50_method_13_code 4 = .ok (.aload_n 0, 1) := by decide +kernel
theorem d21_5 : decode prog_50_method_13_code 5 = .ok (.getfield 31, 3) := by decide +kernel
theorem d21_8 : decode prog_50_method_13_code 8 = .ok (.arraylength, 1) := by decide +kernel
theorem d21_9 : decode prog_50_method_13_code 9 = .ok (.if_icmp .ge 4, 3) := by decide +kernel
theorem d21_12 : decode prog_50_method_13_code 12 = .ok (.return_, 1) := by decide +kernel
theorem d21_13 : decode prog_50_method_13_code 13 = .ok (.ldc2_w 68, 3) := by decide +kernel
theorem d21_16 : decode prog_50_method_13_code 16 = .ok (.aload_n 0, 1) := by decide +kernel
theorem d21_17 : decode prog_50_method_13_code 17 = .ok (.getfield 31, 3) := by decide +kernel
theorem d21_20 : decode prog_50_method_13_code 20 = .ok (.arraylength, 1) := by decide +kernel
theorem d21_21 : decode prog_50_method_13_code 21 = .ok (.i2l, 1) := by decide +kernel
theorem d21_22 : decode prog_50_method_13_code 22 = .ok (.lmul, 1) := by decide +kernel
theorem d21_23 : decode prog_50_method_13_code 23 = .ok (.ldc2_w 70, 3) := by decide +kernel
theorem d21_26 : decode prog_50_method_13_code 26 = .ok (.invokestatic 72, 3) := by decide +kernel
theorem d21_29 : decode prog_50_method_13_code 29 = .ok (.l2i, 1) := by decide +kernel
theorem d21_30 : decode prog_50_method_13_code 30 = .ok (.istore_n 1, 1) := by decide +kernel
theorem d21_31 : decode prog_50_method_13_code 31 = .ok (.iload_n 1, 1) := by decide +kernel
theorem d21_32 : decode prog_50_method_13_code 32 = .ok (.aload_n 0, 1) := by decide +kernel
theorem d21_33 : decode prog_50_method_13_code 33 = .ok (.getfield 35, 3) := by decide +kernel
theorem d21_36 : decode prog_50_method_13_code 36 = .ok (.if_icmp .ne 13, 3) := by decide +kernel
theorem d21_49 : decode prog_50_method_13_code 49 = .ok (.iload_n 1, 1) := by decide +kernel
theorem d21_50 : decode prog_50_method_13_code 50 = .ok (.anewarray 4, 3) := by decide +kernel
theorem d21_53 : decode prog_50_method_13_code 53 = .ok (.astore_n 2, 1) := by decide +kernel
theorem d21_54 : decode prog_50_method_13_code 54 = .ok (.iconst 0, 1) := by decide +kernel
theorem d21_55 : decode prog_50_method_13_code 55 = .ok (.istore_n 3, 1) := by decide +kernel
theorem d21_56 : decode prog_50_method_13_code 56 = .ok (.iload_n 3, 1) := by decide +kernel
theorem d21_57 : decode prog_50_method_13_code 57 = .ok (.aload_n 0, 1) := by decide +kernel
theorem d21_58 : decode prog_50_method_13_code 58 = .ok (.getfield 35, 3) := by decide +kernel
theorem d21_61 : decode prog_50_method_13_code 61 = .ok (.if_icmp .ge 17, 3) := by decide +kernel
theorem d21_64 : decode prog_50_method_13_code 64 = .ok (.aload_n 2, 1) := by decide +kernel
theorem d21_65 : decode prog_50_method_13_code 65 = .ok (.iload_n 3, 1) := by decide +kernel
theorem d21_66 : decode prog_50_method_13_code 66 = .ok (.aload_n 0, 1) := by decide +kernel
theorem d21_67 : decode prog_50_method_13_code 67 = .ok (.iload_n 3, 1) := by decide +kernel
theorem d21_68 : decode prog_50_method_13_code 68 = .ok (.invokevirtual 55, 3) := by decide +kernel
theorem d21_71 : decode prog_50_method_13_code 71 = .ok (.aastore, 1) := by decide +kernel
theorem d21_72 : decode prog_50_method_13_code 72 = .ok (.iinc 3 1, 3) := by decide +kernel
theorem d21_75 : decode prog_50_method_13_code 75 = .ok (.goto (-19), 3) := by decide +kernel
theorem d21_78 : decode prog_50_method_13_code 78 = .ok (.aload_n 0, 1) := by decide +kernel
theorem d21_79 : decode prog_50_method_13_code 79 = .ok (.aload_n 2, 1) := by decide +kernel
theorem d21_80 : decode prog_50_method_13_code 80 = .ok (.putfield 31, 3) := by decide +kernel
theorem d21_83 : decode prog_50_method_13_code 83 = .ok (.aload_n 0, 1) := by decide +kernel
theorem d21_84 : decode prog_50_method_13_code 84 = .ok (.iconst 0, 1) := by decide +kernel
theorem d21_85 : decode prog_50_method_13_code 85 = .ok (.putfield 52, 3) := by decide +kernel
theorem d21_88 : decode prog_50_method_13_code 88 = .ok (.return_, 1) := by decide +kernel
theorem d22_0 : decode jdk_29_method_70_code 0 = .ok (.lload_n 0, 1) := by decide +kernel
theorem d22_1 : decode jdk_29_method_70_code 1 = .ok (.lload_n 2, 1) := by decide +kernel
theorem d22_2 : decode jdk_29_method_70_code 2 = .ok (.lcmp, 1) := by decide +kernel
theorem d22_3 : decode jdk_29_method_70_code 3 = .ok (.ifCond .gt 7, 3) := by decide +kernel
theorem d22_6 : decode jdk_29_method_70_code 6 = .ok (.lload_n 0, 1) := by decide +kernel
theorem d22_7 : decode jdk_29_method_70_code 7 = .ok (.goto 4, 3) := by decide +kernel
theorem d22_11 : decode jdk_29_method_70_code 11 = .ok (.lreturn, 1) := by decide +kernel
theorem d23_0 : decode prog_50_method_5_code 0 = .ok (.aload_n 0, 1) := by decide +kernel
theorem d23_1 : decode prog_50_method_5_code 1 = .ok (.getfield 31, 3) := by decide +kernel
theorem d23_4 : decode prog_50_method_5_code 4 = .ok (.aload_n 0, 1) := by decide +kernel
theorem d23_5 : decode prog_50_method_5_code 5 = .ok (.iload_n 1, 1) := by decide +kernel
theorem d23_6 : decode prog_50_method_5_code 6 = .ok (.invokevirtual 37, 3) := by decide +kernel
theorem d23_9 : decode prog_50_method_5_code 9 = .ok (.aload_n 2, 1) := by decide +kernel
theorem d23_10 : decode prog_50_method_5_code 10 = .ok (.aastore, 1) := by decide +kernel
theorem d23_11 : decode prog_50_method_5_code 11 = .ok (.return_, 1) := by decide +kernel
theorem pd0 : parseMethodDescriptor "()V" = some ⟨[], none⟩ := by decide +kernel
theorem pd1 : parseMethodDescriptor "()I" = some ⟨[], some .int⟩ := by decide +kernel
theorem pd2 : parseMethodDescriptor "(II)I" = some ⟨[.int, .int], some .int⟩ := by decide +kernel
theorem pd3 : parseMethodDescriptor "([Ljava/lang/Object;)[Ljava/lang/Object;" = some ⟨[(.array (.object "java/lang/Object"))], some (.array (.object "java/lang/Object"))⟩ := by decide +kernel
theorem pd4 : parseMethodDescriptor "(ILjava/util/List;)V" = some ⟨[.int, (.object "java/util/List")], none⟩ := by decide +kernel
theorem pd5 : parseMethodDescriptor "(I)Ljava/lang/Integer;" = some ⟨[.int], some (.object "java/lang/Integer")⟩ := by decide +kernel
theorem pd6 : parseMethodDescriptor "(I)I" = some ⟨[.int], some .int⟩ := by decide +kernel
theorem pd7 : parseMethodDescriptor "(ILjava/lang/Object;)V" = some ⟨[.int, (.object "java/lang/Object")], none⟩ := by decide +kernel
theorem pd8 : parseMethodDescriptor "(Ljava/lang/Object;)V" = some ⟨[(.object "java/lang/Object")], none⟩ := by decide +kernel
theorem pd9 : parseMethodDescriptor "(Lcom/example/goalwatch/goalwatch/runtime/IconList;Z)V" = some ⟨[(.object "com/example/goalwatch/goalwatch/runtime/IconList"), .boolean], none⟩ := by decide +kernel
theorem pd10 : parseMethodDescriptor "(JJ)J" = some ⟨[.long, .long], some .long⟩ := by decide +kernel
theorem pd11 : parseMethodDescriptor "(I)Ljava/lang/Object;" = some ⟨[.int], some (.object "java/lang/Object")⟩ := by decide +kernel
theorem pd12 : parseMethodDescriptor "(J)I" = some ⟨[.long], some .int⟩ := by decide +kernel
theorem pd13 : parseMethodDescriptor "()Ljava/lang/Object;" = some ⟨[], some (.object "java/lang/Object")⟩ := by decide +kernel
theorem pd14 : parseMethodDescriptor "(I)[Ljava/lang/Object;" = some ⟨[.int], some (.array (.object "java/lang/Object"))⟩ := by decide +kernel
theorem pd15 : parseMethodDescriptor "()[Ljava/lang/Object;" = some ⟨[], some (.array (.object "java/lang/Object"))⟩ := by decide +kernel
theorem pd16 : parseMethodDescriptor "(Ljava/lang/Object;[Ljava/lang/Object;I)V" = some ⟨[(.object "java/lang/Object"), (.array (.object "java/lang/Object")), .int], none⟩ := by decide +kernel
theorem pd17 : parseMethodDescriptor "(Ljava/lang/Object;)Z" = some ⟨[(.object "java/lang/Object")], some .boolean⟩ := by decide +kernel
theorem pn0 : plainName "com/example/goalwatch/goalwatch/runtime/IconListIndexOfPinLaw" = true := by first | (simp [plainName, overriddenIn]; done) | decide +kernel
theorem pn1 : plainName "java/util/ArrayList" = true := by first | (simp [plainName, overriddenIn]; done) | decide +kernel
theorem pn11 : plainName "com/example/goalwatch/goalwatch/runtime/IconList" = true := by first | (simp [plainName, overriddenIn]; done) | decide +kernel
theorem pn12 : plainName "java/util/ArrayList" = true := by first | (simp [plainName, overriddenIn]; done) | decide +kernel
theorem pn13 : plainName "java/util/ArrayList" = true := by first | (simp [plainName, overriddenIn]; done) | decide +kernel
theorem pn14 : plainName "com/example/goalwatch/goalwatch/runtime/IconList" = true := by first | (simp [plainName, overriddenIn]; done) | decide +kernel
theorem pn15 : plainName "com/example/goalwatch/goalwatch/runtime/IconListIndexOfPinLaw" = true := by first | (simp [plainName, overriddenIn]; done) | decide +kernel
theorem pn16 : plainName "com/example/goalwatch/goalwatch/runtime/IconList" = true := by first | (simp [plainName, overriddenIn]; done) | decide +kernel
theorem pn17 : plainName "com/example/goalwatch/goalwatch/runtime/IconList" = true := by first | (simp [plainName, overriddenIn]; done) | decide +kernel
theorem pn18 : plainName "com/example/goalwatch/goalwatch/runtime/IconList" = true := by first | (simp [plainName, overriddenIn]; done) | decide +kernel
theorem pn2 : plainName "java/util/AbstractList" = true := by first | (simp [plainName, overriddenIn]; done) | decide +kernel
theorem pn20 : plainName "com/example/goalwatch/goalwatch/runtime/IconList" = true := by first | (simp [plainName, overriddenIn]; done) | decide +kernel
theorem pn21 : plainName "com/example/goalwatch/goalwatch/runtime/IconList" = true := by first | (simp [plainName, overriddenIn]; done) | decide +kernel
theorem pn23 : plainName "com/example/goalwatch/goalwatch/runtime/IconList" = true := by first | (simp [plainName, overriddenIn]; done) | decide +kernel
theorem pn3 : plainName "java/util/AbstractCollection" = true := by first | (simp [plainName, overriddenIn]; done) | decide +kernel
theorem pn5 : plainName "java/lang/Integer" = true := by first | (simp [plainName, overriddenIn]; done) | decide +kernel
theorem pn6 : plainName "java/util/ArrayList" = true := by first | (simp [plainName, overriddenIn]; done) | decide +kernel
theorem pn7 : plainName "java/util/ArrayList" = true := by first | (simp [plainName, overriddenIn]; done) | decide +kernel
theorem pn8 : plainName "java/util/ArrayList" = true := by first | (simp [plainName, overriddenIn]; done) | decide +kernel
theorem pn9 : plainName "java/util/ArrayList" = true := by first | (simp [plainName, overriddenIn]; done) | decide +kernel
def World (Z : State) (wE0 w_cacheI : Addr) (k_wE0 : ClassId) (cl_cacheI : Cell) : Prop :=
  Sta Z Z.heap "java/util/ArrayList" "DEFAULTCAPACITY_EMPTY_ELEMENTDATA" "[Ljava/lang/Object;" (.ref wE0) ∧
  Arv Z Z.heap wE0 k_wE0 (.object "java/lang/Object") (0 : Int32) [] .null ∧
  Sta Z Z.heap "java/lang/Integer$IntegerCache" "high" "I" (.int (127 : Int32)) ∧
  Sta Z Z.heap "java/lang/Integer$IntegerCache" "cache" "[Ljava/lang/Integer;" (.ref w_cacheI) ∧
  Bxs Z w_cacheI cl_cacheI "java/lang/Integer" "I" (256 : Int32) (fun j => .int (j - 128))
abbrev Bg (Z : State) (a0 : Array Value) (wE0 w_cacheI : Addr) (k_wE0 : ClassId) (cl_cacheI : Cell) : Prop := (∀ d ∈ tables_1, d.before a0 Z = true) ∧ World Z wE0 w_cacheI k_wE0 cl_cacheI
abbrev yM6 : MethodName := ⟨"java/util/ArrayList", "add", "(Ljava/lang/Object;)Z"⟩
abbrev yM7 : MethodName := ⟨"java/util/ArrayList", "add", "(Ljava/lang/Object;[Ljava/lang/Object;I)V"⟩
abbrev yM8 : MethodName := ⟨"java/util/ArrayList", "grow", "()[Ljava/lang/Object;"⟩
abbrev yM9 : MethodName := ⟨"java/util/ArrayList", "grow", "(I)[Ljava/lang/Object;"⟩
abbrev yM19 : MethodName := ⟨"java/lang/Math", "min", "(II)I"⟩
abbrev yM16 : MethodName := ⟨"com/example/goalwatch/goalwatch/runtime/IconList", "removeFirst", "()Ljava/lang/Object;"⟩
abbrev yM14 : MethodName := ⟨"com/example/goalwatch/goalwatch/runtime/IconList", "indexOf", "(J)I"⟩
abbrev yM17 : MethodName := ⟨"com/example/goalwatch/goalwatch/runtime/IconList", "get", "(I)Ljava/lang/Object;"⟩
abbrev yM22 : MethodName := ⟨"java/lang/Math", "min", "(JJ)J"⟩
abbrev yM15 : MethodName := ⟨"com/example/goalwatch/goalwatch/runtime/IconListIndexOfPinLaw", "step", "(Lcom/example/goalwatch/goalwatch/runtime/IconList;Z)V"⟩
abbrev yM20 : MethodName := ⟨"com/example/goalwatch/goalwatch/runtime/IconList", "prepend", "(Ljava/lang/Object;)V"⟩
abbrev yM23 : MethodName := ⟨"com/example/goalwatch/goalwatch/runtime/IconList", "set", "(ILjava/lang/Object;)V"⟩
abbrev yM18 : MethodName := ⟨"com/example/goalwatch/goalwatch/runtime/IconList", "slot", "(I)I"⟩
abbrev yM21 : MethodName := ⟨"com/example/goalwatch/goalwatch/runtime/IconList", "makeRoom", "()V"⟩
abbrev yM5 : MethodName := ⟨"java/lang/Integer", "valueOf", "(I)Ljava/lang/Integer;"⟩
abbrev cs4 : String := "java/lang/Integer"
abbrev yM11 : MethodName := ⟨"com/example/goalwatch/goalwatch/runtime/IconList", "<init>", "(ILjava/util/List;)V"⟩
abbrev yM13 : MethodName := ⟨"java/util/ArrayList", "toArray", "([Ljava/lang/Object;)[Ljava/lang/Object;"⟩
abbrev yM10 : MethodName := ⟨"java/lang/Math", "max", "(II)I"⟩
abbrev yM12 : MethodName := ⟨"java/util/ArrayList", "size", "()I"⟩
abbrev cs3 : String := "com/example/goalwatch/goalwatch/runtime/IconList"
abbrev yM1 : MethodName := ⟨"java/util/ArrayList", "<init>", "()V"⟩
abbrev yM2 : MethodName := ⟨"java/util/AbstractList", "<init>", "()V"⟩
abbrev yM3 : MethodName := ⟨"java/util/AbstractCollection", "<init>", "()V"⟩
abbrev cs2 : String := "[Ljava/lang/Object;"
abbrev cs1 : String := "java/util/ArrayList"
abbrev cs0 : String := "java/util/AbstractList"
theorem extT {a b c : Heap} (x : Ext a b) (y : Ext b c) : Ext a c := ⟨Nat.le_trans x.1 y.1, fun q r s => y.2 q r (x.2 q r s)⟩
theorem extR (a : Heap) : Ext a a := ⟨Nat.le_refl _, fun _ _ q => q⟩
theorem extK {h0 h h' : Heap} {ws : List Addr} (O : Ext h0 h) (K : Keep h h' ws) (q : ∀ x ∈ ws, h0.size ≤ x) : Ext h0 h' := ⟨Nat.le_trans O.1 K.1, fun x c r => K.2.1 x c (O.2 x c r) fun z => absurd (Array.getElem?_eq_some_iff.mp r).1 (Nat.not_lt.mpr (q x z))⟩
theorem extW {h0 h h' : Heap} {a : Addr} {sl : Nat} {v : Value} (O : Ext h0 h) (W : Wr h h' a sl v) (q : h0.size ≤ a) : Ext h0 h' := extK O (Keep.of_wr W) (allS q all0)
theorem leW {h0 h h' : Heap} {a : Addr} {sl : Nat} {v : Value} (q : h0.size ≤ h.size) (W : Wr h h' a sl v) : h0.size ≤ h'.size := by rw [W.size]; exact q
theorem neB {a b : Addr} {h : Heap} (x : a < h.size) (y : h.size ≤ b) : a ≠ b := Nat.ne_of_lt (Nat.lt_of_lt_of_le x y)
theorem stoV {Z : State} {h : Heap} {a y : Addr} {k : ClassId} {ty : FieldType} {n : Int32} {vs : List Value} {d : Value} {C : String} (A : Arv Z h a k ty n vs d) (O : Ovr Z k C) (I : Ins Z h y C true) : Sto Z h a (.ref y) := by
  obtain ⟨c, Ar, q, -⟩ := A
  exact Sto.ofV Ar q O I
theorem m3 (k : Int32) : (k &&& (3 : Int32)) = (0 : Int32) ∨ (k &&& (3 : Int32)) = (1 : Int32) ∨ (k &&& (3 : Int32)) = (2 : Int32) ∨ (k &&& (3 : Int32)) = (3 : Int32) := by
  have h1 := c_mask k (3 : Int32) 2 (by decide) (by decide)
  simp only [← Int32.toInt_inj]
  have e0 : (0 : Int32).toInt = 0 := by decide
  have e1 : (1 : Int32).toInt = 1 := by decide
  have e2 : (2 : Int32).toInt = 2 := by decide
  have e3 : (3 : Int32).toInt = 3 := by decide
  omega
theorem off_no {d z : Int64} {k : Nat} (h0 : ¬ (d < (0 : Int64))) (hz : z.toInt = k) (h : ∀ i : Nat, i < k → ¬ d.toInt = i) : ¬ (d < z) := by
  have e0 : (0 : Int64).toInt = 0 := by decide
  rw [Int64.lt_iff_toInt_lt] at h0 ⊢
  rw [hz]
  intro q
  rw [e0] at h0
  exact h d.toInt.toNat (by omega) (by omega)
theorem off_eq {N f i : Int64} (h : (N - f) = i) : N = (f + i) := by
  have h1 := c_lsub N f
  have h2 := c_ladd f i
  have r1 := rng64 N
  have r2 := rng64 (f + i)
  rw [h] at h1
  rw [← Int64.toInt_inj]
  omega
theorem off_eq0 {N f : Int64} (h : (N - f) = (0 : Int64)) : N = f := by
  have h1 := c_lsub N f
  have r1 := rng64 N
  have r2 := rng64 f
  have e0 : (0 : Int64).toInt = 0 := by decide
  rw [h, e0] at h1
  rw [← Int64.toInt_inj]
  omega
theorem off_ne {N f i : Int64} (h : ¬ ((N - f) = i)) : ¬ (N = (f + i)) := fun q => h (by
  have h1 := c_lsub N f
  have h2 := c_ladd f i
  have r1 := rng64 (N - f)
  have r2 := rng64 i
  rw [q] at h1 r1 ⊢
  rw [← Int64.toInt_inj]
  omega)
theorem off_ne0 {N f : Int64} (h : ¬ ((N - f) = (0 : Int64))) : ¬ (N = f) := fun q => h (by
  have h1 := c_lsub N f
  have r1 := rng64 (N - f)
  have e0 : (0 : Int64).toInt = 0 := by decide
  rw [q] at h1 r1 ⊢
  rw [← Int64.toInt_inj, e0]
  omega)
theorem off_two {d i j : Int64} (h : d = i) (q : i ≠ j) : ¬ (d = j) := fun z => q (h.symm.trans z)
theorem of1 {d : Int64} (h0 : ¬ d.toInt = ((0 : Nat) : Int)) : ∀ i : Nat, i < 1 → ¬ d.toInt = i := by
  intro i hi
  rcases (by omega : i = 0) with rfl
  · exact h0
theorem of2 {d : Int64} (h0 : ¬ d.toInt = ((0 : Nat) : Int)) (h1 : ¬ d.toInt = ((1 : Nat) : Int)) : ∀ i : Nat, i < 2 → ¬ d.toInt = i := by
  intro i hi
  rcases (by omega : i = 0 ∨ i = 1) with rfl | rfl
  · exact h0
  · exact h1
theorem of3 {d : Int64} (h0 : ¬ d.toInt = ((0 : Nat) : Int)) (h1 : ¬ d.toInt = ((1 : Nat) : Int)) (h2 : ¬ d.toInt = ((2 : Nat) : Int)) : ∀ i : Nat, i < 3 → ¬ d.toInt = i := by
  intro i hi
  rcases (by omega : i = 0 ∨ i = 1 ∨ i = 2) with rfl | rfl | rfl
  · exact h0
  · exact h1
  · exact h2
theorem of4 {d : Int64} (h0 : ¬ d.toInt = ((0 : Nat) : Int)) (h1 : ¬ d.toInt = ((1 : Nat) : Int)) (h2 : ¬ d.toInt = ((2 : Nat) : Int)) (h3 : ¬ d.toInt = ((3 : Nat) : Int)) : ∀ i : Nat, i < 4 → ¬ d.toInt = i := by
  intro i hi
  rcases (by omega : i = 0 ∨ i = 1 ∨ i = 2 ∨ i = 3) with rfl | rfl | rfl | rfl
  · exact h0
  · exact h1
  · exact h2
  · exact h3
theorem of5 {d : Int64} (h0 : ¬ d.toInt = ((0 : Nat) : Int)) (h1 : ¬ d.toInt = ((1 : Nat) : Int)) (h2 : ¬ d.toInt = ((2 : Nat) : Int)) (h3 : ¬ d.toInt = ((3 : Nat) : Int)) (h4 : ¬ d.toInt = ((4 : Nat) : Int)) : ∀ i : Nat, i < 5 → ¬ d.toInt = i := by
  intro i hi
  rcases (by omega : i = 0 ∨ i = 1 ∨ i = 2 ∨ i = 3 ∨ i = 4) with rfl | rfl | rfl | rfl | rfl
  · exact h0
  · exact h1
  · exact h2
  · exact h3
  · exact h4
theorem of6 {d : Int64} (h0 : ¬ d.toInt = ((0 : Nat) : Int)) (h1 : ¬ d.toInt = ((1 : Nat) : Int)) (h2 : ¬ d.toInt = ((2 : Nat) : Int)) (h3 : ¬ d.toInt = ((3 : Nat) : Int)) (h4 : ¬ d.toInt = ((4 : Nat) : Int)) (h5 : ¬ d.toInt = ((5 : Nat) : Int)) : ∀ i : Nat, i < 6 → ¬ d.toInt = i := by
  intro i hi
  rcases (by omega : i = 0 ∨ i = 1 ∨ i = 2 ∨ i = 3 ∨ i = 4 ∨ i = 5) with rfl | rfl | rfl | rfl | rfl | rfl
  · exact h0
  · exact h1
  · exact h2
  · exact h3
  · exact h4
  · exact h5
theorem pk0 {k : Int32} (h2 : ¬ ((0 : Int32) < (k &&& (3 : Int32)))) : (k &&& (3 : Int32)) = (0 : Int32) := by
  have h := m3 k
  generalize (k &&& (3 : Int32)) = z at *
  rcases h with rfl | rfl | rfl | rfl <;> first | rfl | (exact absurd h1 (by decide)) | (exact absurd (by decide) h2)
theorem pk1 {k : Int32} (h1 : (0 : Int32) < (k &&& (3 : Int32))) (h2 : ¬ ((1 : Int32) < (k &&& (3 : Int32)))) : (k &&& (3 : Int32)) = (1 : Int32) := by
  have h := m3 k
  generalize (k &&& (3 : Int32)) = z at *
  rcases h with rfl | rfl | rfl | rfl <;> first | rfl | (exact absurd h1 (by decide)) | (exact absurd (by decide) h2)
theorem pk2 {k : Int32} (h1 : (1 : Int32) < (k &&& (3 : Int32))) (h2 : ¬ ((2 : Int32) < (k &&& (3 : Int32)))) : (k &&& (3 : Int32)) = (2 : Int32) := by
  have h := m3 k
  generalize (k &&& (3 : Int32)) = z at *
  rcases h with rfl | rfl | rfl | rfl <;> first | rfl | (exact absurd h1 (by decide)) | (exact absurd (by decide) h2)
theorem pk3 {k : Int32} (h1 : (2 : Int32) < (k &&& (3 : Int32))) : (k &&& (3 : Int32)) = (3 : Int32) := by
  have h := m3 k
  generalize (k &&& (3 : Int32)) = z at *
  rcases h with rfl | rfl | rfl | rfl <;> first | rfl | (exact absurd h1 (by decide)) | (exact absurd (by decide) h2)
theorem sn0 {Z : State} {a0 : Array Value} (hw : ∀ d ∈ tables_1, d.before a0 Z = true) : Jvm.RoadKit.slotOf Z "java/util/ArrayList" "elementData" "[Ljava/lang/Object;" ≠ Jvm.RoadKit.slotOf Z "java/util/AbstractList" "modCount" "I" := slot_ne (Or.inl (hw _ wd25)) (Or.inl (hw _ wd22)) (by decide) (t := (.array (.object "java/lang/Object"))) (t' := .int) (by decide) (by decide)
theorem sn1 {Z : State} {a0 : Array Value} (hw : ∀ d ∈ tables_1, d.before a0 Z = true) : Jvm.RoadKit.slotOf Z "java/util/ArrayList" "size" "I" ≠ Jvm.RoadKit.slotOf Z "java/util/AbstractList" "modCount" "I" := slot_ne (Or.inl (hw _ wd41)) (Or.inl (hw _ wd22)) (by decide) (t := .int) (t' := .int) (by decide) (by decide)
theorem sn2 {Z : State} {a0 : Array Value} (hw : ∀ d ∈ tables_1, d.before a0 Z = true) : Jvm.RoadKit.slotOf Z "java/util/AbstractList" "modCount" "I" ≠ Jvm.RoadKit.slotOf Z "java/util/ArrayList" "elementData" "[Ljava/lang/Object;" := slot_ne (Or.inl (hw _ wd22)) (Or.inl (hw _ wd25)) (by decide) (t := .int) (t' := (.array (.object "java/lang/Object"))) (by decide) (by decide)
theorem sn3 {Z : State} {a0 : Array Value} (hw : ∀ d ∈ tables_1, d.before a0 Z = true) : Jvm.RoadKit.slotOf Z "java/util/ArrayList" "size" "I" ≠ Jvm.RoadKit.slotOf Z "java/util/ArrayList" "elementData" "[Ljava/lang/Object;" := slot_ne (Or.inl (hw _ wd41)) (Or.inl (hw _ wd25)) (by decide) (t := .int) (t' := (.array (.object "java/lang/Object"))) (by decide) (by decide)
theorem sn4 {Z : State} {a0 : Array Value} (hw : ∀ d ∈ tables_1, d.before a0 Z = true) : Jvm.RoadKit.slotOf Z "com/example/goalwatch/goalwatch/runtime/IconList" "buffer" "[Ljava/lang/Object;" ≠ Jvm.RoadKit.slotOf Z "com/example/goalwatch/goalwatch/runtime/IconList" "serial" "I" := slot_ne (Or.inl (hw _ wd97)) (Or.inr (hw _ wd72)) (by decide) (t := (.array (.object "java/lang/Object"))) (t' := .int) (by decide) (by decide)
theorem sn5 {Z : State} {a0 : Array Value} (hw : ∀ d ∈ tables_1, d.before a0 Z = true) : Jvm.RoadKit.slotOf Z "com/example/goalwatch/goalwatch/runtime/IconList" "size" "I" ≠ Jvm.RoadKit.slotOf Z "com/example/goalwatch/goalwatch/runtime/IconList" "serial" "I" := slot_ne (Or.inl (hw _ wd99)) (Or.inr (hw _ wd72)) (by decide) (t := .int) (t' := .int) (by decide) (by decide)
theorem sn6 {Z : State} {a0 : Array Value} (hw : ∀ d ∈ tables_1, d.before a0 Z = true) : Jvm.RoadKit.slotOf Z "com/example/goalwatch/goalwatch/runtime/IconList" "size" "I" ≠ Jvm.RoadKit.slotOf Z "com/example/goalwatch/goalwatch/runtime/IconList" "buffer" "[Ljava/lang/Object;" := slot_ne (Or.inl (hw _ wd99)) (Or.inl (hw _ wd97)) (by decide) (t := .int) (t' := (.array (.object "java/lang/Object"))) (by decide) (by decide)
theorem sn7 {Z : State} {a0 : Array Value} (hw : ∀ d ∈ tables_1, d.before a0 Z = true) : Jvm.RoadKit.slotOf Z "com/example/goalwatch/goalwatch/runtime/IconList" "serial" "I" ≠ Jvm.RoadKit.slotOf Z "com/example/goalwatch/goalwatch/runtime/IconList" "buffer" "[Ljava/lang/Object;" := slot_ne (Or.inr (hw _ wd72)) (Or.inl (hw _ wd97)) (by decide) (t := .int) (t' := (.array (.object "java/lang/Object"))) (by decide) (by decide)
theorem sn8 {Z : State} {a0 : Array Value} (hw : ∀ d ∈ tables_1, d.before a0 Z = true) : Jvm.RoadKit.slotOf Z "com/example/goalwatch/goalwatch/runtime/IconList" "serial" "I" ≠ Jvm.RoadKit.slotOf Z "com/example/goalwatch/goalwatch/runtime/IconList" "size" "I" := slot_ne (Or.inr (hw _ wd72)) (Or.inl (hw _ wd99)) (by decide) (t := .int) (t' := .int) (by decide) (by decide)
theorem sn9 {Z : State} {a0 : Array Value} (hw : ∀ d ∈ tables_1, d.before a0 Z = true) : Jvm.RoadKit.slotOf Z "com/example/goalwatch/goalwatch/runtime/IconList" "buffer" "[Ljava/lang/Object;" ≠ Jvm.RoadKit.slotOf Z "com/example/goalwatch/goalwatch/runtime/IconList" "size" "I" := slot_ne (Or.inl (hw _ wd97)) (Or.inl (hw _ wd99)) (by decide) (t := (.array (.object "java/lang/Object"))) (t' := .int) (by decide) (by decide)
theorem sn10 {Z : State} {a0 : Array Value} (hw : ∀ d ∈ tables_1, d.before a0 Z = true) : Jvm.RoadKit.slotOf Z "com/example/goalwatch/goalwatch/runtime/IconList" "firstNumber" "J" ≠ Jvm.RoadKit.slotOf Z "com/example/goalwatch/goalwatch/runtime/IconList" "serial" "I" := slot_ne (Or.inl (hw _ wd106)) (Or.inr (hw _ wd72)) (by decide) (t := .long) (t' := .int) (by decide) (by decide)
theorem sn11 {Z : State} {a0 : Array Value} (hw : ∀ d ∈ tables_1, d.before a0 Z = true) : Jvm.RoadKit.slotOf Z "com/example/goalwatch/goalwatch/runtime/IconList" "firstNumber" "J" ≠ Jvm.RoadKit.slotOf Z "com/example/goalwatch/goalwatch/runtime/IconList" "buffer" "[Ljava/lang/Object;" := slot_ne (Or.inl (hw _ wd106)) (Or.inl (hw _ wd97)) (by decide) (t := .long) (t' := (.array (.object "java/lang/Object"))) (by decide) (by decide)
theorem sn12 {Z : State} {a0 : Array Value} (hw : ∀ d ∈ tables_1, d.before a0 Z = true) : Jvm.RoadKit.slotOf Z "com/example/goalwatch/goalwatch/runtime/IconList" "firstNumber" "J" ≠ Jvm.RoadKit.slotOf Z "com/example/goalwatch/goalwatch/runtime/IconList" "size" "I" := slot_ne (Or.inl (hw _ wd106)) (Or.inl (hw _ wd99)) (by decide) (t := .long) (t' := .int) (by decide) (by decide)
theorem sn13 {Z : State} {a0 : Array Value} (hw : ∀ d ∈ tables_1, d.before a0 Z = true) : Jvm.RoadKit.slotOf Z "com/example/goalwatch/goalwatch/runtime/IconList" "head" "I" ≠ Jvm.RoadKit.slotOf Z "com/example/goalwatch/goalwatch/runtime/IconList" "serial" "I" := slot_ne (Or.inl (hw _ wd126)) (Or.inr (hw _ wd72)) (by decide) (t := .int) (t' := .int) (by decide) (by decide)
theorem sn14 {Z : State} {a0 : Array Value} (hw : ∀ d ∈ tables_1, d.before a0 Z = true) : Jvm.RoadKit.slotOf Z "com/example/goalwatch/goalwatch/runtime/IconList" "head" "I" ≠ Jvm.RoadKit.slotOf Z "com/example/goalwatch/goalwatch/runtime/IconList" "buffer" "[Ljava/lang/Object;" := slot_ne (Or.inl (hw _ wd126)) (Or.inl (hw _ wd97)) (by decide) (t := .int) (t' := (.array (.object "java/lang/Object"))) (by decide) (by decide)
theorem sn15 {Z : State} {a0 : Array Value} (hw : ∀ d ∈ tables_1, d.before a0 Z = true) : Jvm.RoadKit.slotOf Z "com/example/goalwatch/goalwatch/runtime/IconList" "head" "I" ≠ Jvm.RoadKit.slotOf Z "com/example/goalwatch/goalwatch/runtime/IconList" "size" "I" := slot_ne (Or.inl (hw _ wd126)) (Or.inl (hw _ wd99)) (by decide) (t := .int) (t' := .int) (by decide) (by decide)
theorem sn16 {Z : State} {a0 : Array Value} (hw : ∀ d ∈ tables_1, d.before a0 Z = true) : Jvm.RoadKit.slotOf Z "com/example/goalwatch/goalwatch/runtime/IconList" "size" "I" ≠ Jvm.RoadKit.slotOf Z "com/example/goalwatch/goalwatch/runtime/IconList" "head" "I" := slot_ne (Or.inl (hw _ wd99)) (Or.inl (hw _ wd126)) (by decide) (t := .int) (t' := .int) (by decide) (by decide)
theorem sn17 {Z : State} {a0 : Array Value} (hw : ∀ d ∈ tables_1, d.before a0 Z = true) : Jvm.RoadKit.slotOf Z "com/example/goalwatch/goalwatch/runtime/IconList" "firstNumber" "J" ≠ Jvm.RoadKit.slotOf Z "com/example/goalwatch/goalwatch/runtime/IconList" "head" "I" := slot_ne (Or.inl (hw _ wd106)) (Or.inl (hw _ wd126)) (by decide) (t := .long) (t' := .int) (by decide) (by decide)
theorem sn18 {Z : State} {a0 : Array Value} (hw : ∀ d ∈ tables_1, d.before a0 Z = true) : Jvm.RoadKit.slotOf Z "com/example/goalwatch/goalwatch/runtime/IconList" "buffer" "[Ljava/lang/Object;" ≠ Jvm.RoadKit.slotOf Z "com/example/goalwatch/goalwatch/runtime/IconList" "head" "I" := slot_ne (Or.inl (hw _ wd97)) (Or.inl (hw _ wd126)) (by decide) (t := (.array (.object "java/lang/Object"))) (t' := .int) (by decide) (by decide)
theorem sn19 {Z : State} {a0 : Array Value} (hw : ∀ d ∈ tables_1, d.before a0 Z = true) : Jvm.RoadKit.slotOf Z "com/example/goalwatch/goalwatch/runtime/IconList" "buffer" "[Ljava/lang/Object;" ≠ Jvm.RoadKit.slotOf Z "com/example/goalwatch/goalwatch/runtime/IconList" "firstNumber" "J" := slot_ne (Or.inl (hw _ wd97)) (Or.inl (hw _ wd106)) (by decide) (t := (.array (.object "java/lang/Object"))) (t' := .long) (by decide) (by decide)
theorem sn20 {Z : State} {a0 : Array Value} (hw : ∀ d ∈ tables_1, d.before a0 Z = true) : Jvm.RoadKit.slotOf Z "com/example/goalwatch/goalwatch/runtime/IconList" "head" "I" ≠ Jvm.RoadKit.slotOf Z "com/example/goalwatch/goalwatch/runtime/IconList" "firstNumber" "J" := slot_ne (Or.inl (hw _ wd126)) (Or.inl (hw _ wd106)) (by decide) (t := .int) (t' := .long) (by decide) (by decide)
theorem sn21 {Z : State} {a0 : Array Value} (hw : ∀ d ∈ tables_1, d.before a0 Z = true) : Jvm.RoadKit.slotOf Z "com/example/goalwatch/goalwatch/runtime/IconList" "size" "I" ≠ Jvm.RoadKit.slotOf Z "com/example/goalwatch/goalwatch/runtime/IconList" "firstNumber" "J" := slot_ne (Or.inl (hw _ wd99)) (Or.inl (hw _ wd106)) (by decide) (t := .int) (t' := .long) (by decide) (by decide)
theorem sn22 {Z : State} {a0 : Array Value} (hw : ∀ d ∈ tables_1, d.before a0 Z = true) : Jvm.RoadKit.slotOf Z "com/example/goalwatch/goalwatch/runtime/IconList" "serial" "I" ≠ Jvm.RoadKit.slotOf Z "com/example/goalwatch/goalwatch/runtime/IconList" "head" "I" := slot_ne (Or.inr (hw _ wd72)) (Or.inl (hw _ wd126)) (by decide) (t := .int) (t' := .int) (by decide) (by decide)
theorem sn23 {Z : State} {a0 : Array Value} (hw : ∀ d ∈ tables_1, d.before a0 Z = true) : Jvm.RoadKit.slotOf Z "com/example/goalwatch/goalwatch/runtime/IconList" "serial" "I" ≠ Jvm.RoadKit.slotOf Z "com/example/goalwatch/goalwatch/runtime/IconList" "firstNumber" "J" := slot_ne (Or.inr (hw _ wd72)) (Or.inl (hw _ wd106)) (by decide) (t := .int) (t' := .long) (by decide) (by decide)
theorem sn24 {Z : State} {a0 : Array Value} (hw : ∀ d ∈ tables_1, d.before a0 Z = true) : Jvm.RoadKit.slotOf Z "java/util/ArrayList" "elementData" "[Ljava/lang/Object;" ≠ Jvm.RoadKit.slotOf Z "java/util/ArrayList" "size" "I" := slot_ne (Or.inl (hw _ wd25)) (Or.inl (hw _ wd41)) (by decide) (t := (.array (.object "java/lang/Object"))) (t' := .int) (by decide) (by decide)
theorem sn25 {Z : State} {a0 : Array Value} (hw : ∀ d ∈ tables_1, d.before a0 Z = true) : Jvm.RoadKit.slotOf Z "java/util/AbstractList" "modCount" "I" ≠ Jvm.RoadKit.slotOf Z "java/util/ArrayList" "size" "I" := slot_ne (Or.inl (hw _ wd22)) (Or.inl (hw _ wd41)) (by decide) (t := .int) (t' := .int) (by decide) (by decide)
section Walk
variable {l : Launch} {Z : State} {a0 : Array Value} {wE0 w_cacheI : Addr} {k_wE0 : ClassId} {cl_cacheI : Cell}
theorem rm3_3 (B : Bg Z a0 wE0 w_cacheI k_wE0 cl_cacheI) (ro0 : Addr) (h : Heap) (O : Ext Z.heap h) :
    Con l Z yM3 jdk_22_method_1_code 1 none ({ frames := 1, cells := 0, slots := 0, locals := 12 } : Room) #[(.ref ro0)] h (fun v h' L => v = none ∧ h' = h ∧ L = []) := by
  have hw := B.1
  refine Con.of (plainFor_of_name pn3) (Ls := #[vR ro0]) (fun _ => rfl) ?_
  intro p e s m below meth c T0 X0 H hml hZ hown hnm hret hlk e0
  refine gAloadN X0 H d3_0 rfl rfl 1 rfl ?_
  refine gInitO X0 H hZ hown (hw _ wd18) (hw _ wd19) (hw _ wd20) e0 hml rfl (V := 0) (Nat.le_of_eq rfl) (by decide) (by decide) d3_1 4 rfl ?_
  intro T2 X2 e2
  exact gRetV X2 H hlk hret d3_4 e2 ⟨rfl, rfl, rfl⟩
theorem rm15_2 (B : Bg Z a0 wE0 w_cacheI k_wE0 cl_cacheI) (ro0 : Addr) (h : Heap) (O : Ext Z.heap h) (q6 : Exa Z h ro0 cs1) (q7 : Fld Z h ro0 cs0 "modCount" "I" (.int 0)) (q8 : Z.heap.size ≤ ro0) (q10 : Fld Z h ro0 cs1 "elementData" cs2 .null) (q12 : Fld Z h ro0 cs1 "size" "I" (.int 0)) :
    Con l Z yM2 jdk_39_method_1_code 1 none ({ frames := 2, cells := 0, slots := 0, locals := 24 } : Room) #[(.ref ro0)] h (fun v h' L => v = none ∧ Fr Z.heap.size L ∧ Keep h h' [ro0] ∧ Exa Z h' ro0 cs1 ∧ Fld Z h' ro0 cs0 "modCount" "I" (.int 0) ∧ Fld Z h' ro0 cs1 "elementData" cs2 .null ∧ Fld Z h' ro0 cs1 "size" "I" (.int 0)) := by
  have hw := B.1
  refine Con.of (plainFor_of_name pn2) (Ls := #[vR ro0]) (fun _ => rfl) ?_
  intro p e s m below meth c T0 X0 H hml hZ hown hnm hret hlk e0
  have N0 := Fr.nil Z.heap.size
  refine gAloadN X0 H d2_0 rfl rfl 1 rfl ?_
  refine gSpecial X0 H hZ hown rfl rfl (hw _ wd12) (hw _ wd13) (by decide) (hw _ wd17) (hw _ wd16) (rm3_3 B ro0 _ O) e0 hml rfl pd0 rfl (W := 0) (argsL := []) (rest := []) rfl rfl d2_1 4 rfl ?_
  intro v4 T4 L4 hq4 X4
  obtain ⟨rfl, e4, rfl⟩ := hq4
  have N4 := Fr.app N0 (Fr.nil _)
  show Go _ _ _ _ (State.setTop _ (mkF _ 4 _ []))
  refine gAloadN X4 H d2_4 rfl rfl 5 rfl ?_
  refine gIconst X4 H d2_5 (z := 0) rfl 6 rfl ?_
  refine gPutF X4 H hZ hown (hw _ wd21) Via.refl e4 q7 q6 (Or.inl (hw _ wd22)) (hw _ wd1) (ty := .int) (by decide) (v' := (.int 0)) rfl rfl d2_6 9 rfl ?_
  intro T5 h5 X5 e5 W5 F5
  have O5 := extW O W5 q8
  have N5 := Fr.snoc X5 N4 q8
  have c9 := (q6.wr W5)
  have c11 := (q10.other W5 (Or.inr (sn0 hw)))
  have c13 := (q12.other W5 (Or.inr (sn1 hw)))
  have K_14 := (Keep.refl h [ro0]).wr W5 (Or.inl (List.mem_of_getElem? (i := 0) rfl))
  exact gRetV X5 H hlk hret d2_9 e5 ⟨rfl, N5, K_14, c9, F5, c11, c13⟩
theorem rm29_1 (B : Bg Z a0 wE0 w_cacheI k_wE0 cl_cacheI) (ro0 : Addr) (h : Heap) (O : Ext Z.heap h) (q16 : Exa Z h ro0 cs1) (q17 : Fld Z h ro0 cs0 "modCount" "I" (.int 0)) (q18 : Z.heap.size ≤ ro0) (q19 : Fld Z h ro0 cs1 "elementData" cs2 .null) (q20 : Fld Z h ro0 cs1 "size" "I" (.int 0)) :
    Con l Z yM1 jdk_38_method_2_code 1 none ({ frames := 3, cells := 0, slots := 0, locals := 36 } : Room) #[(.ref ro0)] h (fun v h' L => v = none ∧ Fr Z.heap.size L ∧ Keep h h' [ro0] ∧ Exa Z h' ro0 cs1 ∧ Fld Z h' ro0 cs0 "modCount" "I" (.int 0) ∧ Fld Z h' ro0 cs1 "elementData" cs2 (.ref wE0) ∧ Fld Z h' ro0 cs1 "size" "I" (.int 0)) := by
  have hw := B.1
  obtain ⟨S_wE0, V_wE0, S_high, S_cacheI, B_cacheI⟩ := B.2
  refine Con.of (plainFor_of_name pn1) (Ls := #[vR ro0]) (fun _ => rfl) ?_
  intro p e s m below meth c T0 X0 H hml hZ hown hnm hret hlk e0
  have N0 := Fr.nil Z.heap.size
  refine gAloadN X0 H d1_0 rfl rfl 1 rfl ?_
  refine gSpecial X0 H hZ hown rfl rfl (hw _ wd6) (hw _ wd7) (by decide) (hw _ wd11) (hw _ wd10) (rm15_2 B ro0 _ O q16 q17 q18 q19 q20) e0 hml rfl pd0 rfl (W := 0) (argsL := []) (rest := []) rfl rfl d1_1 4 rfl ?_
  intro v21 T21 L21 hq21 X21
  obtain ⟨rfl, N21q, K21, f21_0, f21_1, f21_2, f21_3⟩ := hq21
  have O21 := extK O K21 (allS q18 all0)
  have N21 := Fr.app N0 N21q
  show Go _ _ _ _ (State.setTop _ (mkF _ 4 _ []))
  refine gAloadN X21 H d1_4 rfl rfl 5 rfl ?_
  refine gGetS X21 H hZ hown (hw _ wd23) rfl (S_wE0.ext O21) d1_5 8 rfl ?_
  intro T22 X22 e22
  refine gPutF X22 H hZ hown (hw _ wd24) Via.refl e22 f21_2 f21_0 (Or.inl (hw _ wd25)) (hw _ wd1) (ty := (.array (.object "java/lang/Object"))) (by decide) (v' := (.ref wE0)) rfl rfl d1_8 11 rfl ?_
  intro T23 h23 X23 e23 W23 F23
  have O23 := extW O21 W23 q18
  have N23 := Fr.snoc X23 N21 q18
  have c24 := (f21_0.wr W23)
  have c25 := (f21_1.other W23 (Or.inr (sn2 hw)))
  have c26 := (f21_3.other W23 (Or.inr (sn3 hw)))
  have K_27 := (Keep.refl h [ro0]).trans K21 (allS (Or.inl (List.mem_of_getElem? (i := 0) rfl)) all0)
  have K_28 := K_27.wr W23 (Or.inl (List.mem_of_getElem? (i := 0) rfl))
  exact gRetV X23 H hlk hret d1_11 e23 ⟨rfl, N23, K_28, c24, c25, F23, c26⟩
theorem rm42_12 (B : Bg Z a0 wE0 w_cacheI k_wE0 cl_cacheI) (ro0 : Addr) (h : Heap) (O : Ext Z.heap h) (q40 : Fld Z h ro0 cs1 "size" "I" (.int 0)) :
    Con l Z yM12 jdk_38_method_8_code 1 (some .int) ({ frames := 0, cells := 0, slots := 0, locals := 0 } : Room) #[(.ref ro0)] h (fun v h' L => v = some (.int 0) ∧ h' = h ∧ L = []) := by
  have hw := B.1
  refine Con.of (plainFor_of_name pn12) (Ls := #[vR ro0]) (fun _ => rfl) ?_
  intro p e s m below meth c T0 X0 H hml hZ hown hnm hret hlk e0
  refine gAloadN X0 H d12_0 rfl rfl 1 rfl ?_
  refine gGetF X0 H hZ hown (hw _ wd40) Via.refl e0 q40 d12_1 4 rfl ?_
  intro T41 X41 e41
  exact gRetI X41 H hlk hret d12_4 e41 ⟨rfl, rfl, rfl⟩
theorem rm47_10 (B : Bg Z a0 wE0 w_cacheI k_wE0 cl_cacheI) (h : Heap) (O : Ext Z.heap h) :
    Con l Z yM10 jdk_29_method_65_code 2 (some .int) ({ frames := 0, cells := 0, slots := 0, locals := 0 } : Room) #[(.int 0), (.int 1)] h (fun v h' L => v = some (.int 1) ∧ h' = h ∧ L = []) := by
  refine Con.of (Jvm.Free.JP.mathPlain rfl (by decide +kernel)) (Ls := #[vI 0, vI 1]) (fun _ => rfl) ?_
  intro p e s m below meth c T0 X0 H hml hZ hown hnm hret hlk e0
  refine gIloadN X0 H d10_0 rfl 1 rfl ?_
  refine gIloadN X0 H d10_1 rfl 2 rfl ?_
  refine gCmpY X0 H d10_2 (by decide) (by decide) 9 rfl ?_
  refine gIloadN X0 H d10_9 rfl 10 rfl ?_
  exact gRetI X0 H hlk hret d10_10 e0 ⟨rfl, rfl, rfl⟩
theorem rm70_13 (B : Bg Z a0 wE0 w_cacheI k_wE0 cl_cacheI) (ro0 ro1 : Addr) (ck2 : ClassId) (h : Heap) (O : Ext Z.heap h) (q53 : Arl Z h ro1 (1 : Int32)) (q54 : Fld Z h ro0 cs1 "size" "I" (.int 0)) (q56 : Fld Z h ro0 cs1 "elementData" cs2 (.ref wE0)) (q59 : Arv Z h ro1 ck2 (.object "java/lang/Object") (1 : Int32) [.null] .null) (q61 : Z.heap.size ≤ ro1) (q63 : ro0 ≠ ro1) :
    Con l Z yM13 jdk_38_method_17_code 2 (some (.array (.object "java/lang/Object"))) ({ frames := 1, cells := 0, slots := 0, locals := 18 } : Room) #[(.ref ro0), (.ref ro1)] h (fun v h' L => v = some (.ref ro1) ∧ Fr Z.heap.size L ∧ Keep h h' [ro1] ∧ Arv Z h' ro1 ck2 (.object "java/lang/Object") (1 : Int32) [.null] .null) := by
  have hw := B.1
  obtain ⟨S_wE0, V_wE0, S_high, S_cacheI, B_cacheI⟩ := B.2
  refine Con.of (plainFor_of_name pn13) (Ls := #[vR ro0, vR ro1]) (fun _ => rfl) ?_
  intro p e s m below meth c T0 X0 H hml hZ hown hnm hret hlk e0
  have N0 := Fr.nil Z.heap.size
  refine gAloadN X0 H d13_0 rfl rfl 1 rfl ?_
  refine gLen X0 H hZ e0 q53 d13_1 2 rfl ?_
  refine gAloadN X0 H d13_2 rfl rfl 3 rfl ?_
  refine gGetF X0 H hZ hown (hw _ wd40) Via.refl e0 q54 d13_3 6 rfl ?_
  intro T55 X55 e55
  refine gCmpY X55 H d13_6 (by decide) (by decide) 25 rfl ?_
  refine gAloadN X55 H d13_25 rfl rfl 26 rfl ?_
  refine gGetF X55 H hZ hown (hw _ wd24) Via.refl e55 q56 d13_26 29 rfl ?_
  intro T57 X57 e57
  refine gIconst X57 H d13_29 (z := 0) rfl 30 rfl ?_
  refine gAloadN X57 H d13_30 rfl rfl 31 rfl ?_
  refine gIconst X57 H d13_31 (z := 0) rfl 32 rfl ?_
  refine gAloadN X57 H d13_32 rfl rfl 33 rfl ?_
  refine gGetF X57 H hZ hown (hw _ wd40) Via.refl e57 q54 d13_33 36 rfl ?_
  intro T58 X58 e58
  refine gCopy X58 H hZ hown (hw _ wd92) (hw _ wd95) (hw _ wd93) (hw _ wd94) e58 (V_wE0.ext O) q59 (us := []) (Or.inr ⟨rfl, rfl, trivial⟩) (by decide) (by decide) (by decide) (by decide) (by decide) rfl (Nat.le_of_ble_eq_true rfl) N0 q61 hml rfl (V := 0) (by decide) (Nat.le_of_eq rfl) (by decide) (vd' := [.null]) rfl d13_36 39 rfl ?_
  intro T60 h60 L60 X60 e60 N60c K60 V60
  have O60 := extK O K60 (allS q61 all0)
  refine gAloadN X60 H d13_39 rfl rfl 40 rfl ?_
  refine gLen X60 H hZ e60 (Arv.arl V60) d13_40 41 rfl ?_
  refine gAloadN X60 H d13_41 rfl rfl 42 rfl ?_
  have c64 := (q54.keep K60 (ninS q63 nin0))
  refine gGetF X60 H hZ hown (hw _ wd40) Via.refl e60 c64 d13_42 45 rfl ?_
  intro T65 X65 e65
  refine gCmpN X65 H d13_45 (by decide) 48 rfl ?_
  refine gAloadN X65 H d13_48 rfl rfl 49 rfl ?_
  refine gAloadN X65 H d13_49 rfl rfl 50 rfl ?_
  refine gGetF X65 H hZ hown (hw _ wd40) Via.refl e65 c64 d13_50 53 rfl ?_
  intro T66 X66 e66
  refine gNull X66 H d13_53 54 rfl ?_
  refine gAastore X66 H hZ e66 rfl (Or.inl rfl) V60 ⟨by decide, by decide⟩ (i := 0) rfl (Nat.le_of_ble_eq_true rfl) (vs' := [.null]) rfl d13_54 55 rfl ?_
  intro T67 h67 X67 e67 W67 V67
  have O67 := extW O60 W67 q61
  have N67 := Fr.snoc X67 N60c q61
  refine gAloadN X67 H d13_55 rfl rfl 56 rfl ?_
  have K_68 := (Keep.refl h [ro1]).trans K60 (allS (Or.inl (List.mem_of_getElem? (i := 0) rfl)) all0)
  have K_69 := K_68.wr W67 (Or.inl (List.mem_of_getElem? (i := 0) rfl))
  exact gRetA X67 H hlk hret rfl rfl rfl d13_56 e67 ⟨rfl, N67, K_69, V67⟩
theorem rm99_11 (B : Bg Z a0 wE0 w_cacheI k_wE0 cl_cacheI) (ro0 ro1 : Addr) (h : Heap) (O : Ext Z.heap h) (q35 : Exa Z h ro0 cs3) (q36 : Fld Z h ro0 cs3 "serial" "I" (.int 0)) (q37 : Z.heap.size ≤ ro0) (q38 : Exa Z h ro1 cs1) (q43 : Fld Z h ro1 cs1 "size" "I" (.int 0)) (q44 : ro1 ≠ ro0) (q72 : Fld Z h ro1 cs1 "elementData" cs2 (.ref wE0)) (q77 : Fld Z h ro0 cs3 "buffer" cs2 .null) (q84 : Fld Z h ro0 cs3 "size" "I" (.int 0)) (q89 : Fld Z h ro0 cs3 "firstNumber" "J" (.long 0)) (q91 : Fld Z h ro0 cs3 "head" "I" (.int 0)) :
    Con l Z yM11 prog_50_method_1_code 3 none ({ frames := 2, cells := 1, slots := 1, locals := 32 } : Room) #[(.ref ro0), (.int 1), (.ref ro1)] h (fun v h' L => ∃ (b49 : Addr) (k49 : ClassId), v = none ∧ Fr Z.heap.size L ∧ Keep h h' [ro0] ∧ h.size ≤ b49 ∧ Exa Z h' ro0 cs3 ∧ Fld Z h' ro0 cs3 "serial" "I" (.int 1) ∧ Arv Z h' b49 k49 (.object "java/lang/Object") (1 : Int32) [.null] .null ∧ Fld Z h' ro0 cs3 "buffer" cs2 (.ref b49) ∧ Fld Z h' ro0 cs3 "size" "I" (.int 0) ∧ Fld Z h' ro0 cs3 "firstNumber" "J" (.long 0) ∧ Fld Z h' ro0 cs3 "head" "I" (.int 0) ∧ Ovr Z k49 "java/lang/Object") := by
  have hw := B.1
  refine Con.of (plainFor_of_name pn11) (Ls := #[vR ro0, vI 1, vR ro1]) (fun _ => rfl) ?_
  intro p e s m below meth c T0 X0 H hml hZ hown hnm hret hlk e0
  have M0 := Nat.le_refl h.size
  have N0 := Fr.nil Z.heap.size
  refine gAloadN X0 H d11_0 rfl rfl 1 rfl ?_
  refine gInitO X0 H hZ hown (hw _ wd70) (hw _ wd19) (hw _ wd20) e0 hml rfl (V := 0) (Nat.le_of_eq rfl) (by decide) (by decide) d11_1 4 rfl ?_
  intro T33 X33 e33
  refine gAloadN X33 H d11_4 rfl rfl 5 rfl ?_
  refine gIloadN X33 H d11_5 rfl 6 rfl ?_
  refine gPutF X33 H hZ hown (hw _ wd71) Via.refl e33 q36 q35 (Or.inr ⟨(hw _ wd72), rfl, hnm⟩) (hw _ wd65) (ty := .int) (by decide) (v' := (.int 1)) rfl rfl d11_6 9 rfl ?_
  intro T34 h34 X34 e34 W34 F34
  have O34 := extW O W34 q37
  have N34 := Fr.snoc X34 N0 q37
  refine gAloadN X34 H d11_9 rfl rfl 10 rfl ?_
  refine gAloadN X34 H d11_10 rfl rfl 11 rfl ?_
  refine gAloadN X34 H d11_11 rfl rfl 12 rfl ?_
  have c39 := (q38.wr W34)
  have c45 := (q43.other W34 (Or.inl q44))
  refine gInterface X34 H hZ hown (hw _ wd73) (hw _ wd74) (mvT hZ (hw _ wd75)) (hw _ wd76) (hw _ wd77) (hw _ wd78) (hw _ wd79) (hw _ wd80) (by decide) c39 (hw _ wd81) (hw _ wd2) (rm42_12 B ro1 _ O34 c45) e34 hml rfl pd1 rfl (W := 2) (argsL := []) (rest := [(.ref ro1), (.ref ro0)]) rfl rfl d11_12 17 rfl ?_
  intro v46 T46 L46 hq46 X46
  obtain ⟨rfl, e46, rfl⟩ := hq46
  have N46 := Fr.app N34 (Fr.nil _)
  show Go _ _ _ _ (State.setTop _ (mkF _ 17 _ [(.int 0), (.ref ro1), (.ref ro0)]))
  refine gIconst X46 H d11_17 (z := 1) rfl 18 rfl ?_
  refine gStatic X46 H hZ hown (hw _ wd82) (hw _ wd58) (by decide) (hw _ wd60) (hw _ wd59) (rm47_10 B _ O34) e46 hml rfl pd2 rfl (W := 2) (argsL := [(.int 0), (.int 1)]) (rest := [(.ref ro1), (.ref ro0)]) rfl rfl d11_18 21 rfl ?_
  intro v48 T48 L48 hq48 X48
  obtain ⟨rfl, e48, rfl⟩ := hq48
  have N48 := Fr.app N46 (Fr.nil _)
  show Go _ _ _ _ (State.setTop _ (mkF _ 21 _ [(.int 1), (.ref ro1), (.ref ro0)]))
  refine gNewR X48 H hZ hown (hw _ wd83) (hw _ wd62) e48 (by decide) (cap := 1) (by decide) (by decide) (vs := [.null]) rfl (by decide) (by decide) d11_21 24 rfl ?_
  intro T49 h49 b49 k49 X49 e49 z49 E49 V49 Q49
  have M50 := (leW M0 W34)
  have G_b49 := Nat.le_trans O34.1 (Nat.le_of_eq z49)
  have sz_b49 := Nat.le_trans M50 (Nat.le_of_eq z49)
  have O49 := extT O34 E49
  have c51 := (c39.ext E49)
  have c71 := (c45.ext E49)
  have c73 := ((q72.other W34 (Or.inl q44)).ext E49)
  refine gInterface X49 H hZ hown (hw _ wd84) (hw _ wd85) (mvT hZ (hw _ wd86)) (hw _ wd87) (hw _ wd88) (hw _ wd89) (hw _ wd90) (hw _ wd80) (by decide) c51 (hw _ wd91) (hw _ wd2) (rm70_13 B ro1 b49 k49 _ O49 (Arv.arl V49) c71 c73 V49 G_b49 (neB q38.lt sz_b49)) e49 hml rfl pd3 rfl (W := 1) (argsL := [(.ref b49)]) (rest := [(.ref ro0)]) rfl rfl d11_24 29 rfl ?_
  intro v74 T74 L74 hq74 X74
  obtain ⟨rfl, N74q, K74, f74_0⟩ := hq74
  have O74 := extK O49 K74 (allS G_b49 all0)
  have N74 := Fr.app N48 N74q
  show Go _ _ _ _ (State.setTop _ (mkF _ 29 _ [(.ref b49), (.ref ro0)]))
  have c76 := (((q35.wr W34).ext E49).keep K74)
  have c78 := (((q77.other W34 (Or.inr (sn4 hw))).ext E49).keep K74 (ninS (neB q35.lt sz_b49) nin0))
  refine gPutF X74 H hZ hown (hw _ wd96) Via.refl rfl c78 c76 (Or.inl (hw _ wd97)) (hw _ wd65) (ty := (.array (.object "java/lang/Object"))) (by decide) (v' := (.ref b49)) rfl rfl d11_29 32 rfl ?_
  intro T75 h75 X75 e75 W75 F75
  have O75 := extW O74 W75 q37
  have N75 := Fr.snoc X75 N74 q37
  refine gAloadN X75 H d11_32 rfl rfl 33 rfl ?_
  refine gAloadN X75 H d11_33 rfl rfl 34 rfl ?_
  have c79 := ((c51.keep K74).wr W75)
  have c80 := ((c71.keep K74 (ninS (neB q38.lt sz_b49) nin0)).other W75 (Or.inl q44))
  refine gInterface X75 H hZ hown (hw _ wd73) (hw _ wd74) (mvT hZ (hw _ wd75)) (hw _ wd76) (hw _ wd77) (hw _ wd78) (hw _ wd79) (hw _ wd80) (by decide) c79 (hw _ wd81) (hw _ wd2) (rm42_12 B ro1 _ O75 c80) e75 hml rfl pd1 rfl (W := 1) (argsL := []) (rest := [(.ref ro0)]) rfl rfl d11_34 39 rfl ?_
  intro v81 T81 L81 hq81 X81
  obtain ⟨rfl, e81, rfl⟩ := hq81
  have N81 := Fr.app N75 (Fr.nil _)
  show Go _ _ _ _ (State.setTop _ (mkF _ 39 _ [(.int 0), (.ref ro0)]))
  have c83 := (c76.wr W75)
  have c85 := ((((q84.other W34 (Or.inr (sn5 hw))).ext E49).keep K74 (ninS (neB q35.lt sz_b49) nin0)).other W75 (Or.inr (sn6 hw)))
  refine gPutF X81 H hZ hown (hw _ wd98) Via.refl e81 c85 c83 (Or.inl (hw _ wd99)) (hw _ wd65) (ty := .int) (by decide) (v' := (.int 0)) rfl rfl d11_39 42 rfl ?_
  intro T82 h82 X82 e82 W82 F82
  have O82 := extW O75 W82 q37
  have N82 := Fr.snoc X82 N81 q37
  have c86 := (c83.wr W82)
  have c87 := ((((F34.ext E49).keep K74 (ninS (neB q35.lt sz_b49) nin0)).other W75 (Or.inr (sn7 hw))).other W82 (Or.inr (sn8 hw)))
  have c88 := (F75.other W82 (Or.inr (sn9 hw)))
  have c90 := (((((q89.other W34 (Or.inr (sn10 hw))).ext E49).keep K74 (ninS (neB q35.lt sz_b49) nin0)).other W75 (Or.inr (sn11 hw))).other W82 (Or.inr (sn12 hw)))
  have c92 := (((((q91.other W34 (Or.inr (sn13 hw))).ext E49).keep K74 (ninS (neB q35.lt sz_b49) nin0)).other W75 (Or.inr (sn14 hw))).other W82 (Or.inr (sn15 hw)))
  have c93 := ((f74_0.other W75 (Ne.symm (neB q35.lt sz_b49))).other W82 (Ne.symm (neB q35.lt sz_b49)))
  have K_94 := (Keep.refl h [ro0]).wr W34 (Or.inl (List.mem_of_getElem? (i := 0) rfl))
  have K_95 := K_94.ext E49
  have K_96 := K_95.trans K74 (allS (Or.inr sz_b49) all0)
  have K_97 := K_96.wr W75 (Or.inl (List.mem_of_getElem? (i := 0) rfl))
  have K_98 := K_97.wr W82 (Or.inl (List.mem_of_getElem? (i := 0) rfl))
  exact gRetV X82 H hlk hret d11_42 e82 ⟨b49, k49, rfl, N82, K_98, sz_b49, c86, c87, c93, c88, F82, c90, c92, Q49⟩
theorem rm110_5 (B : Bg Z a0 wE0 w_cacheI k_wE0 cl_cacheI) (h : Heap) (O : Ext Z.heap h) :
    Con l Z yM5 jdk_33_method_22_code 1 (some (.object "java/lang/Integer")) ({ frames := 0, cells := 0, slots := 0, locals := 0 } : Room) #[(.int 20)] h (fun v h' L => ∃ (b109 : Addr), v = some (.ref b109) ∧ Fr Z.heap.size L ∧ Keep h h' [] ∧ Exa Z h' b109 cs4) := by
  have hw := B.1
  obtain ⟨S_wE0, V_wE0, S_high, S_cacheI, B_cacheI⟩ := B.2
  refine Con.of (plainFor_of_name pn5) (Ls := #[vI 20]) (fun _ => rfl) ?_
  intro p e s m below meth c T0 X0 H hml hZ hown hnm hret hlk e0
  have N0 := Fr.nil Z.heap.size
  refine gIloadN X0 H d5_0 rfl 1 rfl ?_
  refine gBipush X0 H d5_1 (z := (-128)) rfl 3 rfl ?_
  refine gCmpN X0 H d5_3 (by decide) 6 rfl ?_
  refine gIloadN X0 H d5_6 rfl 7 rfl ?_
  refine gGetS X0 H hZ hown (hw _ wd30) e0 (S_high.ext O) d5_7 10 rfl ?_
  intro T107 X107 e107
  refine gCmpN X107 H d5_10 (by decide) 13 rfl ?_
  refine gGetS X107 H hZ hown (hw _ wd32) e107 (S_cacheI.ext O) d5_13 16 rfl ?_
  intro T108 X108 e108
  refine gIloadN X108 H d5_16 rfl 17 rfl ?_
  refine gSipush X108 H d5_17 (z := 128) rfl 20 rfl ?_
  refine g_iadd X108 H d5_20 (z := 148) (by decide) 21 rfl ?_
  obtain ⟨b109, q109, A109, f109⟩ := B_cacheI.2.2.2 (148 : Int32) (inb_of B_cacheI.2.1 ⟨by decide, by decide⟩)
  refine gBoxload X108 H hZ e108 rfl (B_cacheI.1.ext O) (inb_of B_cacheI.2.1 ⟨by decide, by decide⟩) q109 d5_21 22 rfl ?_
  exact gRetA X108 H hlk hret rfl rfl rfl d5_22 e108 ⟨b109, rfl, N0, (Keep.refl h []), (A109.ext O)⟩
theorem rm121_21 (B : Bg Z a0 wE0 w_cacheI k_wE0 cl_cacheI) (ro0 ro1 : Addr) (h : Heap) (O : Ext Z.heap h) (q115 : Fld Z h ro0 cs3 "size" "I" (.int 0)) (q117 : Fld Z h ro0 cs3 "buffer" cs2 (.ref ro1)) (q120 : Arl Z h ro1 (1 : Int32)) :
    Con l Z yM21 prog_50_method_13_code 4 none ({ frames := 0, cells := 0, slots := 0, locals := 0 } : Room) #[(.ref ro0)] h (fun v h' L => v = none ∧ h' = h ∧ L = []) := by
  have hw := B.1
  refine Con.of (plainFor_of_name pn21) (Ls := #[vR ro0, .unset, .unset, .unset]) (fun _ => rfl) ?_
  intro p e s m below meth c T0 X0 H hml hZ hown hnm hret hlk e0
  refine gAloadN X0 H d21_0 rfl rfl 1 rfl ?_
  refine gGetF X0 H hZ hown (hw _ wd98) Via.refl e0 q115 d21_1 4 rfl ?_
  intro T116 X116 e116
  refine gAloadN X116 H d21_4 rfl rfl 5 rfl ?_
  refine gGetF X116 H hZ hown (hw _ wd96) Via.refl e116 q117 d21_5 8 rfl ?_
  intro T118 X118 e118
  refine gLen X118 H hZ e118 q120 d21_8 9 rfl ?_
  refine gCmpN X118 H d21_9 (by decide) 12 rfl ?_
  exact gRetV X118 H hlk hret d21_12 e118 ⟨rfl, rfl, rfl⟩
theorem rm134_18 (B : Bg Z a0 wE0 w_cacheI k_wE0 cl_cacheI) (ro0 ro1 : Addr) (h : Heap) (O : Ext Z.heap h) (q128 : Fld Z h ro0 cs3 "head" "I" (.int 0)) (q130 : Fld Z h ro0 cs3 "buffer" cs2 (.ref ro1)) (q133 : Arl Z h ro1 (1 : Int32)) :
    Con l Z yM18 prog_50_method_12_code 3 (some .int) ({ frames := 0, cells := 0, slots := 0, locals := 0 } : Room) #[(.ref ro0), (.int 0)] h (fun v h' L => v = some (.int 0) ∧ h' = h ∧ L = []) := by
  have hw := B.1
  refine Con.of (plainFor_of_name pn18) (Ls := #[vR ro0, vI 0, .unset]) (fun _ => rfl) ?_
  intro p e s m below meth c T0 X0 H hml hZ hown hnm hret hlk e0
  refine gAloadN X0 H d18_0 rfl rfl 1 rfl ?_
  refine gGetF X0 H hZ hown (hw _ wd125) Via.refl e0 q128 d18_1 4 rfl ?_
  intro T129 X129 e129
  refine gIloadN X129 H d18_4 rfl 5 rfl ?_
  refine g_iadd X129 H d18_5 (z := 0) (by decide) 6 rfl ?_
  refine gIstoreN X129 H d18_6 (Ls' := #[vR ro0, vI 0, vI 0]) rfl 7 rfl ?_
  refine gIloadN X129 H d18_7 rfl 8 rfl ?_
  refine gAloadN X129 H d18_8 rfl rfl 9 rfl ?_
  refine gGetF X129 H hZ hown (hw _ wd96) Via.refl e129 q130 d18_9 12 rfl ?_
  intro T131 X131 e131
  refine gLen X131 H hZ e131 q133 d18_12 13 rfl ?_
  refine gCmpN X131 H d18_13 (by decide) 16 rfl ?_
  refine gIloadN X131 H d18_16 rfl 17 rfl ?_
  refine gGoto X131 H d18_17 (by decide) 27 rfl ?_
  exact gRetI X131 H hlk hret d18_27 e131 ⟨rfl, rfl, rfl⟩
theorem rm161_23 (B : Bg Z a0 wE0 w_cacheI k_wE0 cl_cacheI) (ro0 ro1 ro2 : Addr) (ck3 : ClassId) (h : Heap) (O : Ext Z.heap h) (q149 : Fld Z h ro0 cs3 "buffer" cs2 (.ref ro2)) (q151 : Exa Z h ro0 cs3) (q152 : Fld Z h ro0 cs3 "head" "I" (.int 0)) (q153 : Arl Z h ro2 (1 : Int32)) (q156 : Arv Z h ro2 ck3 (.object "java/lang/Object") (1 : Int32) [.null] .null) (q157 : Exa Z h ro1 cs4) (q158 : Ovr Z ck3 "java/lang/Object") (q159 : Z.heap.size ≤ ro2) :
    Con l Z yM23 prog_50_method_5_code 3 none ({ frames := 1, cells := 0, slots := 0, locals := 15 } : Room) #[(.ref ro0), (.int 0), (.ref ro1)] h (fun v h' L => v = none ∧ Fr Z.heap.size L ∧ Keep h h' [ro2] ∧ Arv Z h' ro2 ck3 (.object "java/lang/Object") (1 : Int32) [(.ref ro1)] .null) := by
  have hw := B.1
  refine Con.of (plainFor_of_name pn23) (Ls := #[vR ro0, vI 0, vR ro1]) (fun _ => rfl) ?_
  intro p e s m below meth c T0 X0 H hml hZ hown hnm hret hlk e0
  have N0 := Fr.nil Z.heap.size
  refine gAloadN X0 H d23_0 rfl rfl 1 rfl ?_
  refine gGetF X0 H hZ hown (hw _ wd96) Via.refl e0 q149 d23_1 4 rfl ?_
  intro T150 X150 e150
  refine gAloadN X150 H d23_4 rfl rfl 5 rfl ?_
  refine gIloadN X150 H d23_5 rfl 6 rfl ?_
  refine gPrivate X150 H hZ hown (hw _ wd121) (hw _ wd122) (hw _ wd123) (hw _ wd65) (by decide) q151 (hw _ wd124) (hw _ wd66) (rm134_18 B ro0 ro2 _ O q152 q149 q153) e150 hml rfl pd6 rfl (W := 1) (argsL := [(.int 0)]) (rest := [(.ref ro2)]) rfl rfl d23_6 9 rfl ?_
  intro v154 T154 L154 hq154 X154
  obtain ⟨rfl, e154, rfl⟩ := hq154
  have N154 := Fr.app N0 (Fr.nil _)
  show Go _ _ _ _ (State.setTop _ (mkF _ 9 _ [(.int 0), (.ref ro2)]))
  refine gAloadN X154 H d23_9 rfl rfl 10 rfl ?_
  refine gAastore X154 H hZ e154 rfl (stoV q156 q158 (Ins.of_exa q157 (hw _ wd63))) q156 ⟨by decide, by decide⟩ (i := 0) rfl (Nat.le_of_ble_eq_true rfl) (vs' := [(.ref ro1)]) rfl d23_10 11 rfl ?_
  intro T155 h155 X155 e155 W155 V155
  have O155 := extW O W155 q159
  have N155 := Fr.snoc X155 N154 q159
  have K_160 := (Keep.refl h [ro2]).wr W155 (Or.inl (List.mem_of_getElem? (i := 0) rfl))
  exact gRetV X155 H hlk hret d23_11 e155 ⟨rfl, N155, K_160, V155⟩
theorem rm185_20 (B : Bg Z a0 wE0 w_cacheI k_wE0 cl_cacheI) (ro0 ro1 ro2 : Addr) (ck3 : ClassId) (h : Heap) (O : Ext Z.heap h) (q114 : Exa Z h ro0 cs3) (q122 : Fld Z h ro0 cs3 "size" "I" (.int 0)) (q123 : Fld Z h ro0 cs3 "buffer" cs2 (.ref ro2)) (q124 : Arl Z h ro2 (1 : Int32)) (q135 : Fld Z h ro0 cs3 "head" "I" (.int 0)) (q138 : Z.heap.size ≤ ro0) (q143 : Fld Z h ro0 cs3 "firstNumber" "J" (.long 0)) (q165 : ro2 ≠ ro0) (q167 : Arv Z h ro2 ck3 (.object "java/lang/Object") (1 : Int32) [.null] .null) (q169 : Exa Z h ro1 cs4) (q171 : Ovr Z ck3 "java/lang/Object") (q172 : Z.heap.size ≤ ro2) (q179 : Fld Z h ro0 cs3 "serial" "I" (.int 1)) :
    Con l Z yM20 prog_50_method_9_code 2 none ({ frames := 2, cells := 0, slots := 0, locals := 29 } : Room) #[(.ref ro0), (.ref ro1)] h (fun v h' L => v = none ∧ Fr Z.heap.size L ∧ Keep h h' [ro0, ro2] ∧ Exa Z h' ro0 cs3 ∧ Fld Z h' ro0 cs3 "size" "I" (.int 1) ∧ Fld Z h' ro0 cs3 "buffer" cs2 (.ref ro2) ∧ Fld Z h' ro0 cs3 "head" "I" (.int 0) ∧ Fld Z h' ro0 cs3 "firstNumber" "J" (.long (-1)) ∧ Arv Z h' ro2 ck3 (.object "java/lang/Object") (1 : Int32) [(.ref ro1)] .null ∧ Fld Z h' ro0 cs3 "serial" "I" (.int 1)) := by
  have hw := B.1
  refine Con.of (plainFor_of_name pn20) (Ls := #[vR ro0, vR ro1]) (fun _ => rfl) ?_
  intro p e s m below meth c T0 X0 H hml hZ hown hnm hret hlk e0
  have N0 := Fr.nil Z.heap.size
  refine gAloadN X0 H d20_0 rfl rfl 1 rfl ?_
  refine gPrivate X0 H hZ hown (hw _ wd135) (hw _ wd136) (hw _ wd137) (hw _ wd65) (by decide) q114 (hw _ wd138) (hw _ wd66) (rm121_21 B ro0 ro2 _ O q122 q123 q124) e0 hml rfl pd0 rfl (W := 0) (argsL := []) (rest := []) rfl rfl d20_1 4 rfl ?_
  intro v125 T125 L125 hq125 X125
  obtain ⟨rfl, e125, rfl⟩ := hq125
  have N125 := Fr.app N0 (Fr.nil _)
  show Go _ _ _ _ (State.setTop _ (mkF _ 4 _ []))
  refine gAloadN X125 H d20_4 rfl rfl 5 rfl ?_
  refine gAloadN X125 H d20_5 rfl rfl 6 rfl ?_
  refine gAloadN X125 H d20_6 rfl rfl 7 rfl ?_
  refine gGetF X125 H hZ hown (hw _ wd96) Via.refl e125 q123 d20_7 10 rfl ?_
  intro T126 X126 e126
  refine gLen X126 H hZ e126 q124 d20_10 11 rfl ?_
  refine gIconst X126 H d20_11 (z := 1) rfl 12 rfl ?_
  refine g_isub X126 H d20_12 (z := 0) (by decide) 13 rfl ?_
  refine gPrivate X126 H hZ hown (hw _ wd121) (hw _ wd122) (hw _ wd123) (hw _ wd65) (by decide) q114 (hw _ wd124) (hw _ wd66) (rm134_18 B ro0 ro2 _ O q135 q123 q124) e126 hml rfl pd6 rfl (W := 1) (argsL := [(.int 0)]) (rest := [(.ref ro0)]) rfl rfl d20_13 16 rfl ?_
  intro v136 T136 L136 hq136 X136
  obtain ⟨rfl, e136, rfl⟩ := hq136
  have N136 := Fr.app N125 (Fr.nil _)
  show Go _ _ _ _ (State.setTop _ (mkF _ 16 _ [(.int 0), (.ref ro0)]))
  refine gPutF X136 H hZ hown (hw _ wd125) Via.refl e136 q135 q114 (Or.inl (hw _ wd126)) (hw _ wd65) (ty := .int) (by decide) (v' := (.int 0)) rfl rfl d20_16 19 rfl ?_
  intro T137 h137 X137 e137 W137 F137
  have O137 := extW O W137 q138
  have N137 := Fr.snoc X137 N136 q138
  refine gAloadN X137 H d20_19 rfl rfl 20 rfl ?_
  refine gDup X137 H d20_20 rfl 21 rfl ?_
  have c139 := (q122.other W137 (Or.inr (sn16 hw)))
  refine gGetF X137 H hZ hown (hw _ wd98) Via.refl e137 c139 d20_21 24 rfl ?_
  intro T140 X140 e140
  refine gIconst X140 H d20_24 (z := 1) rfl 25 rfl ?_
  refine g_iadd X140 H d20_25 (z := 1) (by decide) 26 rfl ?_
  have c142 := (q114.wr W137)
  refine gPutF X140 H hZ hown (hw _ wd98) Via.refl e140 c139 c142 (Or.inl (hw _ wd99)) (hw _ wd65) (ty := .int) (by decide) (v' := (.int 1)) rfl rfl d20_26 29 rfl ?_
  intro T141 h141 X141 e141 W141 F141
  have O141 := extW O137 W141 q138
  have N141 := Fr.snoc X141 N137 q138
  refine gAloadN X141 H d20_29 rfl rfl 30 rfl ?_
  refine gDup X141 H d20_30 rfl 31 rfl ?_
  have c144 := ((q143.other W137 (Or.inr (sn17 hw))).other W141 (Or.inr (sn12 hw)))
  refine gGetF X141 H hZ hown (hw _ wd105) Via.refl e141 c144 d20_31 34 rfl ?_
  intro T145 X145 e145
  refine gLconst X145 H d20_34 (z := 1) rfl 35 rfl ?_
  refine g_lsub X145 H d20_35 (z := (-1)) (by decide) 36 rfl ?_
  have c147 := (c142.wr W141)
  refine gPutF X145 H hZ hown (hw _ wd105) Via.refl e145 c144 c147 (Or.inl (hw _ wd106)) (hw _ wd65) (ty := .long) (by decide) (v' := (.long (-1))) rfl rfl d20_36 39 rfl ?_
  intro T146 h146 X146 e146 W146 F146
  have O146 := extW O141 W146 q138
  have N146 := Fr.snoc X146 N141 q138
  refine gAloadN X146 H d20_39 rfl rfl 40 rfl ?_
  refine gIconst X146 H d20_40 (z := 0) rfl 41 rfl ?_
  refine gAloadN X146 H d20_41 rfl rfl 42 rfl ?_
  have c148 := (c147.wr W146)
  have c162 := (((q123.other W137 (Or.inr (sn18 hw))).other W141 (Or.inr (sn9 hw))).other W146 (Or.inr (sn19 hw)))
  have c163 := ((F137.other W141 (Or.inr (sn15 hw))).other W146 (Or.inr (sn20 hw)))
  have c166 := (((q124.other W137 q165).other W141 q165).other W146 q165)
  have c168 := (((q167.other W137 q165).other W141 q165).other W146 q165)
  have c170 := (((q169.wr W137).wr W141).wr W146)
  refine gVirt X146 H hZ hown (hw _ wd144) (hw _ wd145) (hw _ wd147) (hw _ wd146) (by decide) c148 (hw _ wd148) (hw _ wd66) (rm161_23 B ro0 ro1 ro2 ck3 _ O146 c162 c148 c163 c166 c168 c170 q171 q172) e146 hml rfl pd7 rfl (W := 0) (argsL := [(.int 0), (.ref ro1)]) (rest := []) rfl rfl d20_42 45 rfl ?_
  intro v173 T173 L173 hq173 X173
  obtain ⟨rfl, N173q, K173, f173_0⟩ := hq173
  have O173 := extK O146 K173 (allS q172 all0)
  have N173 := Fr.app N146 N173q
  show Go _ _ _ _ (State.setTop _ (mkF _ 45 _ []))
  have c174 := (c148.keep K173)
  have c175 := ((F141.other W146 (Or.inr (sn21 hw))).keep K173 (ninS (Ne.symm q165) nin0))
  have c176 := (c162.keep K173 (ninS (Ne.symm q165) nin0))
  have c177 := (c163.keep K173 (ninS (Ne.symm q165) nin0))
  have c178 := (F146.keep K173 (ninS (Ne.symm q165) nin0))
  have c180 := ((((q179.other W137 (Or.inr (sn22 hw))).other W141 (Or.inr (sn8 hw))).other W146 (Or.inr (sn23 hw))).keep K173 (ninS (Ne.symm q165) nin0))
  have K_181 := (Keep.refl h [ro0, ro2]).wr W137 (Or.inl (List.mem_of_getElem? (i := 0) rfl))
  have K_182 := K_181.wr W141 (Or.inl (List.mem_of_getElem? (i := 0) rfl))
  have K_183 := K_182.wr W146 (Or.inl (List.mem_of_getElem? (i := 0) rfl))
  have K_184 := K_183.trans K173 (allS (Or.inl (List.mem_of_getElem? (i := 1) rfl)) all0)
  exact gRetV X173 H hlk hret d20_45 rfl ⟨rfl, N173, K_184, c174, c175, c176, c177, c178, f173_0, c180⟩
theorem rm207_15 (B : Bg Z a0 wE0 w_cacheI k_wE0 cl_cacheI) (ro0 ro1 : Addr) (ck2 : ClassId) (h : Heap) (O : Ext Z.heap h) (q112 : Exa Z h ro0 cs3) (q164 : ro1 ≠ ro0) (q186 : Fld Z h ro0 cs3 "size" "I" (.int 0)) (q188 : Fld Z h ro0 cs3 "buffer" cs2 (.ref ro1)) (q190 : Arl Z h ro1 (1 : Int32)) (q192 : Fld Z h ro0 cs3 "head" "I" (.int 0)) (q194 : Z.heap.size ≤ ro0) (q195 : Fld Z h ro0 cs3 "firstNumber" "J" (.long 0)) (q197 : Arv Z h ro1 ck2 (.object "java/lang/Object") (1 : Int32) [.null] .null) (q199 : Ovr Z ck2 "java/lang/Object") (q200 : Z.heap.size ≤ ro1) (q201 : Fld Z h ro0 cs3 "serial" "I" (.int 1)) :
    Con l Z yM15 method_2_code 2 none ({ frames := 3, cells := 0, slots := 0, locals := 42 } : Room) #[(.ref ro0), (.int 0)] h (fun v h' L => ∃ (b111_0 : Addr), v = none ∧ Fr Z.heap.size L ∧ Keep h h' [ro0, ro1] ∧ Exa Z h' b111_0 cs4 ∧ Exa Z h' ro0 cs3 ∧ Fld Z h' ro0 cs3 "size" "I" (.int 1) ∧ Fld Z h' ro0 cs3 "buffer" cs2 (.ref ro1) ∧ Fld Z h' ro0 cs3 "head" "I" (.int 0) ∧ Fld Z h' ro0 cs3 "firstNumber" "J" (.long (-1)) ∧ Arv Z h' ro1 ck2 (.object "java/lang/Object") (1 : Int32) [(.ref b111_0)] .null ∧ Fld Z h' ro0 cs3 "serial" "I" (.int 1)) := by
  have hw := B.1
  refine Con.of (plainFor_of_name pn15) (Ls := #[vR ro0, vI 0]) (fun _ => rfl) ?_
  intro p e s m below meth c T0 X0 H hml hZ hown hnm hret hlk e0
  have N0 := Fr.nil Z.heap.size
  refine gIloadN X0 H d15_0 rfl 1 rfl ?_
  refine gIfY X0 H d15_1 (by decide) (by decide) 12 rfl ?_
  refine gAloadN X0 H d15_12 rfl rfl 13 rfl ?_
  refine gBipush X0 H d15_13 (z := 20) rfl 15 rfl ?_
  refine gStatic X0 H hZ hown (hw _ wd26) (hw _ wd27) (by decide) (hw _ wd29) (hw _ wd28) (rm110_5 B _ O) e0 hml rfl pd5 rfl (W := 1) (argsL := [(.int 20)]) (rest := [(.ref ro0)]) rfl rfl d15_15 18 rfl ?_
  intro v111 T111 L111 hq111 X111
  obtain ⟨b111_0, rfl, N111q, K111, f111_0⟩ := hq111
  have O111 := extK O K111 all0
  have N111 := Fr.app N0 N111q
  show Go _ _ _ _ (State.setTop _ (mkF _ 18 _ [(.ref b111_0), (.ref ro0)]))
  have c113 := (q112.keep K111)
  have c187 := (q186.keep K111 nin0)
  have c189 := (q188.keep K111 nin0)
  have c191 := (q190.keep K111 nin0)
  have c193 := (q192.keep K111 nin0)
  have c196 := (q195.keep K111 nin0)
  have c198 := (q197.keep K111 nin0)
  have c202 := (q201.keep K111 nin0)
  refine gVirt X111 H hZ hown (hw _ wd130) (hw _ wd131) (hw _ wd133) (hw _ wd132) (by decide) c113 (hw _ wd134) (hw _ wd66) (rm185_20 B ro0 b111_0 ro1 ck2 _ O111 c113 c187 c189 c191 c193 q194 c196 q164 c198 f111_0 q199 q200 c202) rfl hml rfl pd8 rfl (W := 0) (argsL := [(.ref b111_0)]) (rest := []) rfl rfl d15_18 21 rfl ?_
  intro v203 T203 L203 hq203 X203
  obtain ⟨rfl, N203q, K203, f203_0, f203_1, f203_2, f203_3, f203_4, f203_5, f203_6⟩ := hq203
  have O203 := extK O111 K203 (allS q194 (allS q200 all0))
  have N203 := Fr.app N111 N203q
  show Go _ _ _ _ (State.setTop _ (mkF _ 21 _ []))
  have c204 := (f111_0.keep K203)
  have K_205 := (Keep.refl h [ro0, ro1]).trans K111 all0
  have K_206 := K_205.trans K203 (allS (Or.inl (List.mem_of_getElem? (i := 0) rfl)) (allS (Or.inl (List.mem_of_getElem? (i := 1) rfl)) all0))
  exact gRetV X203 H hlk hret d15_21 rfl ⟨b111_0, rfl, N203, K_206, c204, f203_0, f203_1, f203_2, f203_3, f203_4, f203_5, f203_6⟩
theorem rm222_22 (B : Bg Z a0 wE0 w_cacheI k_wE0 cl_cacheI) (h : Heap) (O : Ext Z.heap h) :
    Con l Z yM22 jdk_29_method_70_code 4 (some .long) ({ frames := 0, cells := 0, slots := 0, locals := 0 } : Room) #[(.long 2), (.long 2147483639)] h (fun v h' L => v = some (.long 2) ∧ h' = h ∧ L = []) := by
  refine Con.of (Jvm.Free.JP.mathPlain rfl (by decide +kernel)) (Ls := #[vJ 2, .second, vJ 2147483639, .second]) (fun _ => by first | (simp [entryFrame, mkF, argsToLocals, Value.category, maxLocals]; done) | rfl) ?_
  intro p e s m below meth c T0 X0 H hml hZ hown hnm hret hlk e0
  refine gLloadN X0 H d22_0 rfl 1 rfl ?_
  refine gLloadN X0 H d22_1 rfl 2 rfl ?_
  refine g_lcmp X0 H d22_2 (z := (lcmpW (2 : Int64) (2147483639 : Int64))) rfl 3 rfl ?_
  refine gIfN X0 H d22_3 (by decide) 6 rfl ?_
  refine gLloadN X0 H d22_6 rfl 7 rfl ?_
  refine gGoto X0 H d22_7 (by decide) 11 rfl ?_
  exact gRetL X0 H hlk hret d22_11 e0 ⟨rfl, rfl, rfl⟩
theorem rm238_17 (B : Bg Z a0 wE0 w_cacheI k_wE0 cl_cacheI) (ro0 ro1 : Addr) (ck2 : ClassId) (ro3 : Addr) (h : Heap) (O : Ext Z.heap h) (q230 : Fld Z h ro0 cs3 "buffer" cs2 (.ref ro1)) (q232 : Exa Z h ro0 cs3) (q233 : Fld Z h ro0 cs3 "head" "I" (.int 0)) (q234 : Arl Z h ro1 (1 : Int32)) (q237 : Arv Z h ro1 ck2 (.object "java/lang/Object") (1 : Int32) [(.ref ro3)] .null) :
    Con l Z yM17 prog_50_method_4_code 2 (some (.object "java/lang/Object")) ({ frames := 1, cells := 0, slots := 0, locals := 15 } : Room) #[(.ref ro0), (.int 0)] h (fun v h' L => v = some (.ref ro3) ∧ h' = h ∧ L = []) := by
  have hw := B.1
  refine Con.of (plainFor_of_name pn17) (Ls := #[vR ro0, vI 0]) (fun _ => rfl) ?_
  intro p e s m below meth c T0 X0 H hml hZ hown hnm hret hlk e0
  have N0 := Fr.nil Z.heap.size
  refine gAloadN X0 H d17_0 rfl rfl 1 rfl ?_
  refine gGetF X0 H hZ hown (hw _ wd96) Via.refl e0 q230 d17_1 4 rfl ?_
  intro T231 X231 e231
  refine gAloadN X231 H d17_4 rfl rfl 5 rfl ?_
  refine gIloadN X231 H d17_5 rfl 6 rfl ?_
  refine gPrivate X231 H hZ hown (hw _ wd121) (hw _ wd122) (hw _ wd123) (hw _ wd65) (by decide) q232 (hw _ wd124) (hw _ wd66) (rm134_18 B ro0 ro1 _ O q233 q230 q234) e231 hml rfl pd6 rfl (W := 1) (argsL := [(.int 0)]) (rest := [(.ref ro1)]) rfl rfl d17_6 9 rfl ?_
  intro v235 T235 L235 hq235 X235
  obtain ⟨rfl, e235, rfl⟩ := hq235
  have N235 := Fr.app N0 (Fr.nil _)
  show Go _ _ _ _ (State.setTop _ (mkF _ 9 _ [(.int 0), (.ref ro1)]))
  refine gAaload X235 H hZ e235 rfl q237 ⟨by decide, by decide⟩ (v := (.ref ro3)) rfl d17_9 10 rfl ?_
  exact gRetA X235 H hlk hret rfl rfl rfl d17_10 e235 ⟨rfl, rfl, rfl⟩
theorem rm270_21 (B : Bg Z a0 wE0 w_cacheI k_wE0 cl_cacheI) (ro0 ro1 : Addr) (ck2 : ClassId) (ro3 : Addr) (h : Heap) (O : Ext Z.heap h) (q214 : Fld Z h ro0 cs3 "size" "I" (.int 1)) (q216 : Fld Z h ro0 cs3 "buffer" cs2 (.ref ro1)) (q219 : Arl Z h ro1 (1 : Int32)) (q228 : Exa Z h ro0 cs3) (q240 : Fld Z h ro0 cs3 "head" "I" (.int 0)) (q243 : Arv Z h ro1 ck2 (.object "java/lang/Object") (1 : Int32) [(.ref ro3)] .null) (q247 : Exa Z h ro3 cs4) (q254 : Z.heap.size ≤ ro0) (q261 : Fld Z h ro0 cs3 "serial" "I" (.int 1)) (q263 : Fld Z h ro0 cs3 "firstNumber" "J" (.long (-1))) :
    Con l Z yM21 prog_50_method_13_code 4 none ({ frames := 2, cells := 1, slots := 2, locals := 30 } : Room) #[(.ref ro0)] h (fun v h' L => ∃ (b225 : Addr) (k225 : ClassId), v = none ∧ Fr Z.heap.size L ∧ Keep h h' [ro0] ∧ h.size ≤ b225 ∧ Fld Z h' ro0 cs3 "size" "I" (.int 1) ∧ Fld Z h' ro0 cs3 "buffer" cs2 (.ref b225) ∧ Arv Z h' b225 k225 (.object "java/lang/Object") (2 : Int32) [(.ref ro3), .null] .null ∧ Exa Z h' ro0 cs3 ∧ Fld Z h' ro0 cs3 "head" "I" (.int 0) ∧ Fld Z h' ro0 cs3 "serial" "I" (.int 1) ∧ Fld Z h' ro0 cs3 "firstNumber" "J" (.long (-1)) ∧ Ovr Z k225 "java/lang/Object") := by
  have hw := B.1
  refine Con.of (plainFor_of_name pn21) (Ls := #[vR ro0, .unset, .unset, .unset]) (fun _ => rfl) ?_
  intro p e s m below meth c T0 X0 H hml hZ hown hnm hret hlk e0
  have M0 := Nat.le_refl h.size
  have N0 := Fr.nil Z.heap.size
  refine gAloadN X0 H d21_0 rfl rfl 1 rfl ?_
  refine gGetF X0 H hZ hown (hw _ wd98) Via.refl e0 q214 d21_1 4 rfl ?_
  intro T215 X215 e215
  refine gAloadN X215 H d21_4 rfl rfl 5 rfl ?_
  refine gGetF X215 H hZ hown (hw _ wd96) Via.refl e215 q216 d21_5 8 rfl ?_
  intro T217 X217 e217
  refine gLen X217 H hZ e217 q219 d21_8 9 rfl ?_
  refine gCmpY X217 H d21_9 (by decide) (by decide) 13 rfl ?_
  refine gLdc2 X217 H hZ hown (hw _ wd139) d21_13 16 rfl ?_
  refine gAloadN X217 H d21_16 rfl rfl 17 rfl ?_
  refine gGetF X217 H hZ hown (hw _ wd96) Via.refl e217 q216 d21_17 20 rfl ?_
  intro T220 X220 e220
  refine gLen X220 H hZ e220 q219 d21_20 21 rfl ?_
  refine g_i2l X220 H d21_21 (z := 1) (by decide) 22 rfl ?_
  refine g_lmul X220 H d21_22 (z := 2) (by decide) 23 rfl ?_
  refine gLdc2 X220 H hZ hown (hw _ wd140) d21_23 26 rfl ?_
  refine gStatic X220 H hZ hown (hw _ wd141) (hw _ wd142) (by decide) (hw _ wd143) (hw _ wd59) (rm222_22 B _ O) e220 hml rfl pd10 rfl (W := 0) (argsL := [(.long 2), (.long 2147483639)]) (rest := []) rfl rfl d21_26 29 rfl ?_
  intro v223 T223 L223 hq223 X223
  obtain ⟨rfl, e223, rfl⟩ := hq223
  have N223 := Fr.app N0 (Fr.nil _)
  show Go _ _ _ _ (State.setTop _ (mkF _ 29 _ [(.long 2)]))
  refine g_l2i X223 H d21_29 (z := 2) (by decide) 30 rfl ?_
  refine gIstoreN X223 H d21_30 (Ls' := #[vR ro0, vI 2, .unset, .unset]) rfl 31 rfl ?_
  refine gIloadN X223 H d21_31 rfl 32 rfl ?_
  refine gAloadN X223 H d21_32 rfl rfl 33 rfl ?_
  refine gGetF X223 H hZ hown (hw _ wd98) Via.refl e223 q214 d21_33 36 rfl ?_
  intro T224 X224 e224
  refine gCmpY X224 H d21_36 (by decide) (by decide) 49 rfl ?_
  refine gIloadN X224 H d21_49 rfl 50 rfl ?_
  refine gNewR X224 H hZ hown (hw _ wd83) (hw _ wd62) e224 (by decide) (cap := 2) (by decide) (by decide) (vs := [.null, .null]) rfl (by decide) (by decide) d21_50 53 rfl ?_
  intro T225 h225 b225 k225 X225 e225 z225 E225 V225 Q225
  have G_b225 := Nat.le_trans O.1 (Nat.le_of_eq z225)
  have sz_b225 := Nat.le_trans M0 (Nat.le_of_eq z225)
  have O225 := extT O E225
  refine gAstoreN X225 H d21_53 rfl (Ls' := #[vR ro0, vI 2, vR b225, .unset]) rfl 54 rfl ?_
  refine gIconst X225 H d21_54 (z := 0) rfl 55 rfl ?_
  refine gIstoreN X225 H d21_55 (Ls' := #[vR ro0, vI 2, vR b225, vI 0]) rfl 56 rfl ?_
  refine gIloadN X225 H d21_56 rfl 57 rfl ?_
  refine gAloadN X225 H d21_57 rfl rfl 58 rfl ?_
  have c226 := (q214.ext E225)
  refine gGetF X225 H hZ hown (hw _ wd98) Via.refl e225 c226 d21_58 61 rfl ?_
  intro T227 X227 e227
  refine gCmpN X227 H d21_61 (by decide) 64 rfl ?_
  refine gAloadN X227 H d21_64 rfl rfl 65 rfl ?_
  refine gIloadN X227 H d21_65 rfl 66 rfl ?_
  refine gAloadN X227 H d21_66 rfl rfl 67 rfl ?_
  refine gIloadN X227 H d21_67 rfl 68 rfl ?_
  have c229 := (q228.ext E225)
  have c239 := (q216.ext E225)
  have c241 := (q240.ext E225)
  have c242 := (q219.ext E225)
  have c244 := (q243.ext E225)
  refine gVirt X227 H hZ hown (hw _ wd116) (hw _ wd117) (hw _ wd119) (hw _ wd118) (by decide) c229 (hw _ wd120) (hw _ wd66) (rm238_17 B ro0 ro1 ck2 ro3 _ O225 c239 c229 c241 c242 c244) e227 hml rfl pd11 rfl (W := 2) (argsL := [(.int 0)]) (rest := [(.int 0), (.ref b225)]) rfl rfl d21_68 71 rfl ?_
  intro v245 T245 L245 hq245 X245
  obtain ⟨rfl, e245, rfl⟩ := hq245
  have N245 := Fr.app N223 (Fr.nil _)
  show Go _ _ _ _ (State.setTop _ (mkF _ 71 _ [(.ref ro3), (.int 0), (.ref b225)]))
  have c248 := (q247.ext E225)
  refine gAastore X245 H hZ e245 rfl (stoV V225 Q225 (Ins.of_exa c248 (hw _ wd63))) V225 ⟨by decide, by decide⟩ (i := 0) rfl (Nat.le_of_ble_eq_true rfl) (vs' := [(.ref ro3), .null]) rfl d21_71 72 rfl ?_
  intro T246 h246 X246 e246 W246 V246
  have O246 := extW O225 W246 G_b225
  have N246 := Fr.snoc X246 N245 G_b225
  refine gIinc X246 H d21_72 rfl (Ls' := #[vR ro0, vI 2, vR b225, vI 1]) rfl 75 rfl ?_
  refine gGoto X246 H d21_75 (by decide) 56 rfl ?_
  refine gIloadN X246 H d21_56 rfl 57 rfl ?_
  refine gAloadN X246 H d21_57 rfl rfl 58 rfl ?_
  have c249 := (c226.other W246 (Or.inl (neB q214.lt sz_b225)))
  refine gGetF X246 H hZ hown (hw _ wd98) Via.refl e246 c249 d21_58 61 rfl ?_
  intro T250 X250 e250
  refine gCmpY X250 H d21_61 (by decide) (by decide) 78 rfl ?_
  refine gAloadN X250 H d21_78 rfl rfl 79 rfl ?_
  refine gAloadN X250 H d21_79 rfl rfl 80 rfl ?_
  have c252 := (c229.wr W246)
  have c253 := (c239.other W246 (Or.inl (neB q214.lt sz_b225)))
  refine gPutF X250 H hZ hown (hw _ wd96) Via.refl e250 c253 c252 (Or.inl (hw _ wd97)) (hw _ wd65) (ty := (.array (.object "java/lang/Object"))) (by decide) (v' := (.ref b225)) rfl rfl d21_80 83 rfl ?_
  intro T251 h251 X251 e251 W251 F251
  have O251 := extW O246 W251 q254
  have N251 := Fr.snoc X251 N246 q254
  refine gAloadN X251 H d21_83 rfl rfl 84 rfl ?_
  refine gIconst X251 H d21_84 (z := 0) rfl 85 rfl ?_
  have c256 := (c252.wr W251)
  have c257 := ((c241.other W246 (Or.inl (neB q214.lt sz_b225))).other W251 (Or.inr (sn14 hw)))
  refine gPutF X251 H hZ hown (hw _ wd125) Via.refl e251 c257 c256 (Or.inl (hw _ wd126)) (hw _ wd65) (ty := .int) (by decide) (v' := (.int 0)) rfl rfl d21_85 88 rfl ?_
  intro T255 h255 X255 e255 W255 F255
  have O255 := extW O251 W255 q254
  have N255 := Fr.snoc X255 N251 q254
  have c258 := ((c249.other W251 (Or.inr (sn6 hw))).other W255 (Or.inr (sn16 hw)))
  have c259 := (F251.other W255 (Or.inr (sn18 hw)))
  have c260 := (c256.wr W255)
  have c262 := ((((q261.ext E225).other W246 (Or.inl (neB q214.lt sz_b225))).other W251 (Or.inr (sn7 hw))).other W255 (Or.inr (sn22 hw)))
  have c264 := ((((q263.ext E225).other W246 (Or.inl (neB q214.lt sz_b225))).other W251 (Or.inr (sn11 hw))).other W255 (Or.inr (sn17 hw)))
  have c265 := ((V246.other W251 (Ne.symm (neB q214.lt sz_b225))).other W255 (Ne.symm (neB q214.lt sz_b225)))
  have K_266 := (Keep.refl h [ro0]).ext E225
  have K_267 := K_266.wr W246 (Or.inr sz_b225)
  have K_268 := K_267.wr W251 (Or.inl (List.mem_of_getElem? (i := 0) rfl))
  have K_269 := K_268.wr W255 (Or.inl (List.mem_of_getElem? (i := 0) rfl))
  exact gRetV X255 H hlk hret d21_88 e255 ⟨b225, k225, rfl, N255, K_269, sz_b225, c258, c259, c265, c260, F255, c262, c264, Q225⟩
theorem rm289_18 (B : Bg Z a0 wE0 w_cacheI k_wE0 cl_cacheI) (ro0 ro1 : Addr) (h : Heap) (O : Ext Z.heap h) (q283 : Fld Z h ro0 cs3 "head" "I" (.int 0)) (q285 : Fld Z h ro0 cs3 "buffer" cs2 (.ref ro1)) (q288 : Arl Z h ro1 (2 : Int32)) :
    Con l Z yM18 prog_50_method_12_code 3 (some .int) ({ frames := 0, cells := 0, slots := 0, locals := 0 } : Room) #[(.ref ro0), (.int 1)] h (fun v h' L => v = some (.int 1) ∧ h' = h ∧ L = []) := by
  have hw := B.1
  refine Con.of (plainFor_of_name pn18) (Ls := #[vR ro0, vI 1, .unset]) (fun _ => rfl) ?_
  intro p e s m below meth c T0 X0 H hml hZ hown hnm hret hlk e0
  refine gAloadN X0 H d18_0 rfl rfl 1 rfl ?_
  refine gGetF X0 H hZ hown (hw _ wd125) Via.refl e0 q283 d18_1 4 rfl ?_
  intro T284 X284 e284
  refine gIloadN X284 H d18_4 rfl 5 rfl ?_
  refine g_iadd X284 H d18_5 (z := 1) (by decide) 6 rfl ?_
  refine gIstoreN X284 H d18_6 (Ls' := #[vR ro0, vI 1, vI 1]) rfl 7 rfl ?_
  refine gIloadN X284 H d18_7 rfl 8 rfl ?_
  refine gAloadN X284 H d18_8 rfl rfl 9 rfl ?_
  refine gGetF X284 H hZ hown (hw _ wd96) Via.refl e284 q285 d18_9 12 rfl ?_
  intro T286 X286 e286
  refine gLen X286 H hZ e286 q288 d18_12 13 rfl ?_
  refine gCmpN X286 H d18_13 (by decide) 16 rfl ?_
  refine gIloadN X286 H d18_16 rfl 17 rfl ?_
  refine gGoto X286 H d18_17 (by decide) 27 rfl ?_
  exact gRetI X286 H hlk hret d18_27 e286 ⟨rfl, rfl, rfl⟩
theorem rm310_18 (B : Bg Z a0 wE0 w_cacheI k_wE0 cl_cacheI) (ro0 ro1 : Addr) (h : Heap) (O : Ext Z.heap h) (q304 : Fld Z h ro0 cs3 "head" "I" (.int 1)) (q306 : Fld Z h ro0 cs3 "buffer" cs2 (.ref ro1)) (q309 : Arl Z h ro1 (2 : Int32)) :
    Con l Z yM18 prog_50_method_12_code 3 (some .int) ({ frames := 0, cells := 0, slots := 0, locals := 0 } : Room) #[(.ref ro0), (.int 0)] h (fun v h' L => v = some (.int 1) ∧ h' = h ∧ L = []) := by
  have hw := B.1
  refine Con.of (plainFor_of_name pn18) (Ls := #[vR ro0, vI 0, .unset]) (fun _ => rfl) ?_
  intro p e s m below meth c T0 X0 H hml hZ hown hnm hret hlk e0
  refine gAloadN X0 H d18_0 rfl rfl 1 rfl ?_
  refine gGetF X0 H hZ hown (hw _ wd125) Via.refl e0 q304 d18_1 4 rfl ?_
  intro T305 X305 e305
  refine gIloadN X305 H d18_4 rfl 5 rfl ?_
  refine g_iadd X305 H d18_5 (z := 1) (by decide) 6 rfl ?_
  refine gIstoreN X305 H d18_6 (Ls' := #[vR ro0, vI 0, vI 1]) rfl 7 rfl ?_
  refine gIloadN X305 H d18_7 rfl 8 rfl ?_
  refine gAloadN X305 H d18_8 rfl rfl 9 rfl ?_
  refine gGetF X305 H hZ hown (hw _ wd96) Via.refl e305 q306 d18_9 12 rfl ?_
  intro T307 X307 e307
  refine gLen X307 H hZ e307 q309 d18_12 13 rfl ?_
  refine gCmpN X307 H d18_13 (by decide) 16 rfl ?_
  refine gIloadN X307 H d18_16 rfl 17 rfl ?_
  refine gGoto X307 H d18_17 (by decide) 27 rfl ?_
  exact gRetI X307 H hlk hret d18_27 e307 ⟨rfl, rfl, rfl⟩
theorem rm320_23 (B : Bg Z a0 wE0 w_cacheI k_wE0 cl_cacheI) (ro0 ro1 ro2 : Addr) (ck3 : ClassId) (ro4 : Addr) (h : Heap) (O : Ext Z.heap h) (q301 : Fld Z h ro0 cs3 "buffer" cs2 (.ref ro2)) (q303 : Exa Z h ro0 cs3) (q311 : Fld Z h ro0 cs3 "head" "I" (.int 1)) (q312 : Arl Z h ro2 (2 : Int32)) (q315 : Arv Z h ro2 ck3 (.object "java/lang/Object") (2 : Int32) [(.ref ro4), .null] .null) (q316 : Exa Z h ro1 cs4) (q317 : Ovr Z ck3 "java/lang/Object") (q318 : Z.heap.size ≤ ro2) :
    Con l Z yM23 prog_50_method_5_code 3 none ({ frames := 1, cells := 0, slots := 0, locals := 15 } : Room) #[(.ref ro0), (.int 0), (.ref ro1)] h (fun v h' L => v = none ∧ Fr Z.heap.size L ∧ Keep h h' [ro2] ∧ Arv Z h' ro2 ck3 (.object "java/lang/Object") (2 : Int32) [(.ref ro4), (.ref ro1)] .null) := by
  have hw := B.1
  refine Con.of (plainFor_of_name pn23) (Ls := #[vR ro0, vI 0, vR ro1]) (fun _ => rfl) ?_
  intro p e s m below meth c T0 X0 H hml hZ hown hnm hret hlk e0
  have N0 := Fr.nil Z.heap.size
  refine gAloadN X0 H d23_0 rfl rfl 1 rfl ?_
  refine gGetF X0 H hZ hown (hw _ wd96) Via.refl e0 q301 d23_1 4 rfl ?_
  intro T302 X302 e302
  refine gAloadN X302 H d23_4 rfl rfl 5 rfl ?_
  refine gIloadN X302 H d23_5 rfl 6 rfl ?_
  refine gPrivate X302 H hZ hown (hw _ wd121) (hw _ wd122) (hw _ wd123) (hw _ wd65) (by decide) q303 (hw _ wd124) (hw _ wd66) (rm310_18 B ro0 ro2 _ O q311 q301 q312) e302 hml rfl pd6 rfl (W := 1) (argsL := [(.int 0)]) (rest := [(.ref ro2)]) rfl rfl d23_6 9 rfl ?_
  intro v313 T313 L313 hq313 X313
  obtain ⟨rfl, e313, rfl⟩ := hq313
  have N313 := Fr.app N0 (Fr.nil _)
  show Go _ _ _ _ (State.setTop _ (mkF _ 9 _ [(.int 1), (.ref ro2)]))
  refine gAloadN X313 H d23_9 rfl rfl 10 rfl ?_
  refine gAastore X313 H hZ e313 rfl (stoV q315 q317 (Ins.of_exa q316 (hw _ wd63))) q315 ⟨by decide, by decide⟩ (i := 1) rfl (Nat.le_of_ble_eq_true rfl) (vs' := [(.ref ro4), (.ref ro1)]) rfl d23_10 11 rfl ?_
  intro T314 h314 X314 e314 W314 V314
  have O314 := extW O W314 q318
  have N314 := Fr.snoc X314 N313 q318
  have K_319 := (Keep.refl h [ro2]).wr W314 (Or.inl (List.mem_of_getElem? (i := 0) rfl))
  exact gRetV X314 H hlk hret d23_11 e314 ⟨rfl, N314, K_319, V314⟩
theorem rm338_20 (B : Bg Z a0 wE0 w_cacheI k_wE0 cl_cacheI) (ro0 ro1 ro2 : Addr) (ck3 : ClassId) (ro4 : Addr) (h : Heap) (O : Ext Z.heap h) (q213 : Exa Z h ro0 cs3) (q271 : Fld Z h ro0 cs3 "size" "I" (.int 1)) (q272 : Fld Z h ro0 cs3 "buffer" cs2 (.ref ro2)) (q273 : Arl Z h ro2 (1 : Int32)) (q274 : Fld Z h ro0 cs3 "head" "I" (.int 0)) (q275 : Arv Z h ro2 ck3 (.object "java/lang/Object") (1 : Int32) [(.ref ro4)] .null) (q276 : Exa Z h ro4 cs4) (q277 : Z.heap.size ≤ ro0) (q278 : Fld Z h ro0 cs3 "serial" "I" (.int 1)) (q279 : Fld Z h ro0 cs3 "firstNumber" "J" (.long (-1))) (q324 : Exa Z h ro1 cs4) :
    Con l Z yM20 prog_50_method_9_code 2 none ({ frames := 3, cells := 1, slots := 2, locals := 45 } : Room) #[(.ref ro0), (.ref ro1)] h (fun v h' L => ∃ (b280_0 : Addr) (k280_0 : ClassId), v = none ∧ Fr Z.heap.size L ∧ Keep h h' [ro0] ∧ h.size ≤ b280_0 ∧ Exa Z h' ro0 cs3 ∧ Fld Z h' ro0 cs3 "size" "I" (.int 2) ∧ Fld Z h' ro0 cs3 "buffer" cs2 (.ref b280_0) ∧ Fld Z h' ro0 cs3 "head" "I" (.int 1) ∧ Fld Z h' ro0 cs3 "serial" "I" (.int 1) ∧ Fld Z h' ro0 cs3 "firstNumber" "J" (.long (-2)) ∧ Arv Z h' b280_0 k280_0 (.object "java/lang/Object") (2 : Int32) [(.ref ro4), (.ref ro1)] .null ∧ Ovr Z k280_0 "java/lang/Object") := by
  have hw := B.1
  refine Con.of (plainFor_of_name pn20) (Ls := #[vR ro0, vR ro1]) (fun _ => rfl) ?_
  intro p e s m below meth c T0 X0 H hml hZ hown hnm hret hlk e0
  have M0 := Nat.le_refl h.size
  have N0 := Fr.nil Z.heap.size
  refine gAloadN X0 H d20_0 rfl rfl 1 rfl ?_
  refine gPrivate X0 H hZ hown (hw _ wd135) (hw _ wd136) (hw _ wd137) (hw _ wd65) (by decide) q213 (hw _ wd138) (hw _ wd66) (rm270_21 B ro0 ro2 ck3 ro4 _ O q271 q272 q273 q213 q274 q275 q276 q277 q278 q279) e0 hml rfl pd0 rfl (W := 0) (argsL := []) (rest := []) rfl rfl d20_1 4 rfl ?_
  intro v280 T280 L280 hq280 X280
  obtain ⟨b280_0, k280_0, rfl, N280q, K280, s280_0, f280_0, f280_1, f280_2, f280_3, f280_4, f280_5, f280_6, f280_7⟩ := hq280
  have G_b280_0 := Nat.le_trans O.1 s280_0
  have sz_b280_0 := Nat.le_trans M0 s280_0
  have O280 := extK O K280 (allS q277 all0)
  have N280 := Fr.app N0 N280q
  show Go _ _ _ _ (State.setTop _ (mkF _ 4 _ []))
  refine gAloadN X280 H d20_4 rfl rfl 5 rfl ?_
  refine gAloadN X280 H d20_5 rfl rfl 6 rfl ?_
  refine gAloadN X280 H d20_6 rfl rfl 7 rfl ?_
  refine gGetF X280 H hZ hown (hw _ wd96) Via.refl rfl f280_1 d20_7 10 rfl ?_
  intro T281 X281 e281
  refine gLen X281 H hZ e281 (Arv.arl f280_2) d20_10 11 rfl ?_
  refine gIconst X281 H d20_11 (z := 1) rfl 12 rfl ?_
  refine g_isub X281 H d20_12 (z := 1) (by decide) 13 rfl ?_
  refine gPrivate X281 H hZ hown (hw _ wd121) (hw _ wd122) (hw _ wd123) (hw _ wd65) (by decide) f280_3 (hw _ wd124) (hw _ wd66) (rm289_18 B ro0 b280_0 _ O280 f280_4 f280_1 (Arv.arl f280_2)) e281 hml rfl pd6 rfl (W := 1) (argsL := [(.int 1)]) (rest := [(.ref ro0)]) rfl rfl d20_13 16 rfl ?_
  intro v290 T290 L290 hq290 X290
  obtain ⟨rfl, e290, rfl⟩ := hq290
  have N290 := Fr.app N280 (Fr.nil _)
  show Go _ _ _ _ (State.setTop _ (mkF _ 16 _ [(.int 1), (.ref ro0)]))
  refine gPutF X290 H hZ hown (hw _ wd125) Via.refl e290 f280_4 f280_3 (Or.inl (hw _ wd126)) (hw _ wd65) (ty := .int) (by decide) (v' := (.int 1)) rfl rfl d20_16 19 rfl ?_
  intro T291 h291 X291 e291 W291 F291
  have O291 := extW O280 W291 q277
  have N291 := Fr.snoc X291 N290 q277
  refine gAloadN X291 H d20_19 rfl rfl 20 rfl ?_
  refine gDup X291 H d20_20 rfl 21 rfl ?_
  have c292 := (f280_0.other W291 (Or.inr (sn16 hw)))
  refine gGetF X291 H hZ hown (hw _ wd98) Via.refl e291 c292 d20_21 24 rfl ?_
  intro T293 X293 e293
  refine gIconst X293 H d20_24 (z := 1) rfl 25 rfl ?_
  refine g_iadd X293 H d20_25 (z := 2) (by decide) 26 rfl ?_
  have c295 := (f280_3.wr W291)
  refine gPutF X293 H hZ hown (hw _ wd98) Via.refl e293 c292 c295 (Or.inl (hw _ wd99)) (hw _ wd65) (ty := .int) (by decide) (v' := (.int 2)) rfl rfl d20_26 29 rfl ?_
  intro T294 h294 X294 e294 W294 F294
  have O294 := extW O291 W294 q277
  have N294 := Fr.snoc X294 N291 q277
  refine gAloadN X294 H d20_29 rfl rfl 30 rfl ?_
  refine gDup X294 H d20_30 rfl 31 rfl ?_
  have c296 := ((f280_6.other W291 (Or.inr (sn17 hw))).other W294 (Or.inr (sn12 hw)))
  refine gGetF X294 H hZ hown (hw _ wd105) Via.refl e294 c296 d20_31 34 rfl ?_
  intro T297 X297 e297
  refine gLconst X297 H d20_34 (z := 1) rfl 35 rfl ?_
  refine g_lsub X297 H d20_35 (z := (-2)) (by decide) 36 rfl ?_
  have c299 := (c295.wr W294)
  refine gPutF X297 H hZ hown (hw _ wd105) Via.refl e297 c296 c299 (Or.inl (hw _ wd106)) (hw _ wd65) (ty := .long) (by decide) (v' := (.long (-2))) rfl rfl d20_36 39 rfl ?_
  intro T298 h298 X298 e298 W298 F298
  have O298 := extW O294 W298 q277
  have N298 := Fr.snoc X298 N294 q277
  refine gAloadN X298 H d20_39 rfl rfl 40 rfl ?_
  refine gIconst X298 H d20_40 (z := 0) rfl 41 rfl ?_
  refine gAloadN X298 H d20_41 rfl rfl 42 rfl ?_
  have c300 := (c299.wr W298)
  have c321 := (((f280_1.other W291 (Or.inr (sn18 hw))).other W294 (Or.inr (sn9 hw))).other W298 (Or.inr (sn19 hw)))
  have c322 := ((F291.other W294 (Or.inr (sn15 hw))).other W298 (Or.inr (sn20 hw)))
  have c323 := (((f280_2.other W291 (Ne.symm (neB q213.lt sz_b280_0))).other W294 (Ne.symm (neB q213.lt sz_b280_0))).other W298 (Ne.symm (neB q213.lt sz_b280_0)))
  have c325 := ((((q324.keep K280).wr W291).wr W294).wr W298)
  refine gVirt X298 H hZ hown (hw _ wd144) (hw _ wd145) (hw _ wd147) (hw _ wd146) (by decide) c300 (hw _ wd148) (hw _ wd66) (rm320_23 B ro0 ro1 b280_0 k280_0 ro4 _ O298 c321 c300 c322 (Arv.arl c323) c323 c325 f280_7 G_b280_0) e298 hml rfl pd7 rfl (W := 0) (argsL := [(.int 0), (.ref ro1)]) (rest := []) rfl rfl d20_42 45 rfl ?_
  intro v326 T326 L326 hq326 X326
  obtain ⟨rfl, N326q, K326, f326_0⟩ := hq326
  have O326 := extK O298 K326 (allS G_b280_0 all0)
  have N326 := Fr.app N298 N326q
  show Go _ _ _ _ (State.setTop _ (mkF _ 45 _ []))
  have c327 := (c300.keep K326)
  have c328 := ((F294.other W298 (Or.inr (sn21 hw))).keep K326 (ninS (neB q213.lt sz_b280_0) nin0))
  have c329 := (c321.keep K326 (ninS (neB q213.lt sz_b280_0) nin0))
  have c330 := (c322.keep K326 (ninS (neB q213.lt sz_b280_0) nin0))
  have c331 := ((((f280_5.other W291 (Or.inr (sn22 hw))).other W294 (Or.inr (sn8 hw))).other W298 (Or.inr (sn23 hw))).keep K326 (ninS (neB q213.lt sz_b280_0) nin0))
  have c332 := (F298.keep K326 (ninS (neB q213.lt sz_b280_0) nin0))
  have K_333 := (Keep.refl h [ro0]).trans K280 (allS (Or.inl (List.mem_of_getElem? (i := 0) rfl)) all0)
  have K_334 := K_333.wr W291 (Or.inl (List.mem_of_getElem? (i := 0) rfl))
  have K_335 := K_334.wr W294 (Or.inl (List.mem_of_getElem? (i := 0) rfl))
  have K_336 := K_335.wr W298 (Or.inl (List.mem_of_getElem? (i := 0) rfl))
  have K_337 := K_336.trans K326 (allS (Or.inr sz_b280_0) all0)
  exact gRetV X326 H hlk hret d20_45 rfl ⟨b280_0, k280_0, rfl, N326, K_337, sz_b280_0, c327, c328, c329, c330, c331, c332, f326_0, f280_7⟩
theorem rm361_15 (B : Bg Z a0 wE0 w_cacheI k_wE0 cl_cacheI) (ro0 ro1 : Addr) (ck2 : ClassId) (ro3 : Addr) (h : Heap) (O : Ext Z.heap h) (q211 : Exa Z h ro0 cs3) (q339 : Fld Z h ro0 cs3 "size" "I" (.int 1)) (q341 : Fld Z h ro0 cs3 "buffer" cs2 (.ref ro1)) (q343 : Arl Z h ro1 (1 : Int32)) (q345 : Fld Z h ro0 cs3 "head" "I" (.int 0)) (q347 : Arv Z h ro1 ck2 (.object "java/lang/Object") (1 : Int32) [(.ref ro3)] .null) (q349 : Exa Z h ro3 cs4) (q351 : Z.heap.size ≤ ro0) (q352 : Fld Z h ro0 cs3 "serial" "I" (.int 1)) (q354 : Fld Z h ro0 cs3 "firstNumber" "J" (.long (-1))) :
    Con l Z yM15 method_2_code 2 none ({ frames := 4, cells := 1, slots := 2, locals := 58 } : Room) #[(.ref ro0), (.int 0)] h (fun v h' L => ∃ (b210_0 b356_0 : Addr) (k356_0 : ClassId), v = none ∧ Fr Z.heap.size L ∧ Keep h h' [ro0] ∧ h.size ≤ b356_0 ∧ Exa Z h' b210_0 cs4 ∧ Exa Z h' ro0 cs3 ∧ Fld Z h' ro0 cs3 "size" "I" (.int 2) ∧ Fld Z h' ro0 cs3 "buffer" cs2 (.ref b356_0) ∧ Fld Z h' ro0 cs3 "head" "I" (.int 1) ∧ Fld Z h' ro0 cs3 "serial" "I" (.int 1) ∧ Fld Z h' ro0 cs3 "firstNumber" "J" (.long (-2)) ∧ Arv Z h' b356_0 k356_0 (.object "java/lang/Object") (2 : Int32) [(.ref ro3), (.ref b210_0)] .null ∧ b210_0 ≠ b356_0 ∧ Ovr Z k356_0 "java/lang/Object") := by
  have hw := B.1
  refine Con.of (plainFor_of_name pn15) (Ls := #[vR ro0, vI 0]) (fun _ => rfl) ?_
  intro p e s m below meth c T0 X0 H hml hZ hown hnm hret hlk e0
  have M0 := Nat.le_refl h.size
  have N0 := Fr.nil Z.heap.size
  refine gIloadN X0 H d15_0 rfl 1 rfl ?_
  refine gIfY X0 H d15_1 (by decide) (by decide) 12 rfl ?_
  refine gAloadN X0 H d15_12 rfl rfl 13 rfl ?_
  refine gBipush X0 H d15_13 (z := 20) rfl 15 rfl ?_
  refine gStatic X0 H hZ hown (hw _ wd26) (hw _ wd27) (by decide) (hw _ wd29) (hw _ wd28) (rm110_5 B _ O) e0 hml rfl pd5 rfl (W := 1) (argsL := [(.int 20)]) (rest := [(.ref ro0)]) rfl rfl d15_15 18 rfl ?_
  intro v210 T210 L210 hq210 X210
  obtain ⟨b210_0, rfl, N210q, K210, f210_0⟩ := hq210
  have O210 := extK O K210 all0
  have N210 := Fr.app N0 N210q
  show Go _ _ _ _ (State.setTop _ (mkF _ 18 _ [(.ref b210_0), (.ref ro0)]))
  have c212 := (q211.keep K210)
  have c340 := (q339.keep K210 nin0)
  have c342 := (q341.keep K210 nin0)
  have c344 := (q343.keep K210 nin0)
  have c346 := (q345.keep K210 nin0)
  have c348 := (q347.keep K210 nin0)
  have c350 := (q349.keep K210)
  have c353 := (q352.keep K210 nin0)
  have c355 := (q354.keep K210 nin0)
  refine gVirt X210 H hZ hown (hw _ wd130) (hw _ wd131) (hw _ wd133) (hw _ wd132) (by decide) c212 (hw _ wd134) (hw _ wd66) (rm338_20 B ro0 b210_0 ro1 ck2 ro3 _ O210 c212 c340 c342 c344 c346 c348 c350 q351 c353 c355 f210_0) rfl hml rfl pd8 rfl (W := 0) (argsL := [(.ref b210_0)]) (rest := []) rfl rfl d15_18 21 rfl ?_
  intro v356 T356 L356 hq356 X356
  obtain ⟨b356_0, k356_0, rfl, N356q, K356, s356_0, f356_0, f356_1, f356_2, f356_3, f356_4, f356_5, f356_6, f356_7⟩ := hq356
  have M357 := (Nat.le_trans M0 K210.1)
  have G_b356_0 := Nat.le_trans O210.1 s356_0
  have sz_b356_0 := Nat.le_trans M357 s356_0
  have ne_b210_0_b356_0 : b210_0 ≠ b356_0 := neB f210_0.lt s356_0
  have O356 := extK O210 K356 (allS q351 all0)
  have N356 := Fr.app N210 N356q
  show Go _ _ _ _ (State.setTop _ (mkF _ 21 _ []))
  have c358 := (f210_0.keep K356)
  have K_359 := (Keep.refl h [ro0]).trans K210 all0
  have K_360 := K_359.trans K356 (allS (Or.inl (List.mem_of_getElem? (i := 0) rfl)) all0)
  exact gRetV X356 H hlk hret d15_21 rfl ⟨b210_0, b356_0, k356_0, rfl, N356, K_360, sz_b356_0, c358, f356_0, f356_1, f356_2, f356_3, f356_4, f356_5, f356_6, ne_b210_0_b356_0, f356_7⟩
theorem rm378_22 (B : Bg Z a0 wE0 w_cacheI k_wE0 cl_cacheI) (h : Heap) (O : Ext Z.heap h) :
    Con l Z yM22 jdk_29_method_70_code 4 (some .long) ({ frames := 0, cells := 0, slots := 0, locals := 0 } : Room) #[(.long 4), (.long 2147483639)] h (fun v h' L => v = some (.long 4) ∧ h' = h ∧ L = []) := by
  refine Con.of (Jvm.Free.JP.mathPlain rfl (by decide +kernel)) (Ls := #[vJ 4, .second, vJ 2147483639, .second]) (fun _ => by first | (simp [entryFrame, mkF, argsToLocals, Value.category, maxLocals]; done) | rfl) ?_
  intro p e s m below meth c T0 X0 H hml hZ hown hnm hret hlk e0
  refine gLloadN X0 H d22_0 rfl 1 rfl ?_
  refine gLloadN X0 H d22_1 rfl 2 rfl ?_
  refine g_lcmp X0 H d22_2 (z := (lcmpW (4 : Int64) (2147483639 : Int64))) rfl 3 rfl ?_
  refine gIfN X0 H d22_3 (by decide) 6 rfl ?_
  refine gLloadN X0 H d22_6 rfl 7 rfl ?_
  refine gGoto X0 H d22_7 (by decide) 11 rfl ?_
  exact gRetL X0 H hlk hret d22_11 e0 ⟨rfl, rfl, rfl⟩
theorem rm394_17 (B : Bg Z a0 wE0 w_cacheI k_wE0 cl_cacheI) (ro0 ro1 : Addr) (ck2 : ClassId) (ro3 ro4 : Addr) (h : Heap) (O : Ext Z.heap h) (q386 : Fld Z h ro0 cs3 "buffer" cs2 (.ref ro1)) (q388 : Exa Z h ro0 cs3) (q389 : Fld Z h ro0 cs3 "head" "I" (.int 1)) (q390 : Arl Z h ro1 (2 : Int32)) (q393 : Arv Z h ro1 ck2 (.object "java/lang/Object") (2 : Int32) [(.ref ro3), (.ref ro4)] .null) :
    Con l Z yM17 prog_50_method_4_code 2 (some (.object "java/lang/Object")) ({ frames := 1, cells := 0, slots := 0, locals := 15 } : Room) #[(.ref ro0), (.int 0)] h (fun v h' L => v = some (.ref ro4) ∧ h' = h ∧ L = []) := by
  have hw := B.1
  refine Con.of (plainFor_of_name pn17) (Ls := #[vR ro0, vI 0]) (fun _ => rfl) ?_
  intro p e s m below meth c T0 X0 H hml hZ hown hnm hret hlk e0
  have N0 := Fr.nil Z.heap.size
  refine gAloadN X0 H d17_0 rfl rfl 1 rfl ?_
  refine gGetF X0 H hZ hown (hw _ wd96) Via.refl e0 q386 d17_1 4 rfl ?_
  intro T387 X387 e387
  refine gAloadN X387 H d17_4 rfl rfl 5 rfl ?_
  refine gIloadN X387 H d17_5 rfl 6 rfl ?_
  refine gPrivate X387 H hZ hown (hw _ wd121) (hw _ wd122) (hw _ wd123) (hw _ wd65) (by decide) q388 (hw _ wd124) (hw _ wd66) (rm310_18 B ro0 ro1 _ O q389 q386 q390) e387 hml rfl pd6 rfl (W := 1) (argsL := [(.int 0)]) (rest := [(.ref ro1)]) rfl rfl d17_6 9 rfl ?_
  intro v391 T391 L391 hq391 X391
  obtain ⟨rfl, e391, rfl⟩ := hq391
  have N391 := Fr.app N0 (Fr.nil _)
  show Go _ _ _ _ (State.setTop _ (mkF _ 9 _ [(.int 1), (.ref ro1)]))
  refine gAaload X391 H hZ e391 rfl q393 ⟨by decide, by decide⟩ (v := (.ref ro4)) rfl d17_9 10 rfl ?_
  exact gRetA X391 H hlk hret rfl rfl rfl d17_10 e391 ⟨rfl, rfl, rfl⟩
theorem rm419_18 (B : Bg Z a0 wE0 w_cacheI k_wE0 cl_cacheI) (ro0 ro1 : Addr) (h : Heap) (O : Ext Z.heap h) (q411 : Fld Z h ro0 cs3 "head" "I" (.int 1)) (q413 : Fld Z h ro0 cs3 "buffer" cs2 (.ref ro1)) (q416 : Arl Z h ro1 (2 : Int32)) :
    Con l Z yM18 prog_50_method_12_code 3 (some .int) ({ frames := 0, cells := 0, slots := 0, locals := 0 } : Room) #[(.ref ro0), (.int 1)] h (fun v h' L => v = some (.int 0) ∧ h' = h ∧ L = []) := by
  have hw := B.1
  refine Con.of (plainFor_of_name pn18) (Ls := #[vR ro0, vI 1, .unset]) (fun _ => rfl) ?_
  intro p e s m below meth c T0 X0 H hml hZ hown hnm hret hlk e0
  refine gAloadN X0 H d18_0 rfl rfl 1 rfl ?_
  refine gGetF X0 H hZ hown (hw _ wd125) Via.refl e0 q411 d18_1 4 rfl ?_
  intro T412 X412 e412
  refine gIloadN X412 H d18_4 rfl 5 rfl ?_
  refine g_iadd X412 H d18_5 (z := 2) (by decide) 6 rfl ?_
  refine gIstoreN X412 H d18_6 (Ls' := #[vR ro0, vI 1, vI 2]) rfl 7 rfl ?_
  refine gIloadN X412 H d18_7 rfl 8 rfl ?_
  refine gAloadN X412 H d18_8 rfl rfl 9 rfl ?_
  refine gGetF X412 H hZ hown (hw _ wd96) Via.refl e412 q413 d18_9 12 rfl ?_
  intro T414 X414 e414
  refine gLen X414 H hZ e414 q416 d18_12 13 rfl ?_
  refine gCmpY X414 H d18_13 (by decide) (by decide) 20 rfl ?_
  refine gIloadN X414 H d18_20 rfl 21 rfl ?_
  refine gAloadN X414 H d18_21 rfl rfl 22 rfl ?_
  refine gGetF X414 H hZ hown (hw _ wd96) Via.refl e414 q413 d18_22 25 rfl ?_
  intro T417 X417 e417
  refine gLen X417 H hZ e417 q416 d18_25 26 rfl ?_
  refine g_isub X417 H d18_26 (z := 0) (by decide) 27 rfl ?_
  exact gRetI X417 H hlk hret d18_27 e417 ⟨rfl, rfl, rfl⟩
theorem rm425_17 (B : Bg Z a0 wE0 w_cacheI k_wE0 cl_cacheI) (ro0 ro1 : Addr) (ck2 : ClassId) (ro3 ro4 : Addr) (h : Heap) (O : Ext Z.heap h) (q408 : Fld Z h ro0 cs3 "buffer" cs2 (.ref ro1)) (q410 : Exa Z h ro0 cs3) (q420 : Fld Z h ro0 cs3 "head" "I" (.int 1)) (q421 : Arl Z h ro1 (2 : Int32)) (q424 : Arv Z h ro1 ck2 (.object "java/lang/Object") (2 : Int32) [(.ref ro3), (.ref ro4)] .null) :
    Con l Z yM17 prog_50_method_4_code 2 (some (.object "java/lang/Object")) ({ frames := 1, cells := 0, slots := 0, locals := 15 } : Room) #[(.ref ro0), (.int 1)] h (fun v h' L => v = some (.ref ro3) ∧ h' = h ∧ L = []) := by
  have hw := B.1
  refine Con.of (plainFor_of_name pn17) (Ls := #[vR ro0, vI 1]) (fun _ => rfl) ?_
  intro p e s m below meth c T0 X0 H hml hZ hown hnm hret hlk e0
  have N0 := Fr.nil Z.heap.size
  refine gAloadN X0 H d17_0 rfl rfl 1 rfl ?_
  refine gGetF X0 H hZ hown (hw _ wd96) Via.refl e0 q408 d17_1 4 rfl ?_
  intro T409 X409 e409
  refine gAloadN X409 H d17_4 rfl rfl 5 rfl ?_
  refine gIloadN X409 H d17_5 rfl 6 rfl ?_
  refine gPrivate X409 H hZ hown (hw _ wd121) (hw _ wd122) (hw _ wd123) (hw _ wd65) (by decide) q410 (hw _ wd124) (hw _ wd66) (rm419_18 B ro0 ro1 _ O q420 q408 q421) e409 hml rfl pd6 rfl (W := 1) (argsL := [(.int 1)]) (rest := [(.ref ro1)]) rfl rfl d17_6 9 rfl ?_
  intro v422 T422 L422 hq422 X422
  obtain ⟨rfl, e422, rfl⟩ := hq422
  have N422 := Fr.app N0 (Fr.nil _)
  show Go _ _ _ _ (State.setTop _ (mkF _ 9 _ [(.int 0), (.ref ro1)]))
  refine gAaload X422 H hZ e422 rfl q424 ⟨by decide, by decide⟩ (v := (.ref ro3)) rfl d17_9 10 rfl ?_
  exact gRetA X422 H hlk hret rfl rfl rfl d17_10 e422 ⟨rfl, rfl, rfl⟩
theorem rm455_21 (B : Bg Z a0 wE0 w_cacheI k_wE0 cl_cacheI) (ro0 ro1 : Addr) (ck2 : ClassId) (ro3 ro4 : Addr) (h : Heap) (O : Ext Z.heap h) (q370 : Fld Z h ro0 cs3 "size" "I" (.int 2)) (q372 : Fld Z h ro0 cs3 "buffer" cs2 (.ref ro1)) (q375 : Arl Z h ro1 (2 : Int32)) (q384 : Exa Z h ro0 cs3) (q396 : Fld Z h ro0 cs3 "head" "I" (.int 1)) (q399 : Arv Z h ro1 ck2 (.object "java/lang/Object") (2 : Int32) [(.ref ro3), (.ref ro4)] .null) (q403 : Exa Z h ro4 cs4) (q431 : Exa Z h ro3 cs4) (q438 : Z.heap.size ≤ ro0) (q445 : Fld Z h ro0 cs3 "serial" "I" (.int 1)) (q447 : Fld Z h ro0 cs3 "firstNumber" "J" (.long (-2))) :
    Con l Z yM21 prog_50_method_13_code 4 none ({ frames := 2, cells := 1, slots := 4, locals := 30 } : Room) #[(.ref ro0)] h (fun v h' L => ∃ (b381 : Addr) (k381 : ClassId), v = none ∧ Fr Z.heap.size L ∧ Keep h h' [ro0] ∧ h.size ≤ b381 ∧ Fld Z h' ro0 cs3 "size" "I" (.int 2) ∧ Fld Z h' ro0 cs3 "buffer" cs2 (.ref b381) ∧ Arv Z h' b381 k381 (.object "java/lang/Object") (4 : Int32) [(.ref ro4), (.ref ro3), .null, .null] .null ∧ Exa Z h' ro0 cs3 ∧ Fld Z h' ro0 cs3 "head" "I" (.int 0) ∧ Fld Z h' ro0 cs3 "serial" "I" (.int 1) ∧ Fld Z h' ro0 cs3 "firstNumber" "J" (.long (-2)) ∧ Ovr Z k381 "java/lang/Object") := by
  have hw := B.1
  refine Con.of (plainFor_of_name pn21) (Ls := #[vR ro0, .unset, .unset, .unset]) (fun _ => rfl) ?_
  intro p e s m below meth c T0 X0 H hml hZ hown hnm hret hlk e0
  have M0 := Nat.le_refl h.size
  have N0 := Fr.nil Z.heap.size
  refine gAloadN X0 H d21_0 rfl rfl 1 rfl ?_
  refine gGetF X0 H hZ hown (hw _ wd98) Via.refl e0 q370 d21_1 4 rfl ?_
  intro T371 X371 e371
  refine gAloadN X371 H d21_4 rfl rfl 5 rfl ?_
  refine gGetF X371 H hZ hown (hw _ wd96) Via.refl e371 q372 d21_5 8 rfl ?_
  intro T373 X373 e373
  refine gLen X373 H hZ e373 q375 d21_8 9 rfl ?_
  refine gCmpY X373 H d21_9 (by decide) (by decide) 13 rfl ?_
  refine gLdc2 X373 H hZ hown (hw _ wd139) d21_13 16 rfl ?_
  refine gAloadN X373 H d21_16 rfl rfl 17 rfl ?_
  refine gGetF X373 H hZ hown (hw _ wd96) Via.refl e373 q372 d21_17 20 rfl ?_
  intro T376 X376 e376
  refine gLen X376 H hZ e376 q375 d21_20 21 rfl ?_
  refine g_i2l X376 H d21_21 (z := 2) (by decide) 22 rfl ?_
  refine g_lmul X376 H d21_22 (z := 4) (by decide) 23 rfl ?_
  refine gLdc2 X376 H hZ hown (hw _ wd140) d21_23 26 rfl ?_
  refine gStatic X376 H hZ hown (hw _ wd141) (hw _ wd142) (by decide) (hw _ wd143) (hw _ wd59) (rm378_22 B _ O) e376 hml rfl pd10 rfl (W := 0) (argsL := [(.long 4), (.long 2147483639)]) (rest := []) rfl rfl d21_26 29 rfl ?_
  intro v379 T379 L379 hq379 X379
  obtain ⟨rfl, e379, rfl⟩ := hq379
  have N379 := Fr.app N0 (Fr.nil _)
  show Go _ _ _ _ (State.setTop _ (mkF _ 29 _ [(.long 4)]))
  refine g_l2i X379 H d21_29 (z := 4) (by decide) 30 rfl ?_
  refine gIstoreN X379 H d21_30 (Ls' := #[vR ro0, vI 4, .unset, .unset]) rfl 31 rfl ?_
  refine gIloadN X379 H d21_31 rfl 32 rfl ?_
  refine gAloadN X379 H d21_32 rfl rfl 33 rfl ?_
  refine gGetF X379 H hZ hown (hw _ wd98) Via.refl e379 q370 d21_33 36 rfl ?_
  intro T380 X380 e380
  refine gCmpY X380 H d21_36 (by decide) (by decide) 49 rfl ?_
  refine gIloadN X380 H d21_49 rfl 50 rfl ?_
  refine gNewR X380 H hZ hown (hw _ wd83) (hw _ wd62) e380 (by decide) (cap := 4) (by decide) (by decide) (vs := [.null, .null, .null, .null]) rfl (by decide) (by decide) d21_50 53 rfl ?_
  intro T381 h381 b381 k381 X381 e381 z381 E381 V381 Q381
  have G_b381 := Nat.le_trans O.1 (Nat.le_of_eq z381)
  have sz_b381 := Nat.le_trans M0 (Nat.le_of_eq z381)
  have O381 := extT O E381
  refine gAstoreN X381 H d21_53 rfl (Ls' := #[vR ro0, vI 4, vR b381, .unset]) rfl 54 rfl ?_
  refine gIconst X381 H d21_54 (z := 0) rfl 55 rfl ?_
  refine gIstoreN X381 H d21_55 (Ls' := #[vR ro0, vI 4, vR b381, vI 0]) rfl 56 rfl ?_
  refine gIloadN X381 H d21_56 rfl 57 rfl ?_
  refine gAloadN X381 H d21_57 rfl rfl 58 rfl ?_
  have c382 := (q370.ext E381)
  refine gGetF X381 H hZ hown (hw _ wd98) Via.refl e381 c382 d21_58 61 rfl ?_
  intro T383 X383 e383
  refine gCmpN X383 H d21_61 (by decide) 64 rfl ?_
  refine gAloadN X383 H d21_64 rfl rfl 65 rfl ?_
  refine gIloadN X383 H d21_65 rfl 66 rfl ?_
  refine gAloadN X383 H d21_66 rfl rfl 67 rfl ?_
  refine gIloadN X383 H d21_67 rfl 68 rfl ?_
  have c385 := (q384.ext E381)
  have c395 := (q372.ext E381)
  have c397 := (q396.ext E381)
  have c398 := (q375.ext E381)
  have c400 := (q399.ext E381)
  refine gVirt X383 H hZ hown (hw _ wd116) (hw _ wd117) (hw _ wd119) (hw _ wd118) (by decide) c385 (hw _ wd120) (hw _ wd66) (rm394_17 B ro0 ro1 ck2 ro3 ro4 _ O381 c395 c385 c397 c398 c400) e383 hml rfl pd11 rfl (W := 2) (argsL := [(.int 0)]) (rest := [(.int 0), (.ref b381)]) rfl rfl d21_68 71 rfl ?_
  intro v401 T401 L401 hq401 X401
  obtain ⟨rfl, e401, rfl⟩ := hq401
  have N401 := Fr.app N379 (Fr.nil _)
  show Go _ _ _ _ (State.setTop _ (mkF _ 71 _ [(.ref ro4), (.int 0), (.ref b381)]))
  have c404 := (q403.ext E381)
  refine gAastore X401 H hZ e401 rfl (stoV V381 Q381 (Ins.of_exa c404 (hw _ wd63))) V381 ⟨by decide, by decide⟩ (i := 0) rfl (Nat.le_of_ble_eq_true rfl) (vs' := [(.ref ro4), .null, .null, .null]) rfl d21_71 72 rfl ?_
  intro T402 h402 X402 e402 W402 V402
  have O402 := extW O381 W402 G_b381
  have N402 := Fr.snoc X402 N401 G_b381
  refine gIinc X402 H d21_72 rfl (Ls' := #[vR ro0, vI 4, vR b381, vI 1]) rfl 75 rfl ?_
  refine gGoto X402 H d21_75 (by decide) 56 rfl ?_
  refine gIloadN X402 H d21_56 rfl 57 rfl ?_
  refine gAloadN X402 H d21_57 rfl rfl 58 rfl ?_
  have c405 := (c382.other W402 (Or.inl (neB q370.lt sz_b381)))
  refine gGetF X402 H hZ hown (hw _ wd98) Via.refl e402 c405 d21_58 61 rfl ?_
  intro T406 X406 e406
  refine gCmpN X406 H d21_61 (by decide) 64 rfl ?_
  refine gAloadN X406 H d21_64 rfl rfl 65 rfl ?_
  refine gIloadN X406 H d21_65 rfl 66 rfl ?_
  refine gAloadN X406 H d21_66 rfl rfl 67 rfl ?_
  refine gIloadN X406 H d21_67 rfl 68 rfl ?_
  have c407 := (c385.wr W402)
  have c426 := (c395.other W402 (Or.inl (neB q370.lt sz_b381)))
  have c427 := (c397.other W402 (Or.inl (neB q370.lt sz_b381)))
  have c428 := (c400.other W402 (neB q375.lt sz_b381))
  refine gVirt X406 H hZ hown (hw _ wd116) (hw _ wd117) (hw _ wd119) (hw _ wd118) (by decide) c407 (hw _ wd120) (hw _ wd66) (rm425_17 B ro0 ro1 ck2 ro3 ro4 _ O402 c426 c407 c427 (Arv.arl c428) c428) e406 hml rfl pd11 rfl (W := 2) (argsL := [(.int 1)]) (rest := [(.int 1), (.ref b381)]) rfl rfl d21_68 71 rfl ?_
  intro v429 T429 L429 hq429 X429
  obtain ⟨rfl, e429, rfl⟩ := hq429
  have N429 := Fr.app N402 (Fr.nil _)
  show Go _ _ _ _ (State.setTop _ (mkF _ 71 _ [(.ref ro3), (.int 1), (.ref b381)]))
  have c432 := ((q431.ext E381).wr W402)
  refine gAastore X429 H hZ e429 rfl (stoV V402 Q381 (Ins.of_exa c432 (hw _ wd63))) V402 ⟨by decide, by decide⟩ (i := 1) rfl (Nat.le_of_ble_eq_true rfl) (vs' := [(.ref ro4), (.ref ro3), .null, .null]) rfl d21_71 72 rfl ?_
  intro T430 h430 X430 e430 W430 V430
  have O430 := extW O402 W430 G_b381
  have N430 := Fr.snoc X430 N429 G_b381
  refine gIinc X430 H d21_72 rfl (Ls' := #[vR ro0, vI 4, vR b381, vI 2]) rfl 75 rfl ?_
  refine gGoto X430 H d21_75 (by decide) 56 rfl ?_
  refine gIloadN X430 H d21_56 rfl 57 rfl ?_
  refine gAloadN X430 H d21_57 rfl rfl 58 rfl ?_
  have c433 := (c405.other W430 (Or.inl (neB q370.lt sz_b381)))
  refine gGetF X430 H hZ hown (hw _ wd98) Via.refl e430 c433 d21_58 61 rfl ?_
  intro T434 X434 e434
  refine gCmpY X434 H d21_61 (by decide) (by decide) 78 rfl ?_
  refine gAloadN X434 H d21_78 rfl rfl 79 rfl ?_
  refine gAloadN X434 H d21_79 rfl rfl 80 rfl ?_
  have c436 := (c407.wr W430)
  have c437 := (c426.other W430 (Or.inl (neB q370.lt sz_b381)))
  refine gPutF X434 H hZ hown (hw _ wd96) Via.refl e434 c437 c436 (Or.inl (hw _ wd97)) (hw _ wd65) (ty := (.array (.object "java/lang/Object"))) (by decide) (v' := (.ref b381)) rfl rfl d21_80 83 rfl ?_
  intro T435 h435 X435 e435 W435 F435
  have O435 := extW O430 W435 q438
  have N435 := Fr.snoc X435 N430 q438
  refine gAloadN X435 H d21_83 rfl rfl 84 rfl ?_
  refine gIconst X435 H d21_84 (z := 0) rfl 85 rfl ?_
  have c440 := (c436.wr W435)
  have c441 := ((c427.other W430 (Or.inl (neB q370.lt sz_b381))).other W435 (Or.inr (sn14 hw)))
  refine gPutF X435 H hZ hown (hw _ wd125) Via.refl e435 c441 c440 (Or.inl (hw _ wd126)) (hw _ wd65) (ty := .int) (by decide) (v' := (.int 0)) rfl rfl d21_85 88 rfl ?_
  intro T439 h439 X439 e439 W439 F439
  have O439 := extW O435 W439 q438
  have N439 := Fr.snoc X439 N435 q438
  have c442 := ((c433.other W435 (Or.inr (sn6 hw))).other W439 (Or.inr (sn16 hw)))
  have c443 := (F435.other W439 (Or.inr (sn18 hw)))
  have c444 := (c440.wr W439)
  have c446 := (((((q445.ext E381).other W402 (Or.inl (neB q370.lt sz_b381))).other W430 (Or.inl (neB q370.lt sz_b381))).other W435 (Or.inr (sn7 hw))).other W439 (Or.inr (sn22 hw)))
  have c448 := (((((q447.ext E381).other W402 (Or.inl (neB q370.lt sz_b381))).other W430 (Or.inl (neB q370.lt sz_b381))).other W435 (Or.inr (sn11 hw))).other W439 (Or.inr (sn17 hw)))
  have c449 := ((V430.other W435 (Ne.symm (neB q370.lt sz_b381))).other W439 (Ne.symm (neB q370.lt sz_b381)))
  have K_450 := (Keep.refl h [ro0]).ext E381
  have K_451 := K_450.wr W402 (Or.inr sz_b381)
  have K_452 := K_451.wr W430 (Or.inr sz_b381)
  have K_453 := K_452.wr W435 (Or.inl (List.mem_of_getElem? (i := 0) rfl))
  have K_454 := K_453.wr W439 (Or.inl (List.mem_of_getElem? (i := 0) rfl))
  exact gRetV X439 H hlk hret d21_88 e439 ⟨b381, k381, rfl, N439, K_454, sz_b381, c442, c443, c449, c444, F439, c446, c448, Q381⟩
theorem rm475_18 (B : Bg Z a0 wE0 w_cacheI k_wE0 cl_cacheI) (ro0 ro1 : Addr) (h : Heap) (O : Ext Z.heap h) (q469 : Fld Z h ro0 cs3 "head" "I" (.int 0)) (q471 : Fld Z h ro0 cs3 "buffer" cs2 (.ref ro1)) (q474 : Arl Z h ro1 (4 : Int32)) :
    Con l Z yM18 prog_50_method_12_code 3 (some .int) ({ frames := 0, cells := 0, slots := 0, locals := 0 } : Room) #[(.ref ro0), (.int 3)] h (fun v h' L => v = some (.int 3) ∧ h' = h ∧ L = []) := by
  have hw := B.1
  refine Con.of (plainFor_of_name pn18) (Ls := #[vR ro0, vI 3, .unset]) (fun _ => rfl) ?_
  intro p e s m below meth c T0 X0 H hml hZ hown hnm hret hlk e0
  refine gAloadN X0 H d18_0 rfl rfl 1 rfl ?_
  refine gGetF X0 H hZ hown (hw _ wd125) Via.refl e0 q469 d18_1 4 rfl ?_
  intro T470 X470 e470
  refine gIloadN X470 H d18_4 rfl 5 rfl ?_
  refine g_iadd X470 H d18_5 (z := 3) (by decide) 6 rfl ?_
  refine gIstoreN X470 H d18_6 (Ls' := #[vR ro0, vI 3, vI 3]) rfl 7 rfl ?_
  refine gIloadN X470 H d18_7 rfl 8 rfl ?_
  refine gAloadN X470 H d18_8 rfl rfl 9 rfl ?_
  refine gGetF X470 H hZ hown (hw _ wd96) Via.refl e470 q471 d18_9 12 rfl ?_
  intro T472 X472 e472
  refine gLen X472 H hZ e472 q474 d18_12 13 rfl ?_
  refine gCmpN X472 H d18_13 (by decide) 16 rfl ?_
  refine gIloadN X472 H d18_16 rfl 17 rfl ?_
  refine gGoto X472 H d18_17 (by decide) 27 rfl ?_
  exact gRetI X472 H hlk hret d18_27 e472 ⟨rfl, rfl, rfl⟩
theorem rm496_18 (B : Bg Z a0 wE0 w_cacheI k_wE0 cl_cacheI) (ro0 ro1 : Addr) (h : Heap) (O : Ext Z.heap h) (q490 : Fld Z h ro0 cs3 "head" "I" (.int 3)) (q492 : Fld Z h ro0 cs3 "buffer" cs2 (.ref ro1)) (q495 : Arl Z h ro1 (4 : Int32)) :
    Con l Z yM18 prog_50_method_12_code 3 (some .int) ({ frames := 0, cells := 0, slots := 0, locals := 0 } : Room) #[(.ref ro0), (.int 0)] h (fun v h' L => v = some (.int 3) ∧ h' = h ∧ L = []) := by
  have hw := B.1
  refine Con.of (plainFor_of_name pn18) (Ls := #[vR ro0, vI 0, .unset]) (fun _ => rfl) ?_
  intro p e s m below meth c T0 X0 H hml hZ hown hnm hret hlk e0
  refine gAloadN X0 H d18_0 rfl rfl 1 rfl ?_
  refine gGetF X0 H hZ hown (hw _ wd125) Via.refl e0 q490 d18_1 4 rfl ?_
  intro T491 X491 e491
  refine gIloadN X491 H d18_4 rfl 5 rfl ?_
  refine g_iadd X491 H d18_5 (z := 3) (by decide) 6 rfl ?_
  refine gIstoreN X491 H d18_6 (Ls' := #[vR ro0, vI 0, vI 3]) rfl 7 rfl ?_
  refine gIloadN X491 H d18_7 rfl 8 rfl ?_
  refine gAloadN X491 H d18_8 rfl rfl 9 rfl ?_
  refine gGetF X491 H hZ hown (hw _ wd96) Via.refl e491 q492 d18_9 12 rfl ?_
  intro T493 X493 e493
  refine gLen X493 H hZ e493 q495 d18_12 13 rfl ?_
  refine gCmpN X493 H d18_13 (by decide) 16 rfl ?_
  refine gIloadN X493 H d18_16 rfl 17 rfl ?_
  refine gGoto X493 H d18_17 (by decide) 27 rfl ?_
  exact gRetI X493 H hlk hret d18_27 e493 ⟨rfl, rfl, rfl⟩
theorem rm506_23 (B : Bg Z a0 wE0 w_cacheI k_wE0 cl_cacheI) (ro0 ro1 ro2 : Addr) (ck3 : ClassId) (ro4 ro5 : Addr) (h : Heap) (O : Ext Z.heap h) (q487 : Fld Z h ro0 cs3 "buffer" cs2 (.ref ro2)) (q489 : Exa Z h ro0 cs3) (q497 : Fld Z h ro0 cs3 "head" "I" (.int 3)) (q498 : Arl Z h ro2 (4 : Int32)) (q501 : Arv Z h ro2 ck3 (.object "java/lang/Object") (4 : Int32) [(.ref ro4), (.ref ro5), .null, .null] .null) (q502 : Exa Z h ro1 cs4) (q503 : Ovr Z ck3 "java/lang/Object") (q504 : Z.heap.size ≤ ro2) :
    Con l Z yM23 prog_50_method_5_code 3 none ({ frames := 1, cells := 0, slots := 0, locals := 15 } : Room) #[(.ref ro0), (.int 0), (.ref ro1)] h (fun v h' L => v = none ∧ Fr Z.heap.size L ∧ Keep h h' [ro2] ∧ Arv Z h' ro2 ck3 (.object "java/lang/Object") (4 : Int32) [(.ref ro4), (.ref ro5), .null, (.ref ro1)] .null) := by
  have hw := B.1
  refine Con.of (plainFor_of_name pn23) (Ls := #[vR ro0, vI 0, vR ro1]) (fun _ => rfl) ?_
  intro p e s m below meth c T0 X0 H hml hZ hown hnm hret hlk e0
  have N0 := Fr.nil Z.heap.size
  refine gAloadN X0 H d23_0 rfl rfl 1 rfl ?_
  refine gGetF X0 H hZ hown (hw _ wd96) Via.refl e0 q487 d23_1 4 rfl ?_
  intro T488 X488 e488
  refine gAloadN X488 H d23_4 rfl rfl 5 rfl ?_
  refine gIloadN X488 H d23_5 rfl 6 rfl ?_
  refine gPrivate X488 H hZ hown (hw _ wd121) (hw _ wd122) (hw _ wd123) (hw _ wd65) (by decide) q489 (hw _ wd124) (hw _ wd66) (rm496_18 B ro0 ro2 _ O q497 q487 q498) e488 hml rfl pd6 rfl (W := 1) (argsL := [(.int 0)]) (rest := [(.ref ro2)]) rfl rfl d23_6 9 rfl ?_
  intro v499 T499 L499 hq499 X499
  obtain ⟨rfl, e499, rfl⟩ := hq499
  have N499 := Fr.app N0 (Fr.nil _)
  show Go _ _ _ _ (State.setTop _ (mkF _ 9 _ [(.int 3), (.ref ro2)]))
  refine gAloadN X499 H d23_9 rfl rfl 10 rfl ?_
  refine gAastore X499 H hZ e499 rfl (stoV q501 q503 (Ins.of_exa q502 (hw _ wd63))) q501 ⟨by decide, by decide⟩ (i := 3) rfl (Nat.le_of_ble_eq_true rfl) (vs' := [(.ref ro4), (.ref ro5), .null, (.ref ro1)]) rfl d23_10 11 rfl ?_
  intro T500 h500 X500 e500 W500 V500
  have O500 := extW O W500 q504
  have N500 := Fr.snoc X500 N499 q504
  have K_505 := (Keep.refl h [ro2]).wr W500 (Or.inl (List.mem_of_getElem? (i := 0) rfl))
  exact gRetV X500 H hlk hret d23_11 e500 ⟨rfl, N500, K_505, V500⟩
theorem rm524_20 (B : Bg Z a0 wE0 w_cacheI k_wE0 cl_cacheI) (ro0 ro1 ro2 : Addr) (ck3 : ClassId) (ro4 ro5 : Addr) (h : Heap) (O : Ext Z.heap h) (q369 : Exa Z h ro0 cs3) (q456 : Fld Z h ro0 cs3 "size" "I" (.int 2)) (q457 : Fld Z h ro0 cs3 "buffer" cs2 (.ref ro2)) (q458 : Arl Z h ro2 (2 : Int32)) (q459 : Fld Z h ro0 cs3 "head" "I" (.int 1)) (q460 : Arv Z h ro2 ck3 (.object "java/lang/Object") (2 : Int32) [(.ref ro4), (.ref ro5)] .null) (q461 : Exa Z h ro5 cs4) (q462 : Exa Z h ro4 cs4) (q463 : Z.heap.size ≤ ro0) (q464 : Fld Z h ro0 cs3 "serial" "I" (.int 1)) (q465 : Fld Z h ro0 cs3 "firstNumber" "J" (.long (-2))) (q510 : Exa Z h ro1 cs4) :
    Con l Z yM20 prog_50_method_9_code 2 none ({ frames := 3, cells := 1, slots := 4, locals := 45 } : Room) #[(.ref ro0), (.ref ro1)] h (fun v h' L => ∃ (b466_0 : Addr) (k466_0 : ClassId), v = none ∧ Fr Z.heap.size L ∧ Keep h h' [ro0] ∧ h.size ≤ b466_0 ∧ Exa Z h' ro0 cs3 ∧ Fld Z h' ro0 cs3 "size" "I" (.int 3) ∧ Fld Z h' ro0 cs3 "buffer" cs2 (.ref b466_0) ∧ Fld Z h' ro0 cs3 "head" "I" (.int 3) ∧ Fld Z h' ro0 cs3 "serial" "I" (.int 1) ∧ Fld Z h' ro0 cs3 "firstNumber" "J" (.long (-3)) ∧ Arv Z h' b466_0 k466_0 (.object "java/lang/Object") (4 : Int32) [(.ref ro5), (.ref ro4), .null, (.ref ro1)] .null ∧ Ovr Z k466_0 "java/lang/Object") := by
  have hw := B.1
  refine Con.of (plainFor_of_name pn20) (Ls := #[vR ro0, vR ro1]) (fun _ => rfl) ?_
  intro p e s m below meth c T0 X0 H hml hZ hown hnm hret hlk e0
  have M0 := Nat.le_refl h.size
  have N0 := Fr.nil Z.heap.size
  refine gAloadN X0 H d20_0 rfl rfl 1 rfl ?_
  refine gPrivate X0 H hZ hown (hw _ wd135) (hw _ wd136) (hw _ wd137) (hw _ wd65) (by decide) q369 (hw _ wd138) (hw _ wd66) (rm455_21 B ro0 ro2 ck3 ro4 ro5 _ O q456 q457 q458 q369 q459 q460 q461 q462 q463 q464 q465) e0 hml rfl pd0 rfl (W := 0) (argsL := []) (rest := []) rfl rfl d20_1 4 rfl ?_
  intro v466 T466 L466 hq466 X466
  obtain ⟨b466_0, k466_0, rfl, N466q, K466, s466_0, f466_0, f466_1, f466_2, f466_3, f466_4, f466_5, f466_6, f466_7⟩ := hq466
  have G_b466_0 := Nat.le_trans O.1 s466_0
  have sz_b466_0 := Nat.le_trans M0 s466_0
  have O466 := extK O K466 (allS q463 all0)
  have N466 := Fr.app N0 N466q
  show Go _ _ _ _ (State.setTop _ (mkF _ 4 _ []))
  refine gAloadN X466 H d20_4 rfl rfl 5 rfl ?_
  refine gAloadN X466 H d20_5 rfl rfl 6 rfl ?_
  refine gAloadN X466 H d20_6 rfl rfl 7 rfl ?_
  refine gGetF X466 H hZ hown (hw _ wd96) Via.refl rfl f466_1 d20_7 10 rfl ?_
  intro T467 X467 e467
  refine gLen X467 H hZ e467 (Arv.arl f466_2) d20_10 11 rfl ?_
  refine gIconst X467 H d20_11 (z := 1) rfl 12 rfl ?_
  refine g_isub X467 H d20_12 (z := 3) (by decide) 13 rfl ?_
  refine gPrivate X467 H hZ hown (hw _ wd121) (hw _ wd122) (hw _ wd123) (hw _ wd65) (by decide) f466_3 (hw _ wd124) (hw _ wd66) (rm475_18 B ro0 b466_0 _ O466 f466_4 f466_1 (Arv.arl f466_2)) e467 hml rfl pd6 rfl (W := 1) (argsL := [(.int 3)]) (rest := [(.ref ro0)]) rfl rfl d20_13 16 rfl ?_
  intro v476 T476 L476 hq476 X476
  obtain ⟨rfl, e476, rfl⟩ := hq476
  have N476 := Fr.app N466 (Fr.nil _)
  show Go _ _ _ _ (State.setTop _ (mkF _ 16 _ [(.int 3), (.ref ro0)]))
  refine gPutF X476 H hZ hown (hw _ wd125) Via.refl e476 f466_4 f466_3 (Or.inl (hw _ wd126)) (hw _ wd65) (ty := .int) (by decide) (v' := (.int 3)) rfl rfl d20_16 19 rfl ?_
  intro T477 h477 X477 e477 W477 F477
  have O477 := extW O466 W477 q463
  have N477 := Fr.snoc X477 N476 q463
  refine gAloadN X477 H d20_19 rfl rfl 20 rfl ?_
  refine gDup X477 H d20_20 rfl 21 rfl ?_
  have c478 := (f466_0.other W477 (Or.inr (sn16 hw)))
  refine gGetF X477 H hZ hown (hw _ wd98) Via.refl e477 c478 d20_21 24 rfl ?_
  intro T479 X479 e479
  refine gIconst X479 H d20_24 (z := 1) rfl 25 rfl ?_
  refine g_iadd X479 H d20_25 (z := 3) (by decide) 26 rfl ?_
  have c481 := (f466_3.wr W477)
  refine gPutF X479 H hZ hown (hw _ wd98) Via.refl e479 c478 c481 (Or.inl (hw _ wd99)) (hw _ wd65) (ty := .int) (by decide) (v' := (.int 3)) rfl rfl d20_26 29 rfl ?_
  intro T480 h480 X480 e480 W480 F480
  have O480 := extW O477 W480 q463
  have N480 := Fr.snoc X480 N477 q463
  refine gAloadN X480 H d20_29 rfl rfl 30 rfl ?_
  refine gDup X480 H d20_30 rfl 31 rfl ?_
  have c482 := ((f466_6.other W477 (Or.inr (sn17 hw))).other W480 (Or.inr (sn12 hw)))
  refine gGetF X480 H hZ hown (hw _ wd105) Via.refl e480 c482 d20_31 34 rfl ?_
  intro T483 X483 e483
  refine gLconst X483 H d20_34 (z := 1) rfl 35 rfl ?_
  refine g_lsub X483 H d20_35 (z := (-3)) (by decide) 36 rfl ?_
  have c485 := (c481.wr W480)
  refine gPutF X483 H hZ hown (hw _ wd105) Via.refl e483 c482 c485 (Or.inl (hw _ wd106)) (hw _ wd65) (ty := .long) (by decide) (v' := (.long (-3))) rfl rfl d20_36 39 rfl ?_
  intro T484 h484 X484 e484 W484 F484
  have O484 := extW O480 W484 q463
  have N484 := Fr.snoc X484 N480 q463
  refine gAloadN X484 H d20_39 rfl rfl 40 rfl ?_
  refine gIconst X484 H d20_40 (z := 0) rfl 41 rfl ?_
  refine gAloadN X484 H d20_41 rfl rfl 42 rfl ?_
  have c486 := (c485.wr W484)
  have c507 := (((f466_1.other W477 (Or.inr (sn18 hw))).other W480 (Or.inr (sn9 hw))).other W484 (Or.inr (sn19 hw)))
  have c508 := ((F477.other W480 (Or.inr (sn15 hw))).other W484 (Or.inr (sn20 hw)))
  have c509 := (((f466_2.other W477 (Ne.symm (neB q369.lt sz_b466_0))).other W480 (Ne.symm (neB q369.lt sz_b466_0))).other W484 (Ne.symm (neB q369.lt sz_b466_0)))
  have c511 := ((((q510.keep K466).wr W477).wr W480).wr W484)
  refine gVirt X484 H hZ hown (hw _ wd144) (hw _ wd145) (hw _ wd147) (hw _ wd146) (by decide) c486 (hw _ wd148) (hw _ wd66) (rm506_23 B ro0 ro1 b466_0 k466_0 ro5 ro4 _ O484 c507 c486 c508 (Arv.arl c509) c509 c511 f466_7 G_b466_0) e484 hml rfl pd7 rfl (W := 0) (argsL := [(.int 0), (.ref ro1)]) (rest := []) rfl rfl d20_42 45 rfl ?_
  intro v512 T512 L512 hq512 X512
  obtain ⟨rfl, N512q, K512, f512_0⟩ := hq512
  have O512 := extK O484 K512 (allS G_b466_0 all0)
  have N512 := Fr.app N484 N512q
  show Go _ _ _ _ (State.setTop _ (mkF _ 45 _ []))
  have c513 := (c486.keep K512)
  have c514 := ((F480.other W484 (Or.inr (sn21 hw))).keep K512 (ninS (neB q369.lt sz_b466_0) nin0))
  have c515 := (c507.keep K512 (ninS (neB q369.lt sz_b466_0) nin0))
  have c516 := (c508.keep K512 (ninS (neB q369.lt sz_b466_0) nin0))
  have c517 := ((((f466_5.other W477 (Or.inr (sn22 hw))).other W480 (Or.inr (sn8 hw))).other W484 (Or.inr (sn23 hw))).keep K512 (ninS (neB q369.lt sz_b466_0) nin0))
  have c518 := (F484.keep K512 (ninS (neB q369.lt sz_b466_0) nin0))
  have K_519 := (Keep.refl h [ro0]).trans K466 (allS (Or.inl (List.mem_of_getElem? (i := 0) rfl)) all0)
  have K_520 := K_519.wr W477 (Or.inl (List.mem_of_getElem? (i := 0) rfl))
  have K_521 := K_520.wr W480 (Or.inl (List.mem_of_getElem? (i := 0) rfl))
  have K_522 := K_521.wr W484 (Or.inl (List.mem_of_getElem? (i := 0) rfl))
  have K_523 := K_522.trans K512 (allS (Or.inr sz_b466_0) all0)
  exact gRetV X512 H hlk hret d20_45 rfl ⟨b466_0, k466_0, rfl, N512, K_523, sz_b466_0, c513, c514, c515, c516, c517, c518, f512_0, f466_7⟩
theorem rm549_15 (B : Bg Z a0 wE0 w_cacheI k_wE0 cl_cacheI) (ro0 ro1 : Addr) (ck2 : ClassId) (ro3 ro4 : Addr) (h : Heap) (O : Ext Z.heap h) (q367 : Exa Z h ro0 cs3) (q525 : Fld Z h ro0 cs3 "size" "I" (.int 2)) (q527 : Fld Z h ro0 cs3 "buffer" cs2 (.ref ro1)) (q529 : Arl Z h ro1 (2 : Int32)) (q531 : Fld Z h ro0 cs3 "head" "I" (.int 1)) (q533 : Arv Z h ro1 ck2 (.object "java/lang/Object") (2 : Int32) [(.ref ro3), (.ref ro4)] .null) (q535 : Exa Z h ro4 cs4) (q537 : Exa Z h ro3 cs4) (q539 : Z.heap.size ≤ ro0) (q540 : Fld Z h ro0 cs3 "serial" "I" (.int 1)) (q542 : Fld Z h ro0 cs3 "firstNumber" "J" (.long (-2))) :
    Con l Z yM15 method_2_code 2 none ({ frames := 4, cells := 1, slots := 4, locals := 58 } : Room) #[(.ref ro0), (.int 0)] h (fun v h' L => ∃ (b366_0 b544_0 : Addr) (k544_0 : ClassId), v = none ∧ Fr Z.heap.size L ∧ Keep h h' [ro0] ∧ h.size ≤ b544_0 ∧ Exa Z h' b366_0 cs4 ∧ Exa Z h' ro0 cs3 ∧ Fld Z h' ro0 cs3 "size" "I" (.int 3) ∧ Fld Z h' ro0 cs3 "buffer" cs2 (.ref b544_0) ∧ Fld Z h' ro0 cs3 "head" "I" (.int 3) ∧ Fld Z h' ro0 cs3 "serial" "I" (.int 1) ∧ Fld Z h' ro0 cs3 "firstNumber" "J" (.long (-3)) ∧ Arv Z h' b544_0 k544_0 (.object "java/lang/Object") (4 : Int32) [(.ref ro4), (.ref ro3), .null, (.ref b366_0)] .null ∧ b366_0 ≠ b544_0 ∧ Ovr Z k544_0 "java/lang/Object") := by
  have hw := B.1
  refine Con.of (plainFor_of_name pn15) (Ls := #[vR ro0, vI 0]) (fun _ => rfl) ?_
  intro p e s m below meth c T0 X0 H hml hZ hown hnm hret hlk e0
  have M0 := Nat.le_refl h.size
  have N0 := Fr.nil Z.heap.size
  refine gIloadN X0 H d15_0 rfl 1 rfl ?_
  refine gIfY X0 H d15_1 (by decide) (by decide) 12 rfl ?_
  refine gAloadN X0 H d15_12 rfl rfl 13 rfl ?_
  refine gBipush X0 H d15_13 (z := 20) rfl 15 rfl ?_
  refine gStatic X0 H hZ hown (hw _ wd26) (hw _ wd27) (by decide) (hw _ wd29) (hw _ wd28) (rm110_5 B _ O) e0 hml rfl pd5 rfl (W := 1) (argsL := [(.int 20)]) (rest := [(.ref ro0)]) rfl rfl d15_15 18 rfl ?_
  intro v366 T366 L366 hq366 X366
  obtain ⟨b366_0, rfl, N366q, K366, f366_0⟩ := hq366
  have O366 := extK O K366 all0
  have N366 := Fr.app N0 N366q
  show Go _ _ _ _ (State.setTop _ (mkF _ 18 _ [(.ref b366_0), (.ref ro0)]))
  have c368 := (q367.keep K366)
  have c526 := (q525.keep K366 nin0)
  have c528 := (q527.keep K366 nin0)
  have c530 := (q529.keep K366 nin0)
  have c532 := (q531.keep K366 nin0)
  have c534 := (q533.keep K366 nin0)
  have c536 := (q535.keep K366)
  have c538 := (q537.keep K366)
  have c541 := (q540.keep K366 nin0)
  have c543 := (q542.keep K366 nin0)
  refine gVirt X366 H hZ hown (hw _ wd130) (hw _ wd131) (hw _ wd133) (hw _ wd132) (by decide) c368 (hw _ wd134) (hw _ wd66) (rm524_20 B ro0 b366_0 ro1 ck2 ro3 ro4 _ O366 c368 c526 c528 c530 c532 c534 c536 c538 q539 c541 c543 f366_0) rfl hml rfl pd8 rfl (W := 0) (argsL := [(.ref b366_0)]) (rest := []) rfl rfl d15_18 21 rfl ?_
  intro v544 T544 L544 hq544 X544
  obtain ⟨b544_0, k544_0, rfl, N544q, K544, s544_0, f544_0, f544_1, f544_2, f544_3, f544_4, f544_5, f544_6, f544_7⟩ := hq544
  have M545 := (Nat.le_trans M0 K366.1)
  have G_b544_0 := Nat.le_trans O366.1 s544_0
  have sz_b544_0 := Nat.le_trans M545 s544_0
  have ne_b366_0_b544_0 : b366_0 ≠ b544_0 := neB f366_0.lt s544_0
  have O544 := extK O366 K544 (allS q539 all0)
  have N544 := Fr.app N366 N544q
  show Go _ _ _ _ (State.setTop _ (mkF _ 21 _ []))
  have c546 := (f366_0.keep K544)
  have K_547 := (Keep.refl h [ro0]).trans K366 all0
  have K_548 := K_547.trans K544 (allS (Or.inl (List.mem_of_getElem? (i := 0) rfl)) all0)
  exact gRetV X544 H hlk hret d15_21 rfl ⟨b366_0, b544_0, k544_0, rfl, N544, K_548, sz_b544_0, c546, f544_0, f544_1, f544_2, f544_3, f544_4, f544_5, f544_6, ne_b366_0_b544_0, f544_7⟩
theorem rm567_14 (B : Bg Z a0 wE0 w_cacheI k_wE0 cl_cacheI) (ro0 : Addr) (vj1 vj2 : Int64) (h : Heap) (O : Ext Z.heap h) (q562 : Fld Z h ro0 cs3 "firstNumber" "J" (.long vj2)) (q565 : Fld Z h ro0 cs3 "size" "I" (.int 3)) (hk564 : (vj1 - vj2) = (0 : Int64)) :
    Con l Z yM14 prog_50_method_7_code 5 (some .int) ({ frames := 0, cells := 0, slots := 0, locals := 0 } : Room) #[(.ref ro0), (.long vj1)] h (fun v h' L => v = some (.int 0) ∧ h' = h ∧ L = []) := by
  have hw := B.1
  refine Con.of (plainFor_of_name pn14) (Ls := #[vR ro0, vJ vj1, .second, .unset, .unset]) (fun _ => by first | (simp [entryFrame, mkF, argsToLocals, Value.category, maxLocals]; done) | rfl) ?_
  intro p e s m below meth c T0 X0 H hml hZ hown hnm hret hlk e0
  refine gLloadN X0 H d14_0 rfl 1 rfl ?_
  refine gAloadN X0 H d14_1 rfl rfl 2 rfl ?_
  refine gGetF X0 H hZ hown (hw _ wd105) Via.refl e0 q562 d14_2 5 rfl ?_
  intro T563 X563 e563
  refine g_lsub X563 H d14_5 (z := 0) hk564 6 rfl ?_
  refine gLstoreN X563 H d14_6 (Ls' := #[vR ro0, vJ vj1, .second, vJ 0, .second]) rfl 7 rfl ?_
  refine gLloadN X563 H d14_7 rfl 8 rfl ?_
  refine gLconst X563 H d14_8 (z := 0) rfl 9 rfl ?_
  refine g_lcmp X563 H d14_9 (z := (lcmpW (0 : Int64) (0 : Int64))) rfl 10 rfl ?_
  refine gIfN X563 H d14_10 (by decide) 13 rfl ?_
  refine gLloadN X563 H d14_13 rfl 14 rfl ?_
  refine gAloadN X563 H d14_14 rfl rfl 15 rfl ?_
  refine gGetF X563 H hZ hown (hw _ wd98) Via.refl e563 q565 d14_15 18 rfl ?_
  intro T566 X566 e566
  refine g_i2l X566 H d14_18 (z := 3) (by decide) 19 rfl ?_
  refine g_lcmp X566 H d14_19 (z := (lcmpW (0 : Int64) (3 : Int64))) rfl 20 rfl ?_
  refine gIfN X566 H d14_20 (by decide) 23 rfl ?_
  refine gLloadN X566 H d14_23 rfl 24 rfl ?_
  refine g_l2i X566 H d14_24 (z := 0) (by decide) 25 rfl ?_
  refine gGoto X566 H d14_25 (by decide) 29 rfl ?_
  exact gRetI X566 H hlk hret d14_29 e566 ⟨rfl, rfl, rfl⟩
theorem rm577_14 (B : Bg Z a0 wE0 w_cacheI k_wE0 cl_cacheI) (ro0 : Addr) (vj1 vj2 : Int64) (h : Heap) (O : Ext Z.heap h) (q572 : Fld Z h ro0 cs3 "firstNumber" "J" (.long vj2)) (q575 : Fld Z h ro0 cs3 "size" "I" (.int 3)) (hk574 : (vj1 - vj2) = (1 : Int64)) :
    Con l Z yM14 prog_50_method_7_code 5 (some .int) ({ frames := 0, cells := 0, slots := 0, locals := 0 } : Room) #[(.ref ro0), (.long vj1)] h (fun v h' L => v = some (.int 1) ∧ h' = h ∧ L = []) := by
  have hw := B.1
  refine Con.of (plainFor_of_name pn14) (Ls := #[vR ro0, vJ vj1, .second, .unset, .unset]) (fun _ => by first | (simp [entryFrame, mkF, argsToLocals, Value.category, maxLocals]; done) | rfl) ?_
  intro p e s m below meth c T0 X0 H hml hZ hown hnm hret hlk e0
  refine gLloadN X0 H d14_0 rfl 1 rfl ?_
  refine gAloadN X0 H d14_1 rfl rfl 2 rfl ?_
  refine gGetF X0 H hZ hown (hw _ wd105) Via.refl e0 q572 d14_2 5 rfl ?_
  intro T573 X573 e573
  refine g_lsub X573 H d14_5 (z := 1) hk574 6 rfl ?_
  refine gLstoreN X573 H d14_6 (Ls' := #[vR ro0, vJ vj1, .second, vJ 1, .second]) rfl 7 rfl ?_
  refine gLloadN X573 H d14_7 rfl 8 rfl ?_
  refine gLconst X573 H d14_8 (z := 0) rfl 9 rfl ?_
  refine g_lcmp X573 H d14_9 (z := (lcmpW (1 : Int64) (0 : Int64))) rfl 10 rfl ?_
  refine gIfN X573 H d14_10 (by decide) 13 rfl ?_
  refine gLloadN X573 H d14_13 rfl 14 rfl ?_
  refine gAloadN X573 H d14_14 rfl rfl 15 rfl ?_
  refine gGetF X573 H hZ hown (hw _ wd98) Via.refl e573 q575 d14_15 18 rfl ?_
  intro T576 X576 e576
  refine g_i2l X576 H d14_18 (z := 3) (by decide) 19 rfl ?_
  refine g_lcmp X576 H d14_19 (z := (lcmpW (1 : Int64) (3 : Int64))) rfl 20 rfl ?_
  refine gIfN X576 H d14_20 (by decide) 23 rfl ?_
  refine gLloadN X576 H d14_23 rfl 24 rfl ?_
  refine g_l2i X576 H d14_24 (z := 1) (by decide) 25 rfl ?_
  refine gGoto X576 H d14_25 (by decide) 29 rfl ?_
  exact gRetI X576 H hlk hret d14_29 e576 ⟨rfl, rfl, rfl⟩
theorem rm587_14 (B : Bg Z a0 wE0 w_cacheI k_wE0 cl_cacheI) (ro0 : Addr) (vj1 vj2 : Int64) (h : Heap) (O : Ext Z.heap h) (q582 : Fld Z h ro0 cs3 "firstNumber" "J" (.long vj2)) (q585 : Fld Z h ro0 cs3 "size" "I" (.int 3)) (hk584 : (vj1 - vj2) = (2 : Int64)) :
    Con l Z yM14 prog_50_method_7_code 5 (some .int) ({ frames := 0, cells := 0, slots := 0, locals := 0 } : Room) #[(.ref ro0), (.long vj1)] h (fun v h' L => v = some (.int 2) ∧ h' = h ∧ L = []) := by
  have hw := B.1
  refine Con.of (plainFor_of_name pn14) (Ls := #[vR ro0, vJ vj1, .second, .unset, .unset]) (fun _ => by first | (simp [entryFrame, mkF, argsToLocals, Value.category, maxLocals]; done) | rfl) ?_
  intro p e s m below meth c T0 X0 H hml hZ hown hnm hret hlk e0
  refine gLloadN X0 H d14_0 rfl 1 rfl ?_
  refine gAloadN X0 H d14_1 rfl rfl 2 rfl ?_
  refine gGetF X0 H hZ hown (hw _ wd105) Via.refl e0 q582 d14_2 5 rfl ?_
  intro T583 X583 e583
  refine g_lsub X583 H d14_5 (z := 2) hk584 6 rfl ?_
  refine gLstoreN X583 H d14_6 (Ls' := #[vR ro0, vJ vj1, .second, vJ 2, .second]) rfl 7 rfl ?_
  refine gLloadN X583 H d14_7 rfl 8 rfl ?_
  refine gLconst X583 H d14_8 (z := 0) rfl 9 rfl ?_
  refine g_lcmp X583 H d14_9 (z := (lcmpW (2 : Int64) (0 : Int64))) rfl 10 rfl ?_
  refine gIfN X583 H d14_10 (by decide) 13 rfl ?_
  refine gLloadN X583 H d14_13 rfl 14 rfl ?_
  refine gAloadN X583 H d14_14 rfl rfl 15 rfl ?_
  refine gGetF X583 H hZ hown (hw _ wd98) Via.refl e583 q585 d14_15 18 rfl ?_
  intro T586 X586 e586
  refine g_i2l X586 H d14_18 (z := 3) (by decide) 19 rfl ?_
  refine g_lcmp X586 H d14_19 (z := (lcmpW (2 : Int64) (3 : Int64))) rfl 20 rfl ?_
  refine gIfN X586 H d14_20 (by decide) 23 rfl ?_
  refine gLloadN X586 H d14_23 rfl 24 rfl ?_
  refine g_l2i X586 H d14_24 (z := 2) (by decide) 25 rfl ?_
  refine gGoto X586 H d14_25 (by decide) 29 rfl ?_
  exact gRetI X586 H hlk hret d14_29 e586 ⟨rfl, rfl, rfl⟩
theorem rm595_14 (B : Bg Z a0 wE0 w_cacheI k_wE0 cl_cacheI) (ro0 : Addr) (vj1 vj2 : Int64) (h : Heap) (O : Ext Z.heap h) (q592 : Fld Z h ro0 cs3 "firstNumber" "J" (.long vj2)) (hk594 : (vj1 - vj2) < (0 : Int64)) :
    Con l Z yM14 prog_50_method_7_code 5 (some .int) ({ frames := 0, cells := 0, slots := 0, locals := 0 } : Room) #[(.ref ro0), (.long vj1)] h (fun v h' L => v = some (.int (-1)) ∧ h' = h ∧ L = []) := by
  have hw := B.1
  refine Con.of (plainFor_of_name pn14) (Ls := #[vR ro0, vJ vj1, .second, .unset, .unset]) (fun _ => by first | (simp [entryFrame, mkF, argsToLocals, Value.category, maxLocals]; done) | rfl) ?_
  intro p e s m below meth c T0 X0 H hml hZ hown hnm hret hlk e0
  refine gLloadN X0 H d14_0 rfl 1 rfl ?_
  refine gAloadN X0 H d14_1 rfl rfl 2 rfl ?_
  refine gGetF X0 H hZ hown (hw _ wd105) Via.refl e0 q592 d14_2 5 rfl ?_
  intro T593 X593 e593
  refine g_lsub X593 H d14_5 (z := (vj1 - vj2)) rfl 6 rfl ?_
  refine gLstoreN X593 H d14_6 (Ls' := #[vR ro0, vJ vj1, .second, vJ (vj1 - vj2), .second]) rfl 7 rfl ?_
  refine gLloadN X593 H d14_7 rfl 8 rfl ?_
  refine gLconst X593 H d14_8 (z := 0) rfl 9 rfl ?_
  refine g_lcmp X593 H d14_9 (z := (lcmpW (vj1 - vj2) (0 : Int64))) rfl 10 rfl ?_
  refine gIfY X593 H d14_10 ((if0 _ _).trans (tlt ((lw_lt _ _).mpr hk594)).1) (by decide) 28 rfl ?_
  refine gIconst X593 H d14_28 (z := (-1)) rfl 29 rfl ?_
  exact gRetI X593 H hlk hret d14_29 e593 ⟨rfl, rfl, rfl⟩
theorem rm603_14 (B : Bg Z a0 wE0 w_cacheI k_wE0 cl_cacheI) (ro0 : Addr) (vj1 vj2 : Int64) (h : Heap) (O : Ext Z.heap h) (q597 : Fld Z h ro0 cs3 "firstNumber" "J" (.long vj2)) (q600 : Fld Z h ro0 cs3 "size" "I" (.int 3)) (hk599 : ¬ ((vj1 - vj2) < (0 : Int64))) (hk602 : ¬ ((vj1 - vj2) < (3 : Int64))) :
    Con l Z yM14 prog_50_method_7_code 5 (some .int) ({ frames := 0, cells := 0, slots := 0, locals := 0 } : Room) #[(.ref ro0), (.long vj1)] h (fun v h' L => v = some (.int (-1)) ∧ h' = h ∧ L = []) := by
  have hw := B.1
  refine Con.of (plainFor_of_name pn14) (Ls := #[vR ro0, vJ vj1, .second, .unset, .unset]) (fun _ => by first | (simp [entryFrame, mkF, argsToLocals, Value.category, maxLocals]; done) | rfl) ?_
  intro p e s m below meth c T0 X0 H hml hZ hown hnm hret hlk e0
  refine gLloadN X0 H d14_0 rfl 1 rfl ?_
  refine gAloadN X0 H d14_1 rfl rfl 2 rfl ?_
  refine gGetF X0 H hZ hown (hw _ wd105) Via.refl e0 q597 d14_2 5 rfl ?_
  intro T598 X598 e598
  refine g_lsub X598 H d14_5 (z := (vj1 - vj2)) rfl 6 rfl ?_
  refine gLstoreN X598 H d14_6 (Ls' := #[vR ro0, vJ vj1, .second, vJ (vj1 - vj2), .second]) rfl 7 rfl ?_
  refine gLloadN X598 H d14_7 rfl 8 rfl ?_
  refine gLconst X598 H d14_8 (z := 0) rfl 9 rfl ?_
  refine g_lcmp X598 H d14_9 (z := (lcmpW (vj1 - vj2) (0 : Int64))) rfl 10 rfl ?_
  refine gIfN X598 H d14_10 ((if0 _ _).trans (flt (fun q => hk599 ((lw_lt _ _).mp q))).1) 13 rfl ?_
  refine gLloadN X598 H d14_13 rfl 14 rfl ?_
  refine gAloadN X598 H d14_14 rfl rfl 15 rfl ?_
  refine gGetF X598 H hZ hown (hw _ wd98) Via.refl e598 q600 d14_15 18 rfl ?_
  intro T601 X601 e601
  refine g_i2l X601 H d14_18 (z := 3) (by decide) 19 rfl ?_
  refine g_lcmp X601 H d14_19 (z := (lcmpW (vj1 - vj2) (3 : Int64))) rfl 20 rfl ?_
  refine gIfY X601 H d14_20 ((if0 _ _).trans (flt (fun q => hk602 ((lw_lt _ _).mp q))).2.1) (by decide) 28 rfl ?_
  refine gIconst X601 H d14_28 (z := (-1)) rfl 29 rfl ?_
  exact gRetI X601 H hlk hret d14_29 e601 ⟨rfl, rfl, rfl⟩
theorem tail558_203 (B : Bg Z a0 wE0 w_cacheI k_wE0 cl_cacheI) (p0 : Int64) (p1 : Int32) (p2 : Int32) (p3 : Int32) (o6 : Addr) (o7 : Addr) (u8 : Int32) (u9 : Int32) (u10 : Int64) (u12 : Int64) {p : Program} {e : Env} {s : State} {m : MethodId} {below : List Frame} {meth : Method} {c : Code} {T0 : State} {locs : List Loc} {cells slots : Nat} {h : Heap} (X0 : Stand p l e room_1 s m #[(.long p0), (.int p1), (.int p2), (.int p3)] below meth c T0 locs cells slots) (H : p.tables.exec = Jvm.exec ∧ c.code = code) (hml : c.maxLocals = maxLocals) (hZ : Z.Warmed39 s.vm) (hown : s.vm.findClass x.cls = some m.cls) (hnm : meth.name = x.name) (hret : meth.sig.returnType = ret) (hlk : meth.locks = false) (N0 : Fr Z.heap.size locs) (hC : cells ≤ room_1.cells) (hS : slots ≤ room_1.slots) (e0 : T0.heap = h) (O : Ext Z.heap h) (qq0 : Exa Z h o7 cs3) (qq1 : Fld Z h o7 cs3 "size" "I" (.int 3)) (qq2 : Fld Z h o7 cs3 "firstNumber" "J" (.long u10)) :
    Go p e below (EndK s below (fun v h' L => v = some (.int 1) ∧ Fr Z.heap.size L) room_1.cells room_1.slots) (T0.setTop (mkF m 203 #[vJ p0, .second, vI p1, vI p2, vI p3, vI 3, vR o6, vR o7, vI u8, vI u9, vJ u10, .second, vJ u12, .second, .unset, .unset] [])) := by
  have hw := B.1
  obtain ⟨S_wE0, V_wE0, S_high, S_cacheI, B_cacheI⟩ := B.2
  have M0 := Nat.le_refl h.size
  refine gAload X0 H at_203 rfl rfl 205 rfl ?_
  refine gLload X0 H at_205 rfl 207 rfl ?_
  by_cases hc561 : (u12 - u10) = (0 : Int64)
  · refine gVirt X0 H hZ hown (hw _ wd100) (hw _ wd101) (hw _ wd103) (hw _ wd102) (by decide) qq0 (hw _ wd104) (hw _ wd66) (rm567_14 B o7 u12 u10 _ O qq2 qq1 hc561) e0 hml rfl pd12 rfl (W := 0) (argsL := [(.long u12)]) (rest := []) rfl rfl at_207 210 rfl ?_ (hc := hC) (hsl := hS)
    intro v568 T568 L568 hq568 X568
    obtain ⟨rfl, e568, rfl⟩ := hq568
    have N568 := Fr.app N0 (Fr.nil _)
    show Go _ _ _ _ (State.setTop _ (mkF _ 210 _ [(.int 0)]))
    refine gIstore X568 H at_210 (Ls' := #[vJ p0, .second, vI p1, vI p2, vI p3, vI 3, vR o6, vR o7, vI u8, vI u9, vJ u10, .second, vJ u12, .second, vI 0, .unset]) rfl 212 rfl ?_
    refine gIconst X568 H at_212 (z := (-1)) rfl 213 rfl ?_
    refine gIstore X568 H at_213 (Ls' := #[vJ p0, .second, vI p1, vI p2, vI p3, vI 3, vR o6, vR o7, vI u8, vI u9, vJ u10, .second, vJ u12, .second, vI 0, vI (-1)]) rfl 215 rfl ?_
    refine gIload X568 H at_215 rfl 217 rfl ?_
    refine gIfN X568 H at_217 (by decide) 220 rfl ?_
    refine gLload X568 H at_220 rfl 222 rfl ?_
    refine gLload X568 H at_222 rfl 224 rfl ?_
    refine g_lcmp X568 H at_224 (z := (lcmpW u12 u10)) rfl 225 rfl ?_
    refine gIfN X568 H at_225 ((if0 _ _).trans (teq ((lw_eq _ _).mpr (off_eq0 hc561))).2) 228 rfl ?_
    refine gIconst X568 H at_228 (z := 0) rfl 229 rfl ?_
    refine gIstore X568 H at_229 (Ls' := #[vJ p0, .second, vI p1, vI p2, vI p3, vI 3, vR o6, vR o7, vI u8, vI u9, vJ u10, .second, vJ u12, .second, vI 0, vI 0]) rfl 231 rfl ?_
    refine gGoto X568 H at_231 (by decide) 349 rfl ?_
    refine gIload X568 H at_349 rfl 351 rfl ?_
    refine gIload X568 H at_351 rfl 353 rfl ?_
    refine gCmpN X568 H at_353 (by decide) 356 rfl ?_
    refine gIconst X568 H at_356 (z := 1) rfl 357 rfl ?_
    refine gGoto X568 H at_357 (by decide) 361 rfl ?_
    exact gRetN X568 H hlk hret (t := .boolean) (by simp) at_361 e568 ⟨rfl, N568⟩ hC hS
  · by_cases hc571 : (u12 - u10) = (1 : Int64)
    · refine gVirt X0 H hZ hown (hw _ wd100) (hw _ wd101) (hw _ wd103) (hw _ wd102) (by decide) qq0 (hw _ wd104) (hw _ wd66) (rm577_14 B o7 u12 u10 _ O qq2 qq1 hc571) e0 hml rfl pd12 rfl (W := 0) (argsL := [(.long u12)]) (rest := []) rfl rfl at_207 210 rfl ?_ (hc := hC) (hsl := hS)
      intro v578 T578 L578 hq578 X578
      obtain ⟨rfl, e578, rfl⟩ := hq578
      have N578 := Fr.app N0 (Fr.nil _)
      show Go _ _ _ _ (State.setTop _ (mkF _ 210 _ [(.int 1)]))
      refine gIstore X578 H at_210 (Ls' := #[vJ p0, .second, vI p1, vI p2, vI p3, vI 3, vR o6, vR o7, vI u8, vI u9, vJ u10, .second, vJ u12, .second, vI 1, .unset]) rfl 212 rfl ?_
      refine gIconst X578 H at_212 (z := (-1)) rfl 213 rfl ?_
      refine gIstore X578 H at_213 (Ls' := #[vJ p0, .second, vI p1, vI p2, vI p3, vI 3, vR o6, vR o7, vI u8, vI u9, vJ u10, .second, vJ u12, .second, vI 1, vI (-1)]) rfl 215 rfl ?_
      refine gIload X578 H at_215 rfl 217 rfl ?_
      refine gIfN X578 H at_217 (by decide) 220 rfl ?_
      refine gLload X578 H at_220 rfl 222 rfl ?_
      refine gLload X578 H at_222 rfl 224 rfl ?_
      refine g_lcmp X578 H at_224 (z := (lcmpW u12 u10)) rfl 225 rfl ?_
      refine gIfY X578 H at_225 ((if0 _ _).trans (feq (fun q => (off_ne0 (off_two hc571 (by decide))) ((lw_eq _ _).mp q))).2) (by decide) 234 rfl ?_
      refine gIload X578 H at_234 rfl 236 rfl ?_
      refine gIconst X578 H at_236 (z := 1) rfl 237 rfl ?_
      refine gCmpN X578 H at_237 (by decide) 240 rfl ?_
      refine gLload X578 H at_240 rfl 242 rfl ?_
      refine gLload X578 H at_242 rfl 244 rfl ?_
      refine gLconst X578 H at_244 (z := 1) rfl 245 rfl ?_
      refine g_ladd X578 H at_245 (z := (u10 + (1 : Int64))) rfl 246 rfl ?_
      refine g_lcmp X578 H at_246 (z := (lcmpW u12 (u10 + (1 : Int64)))) rfl 247 rfl ?_
      refine gIfN X578 H at_247 ((if0 _ _).trans (teq ((lw_eq _ _).mpr (off_eq hc571))).2) 250 rfl ?_
      refine gIconst X578 H at_250 (z := 1) rfl 251 rfl ?_
      refine gIstore X578 H at_251 (Ls' := #[vJ p0, .second, vI p1, vI p2, vI p3, vI 3, vR o6, vR o7, vI u8, vI u9, vJ u10, .second, vJ u12, .second, vI 1, vI 1]) rfl 253 rfl ?_
      refine gGoto X578 H at_253 (by decide) 349 rfl ?_
      refine gIload X578 H at_349 rfl 351 rfl ?_
      refine gIload X578 H at_351 rfl 353 rfl ?_
      refine gCmpN X578 H at_353 (by decide) 356 rfl ?_
      refine gIconst X578 H at_356 (z := 1) rfl 357 rfl ?_
      refine gGoto X578 H at_357 (by decide) 361 rfl ?_
      exact gRetN X578 H hlk hret (t := .boolean) (by simp) at_361 e578 ⟨rfl, N578⟩ hC hS
    · by_cases hc581 : (u12 - u10) = (2 : Int64)
      · refine gVirt X0 H hZ hown (hw _ wd100) (hw _ wd101) (hw _ wd103) (hw _ wd102) (by decide) qq0 (hw _ wd104) (hw _ wd66) (rm587_14 B o7 u12 u10 _ O qq2 qq1 hc581) e0 hml rfl pd12 rfl (W := 0) (argsL := [(.long u12)]) (rest := []) rfl rfl at_207 210 rfl ?_ (hc := hC) (hsl := hS)
        intro v588 T588 L588 hq588 X588
        obtain ⟨rfl, e588, rfl⟩ := hq588
        have N588 := Fr.app N0 (Fr.nil _)
        show Go _ _ _ _ (State.setTop _ (mkF _ 210 _ [(.int 2)]))
        refine gIstore X588 H at_210 (Ls' := #[vJ p0, .second, vI p1, vI p2, vI p3, vI 3, vR o6, vR o7, vI u8, vI u9, vJ u10, .second, vJ u12, .second, vI 2, .unset]) rfl 212 rfl ?_
        refine gIconst X588 H at_212 (z := (-1)) rfl 213 rfl ?_
        refine gIstore X588 H at_213 (Ls' := #[vJ p0, .second, vI p1, vI p2, vI p3, vI 3, vR o6, vR o7, vI u8, vI u9, vJ u10, .second, vJ u12, .second, vI 2, vI (-1)]) rfl 215 rfl ?_
        refine gIload X588 H at_215 rfl 217 rfl ?_
        refine gIfN X588 H at_217 (by decide) 220 rfl ?_
        refine gLload X588 H at_220 rfl 222 rfl ?_
        refine gLload X588 H at_222 rfl 224 rfl ?_
        refine g_lcmp X588 H at_224 (z := (lcmpW u12 u10)) rfl 225 rfl ?_
        refine gIfY X588 H at_225 ((if0 _ _).trans (feq (fun q => (off_ne0 (off_two hc581 (by decide))) ((lw_eq _ _).mp q))).2) (by decide) 234 rfl ?_
        refine gIload X588 H at_234 rfl 236 rfl ?_
        refine gIconst X588 H at_236 (z := 1) rfl 237 rfl ?_
        refine gCmpN X588 H at_237 (by decide) 240 rfl ?_
        refine gLload X588 H at_240 rfl 242 rfl ?_
        refine gLload X588 H at_242 rfl 244 rfl ?_
        refine gLconst X588 H at_244 (z := 1) rfl 245 rfl ?_
        refine g_ladd X588 H at_245 (z := (u10 + (1 : Int64))) rfl 246 rfl ?_
        refine g_lcmp X588 H at_246 (z := (lcmpW u12 (u10 + (1 : Int64)))) rfl 247 rfl ?_
        refine gIfY X588 H at_247 ((if0 _ _).trans (feq (fun q => (off_ne (off_two hc581 (by decide))) ((lw_eq _ _).mp q))).2) (by decide) 256 rfl ?_
        refine gIload X588 H at_256 rfl 258 rfl ?_
        refine gIconst X588 H at_258 (z := 2) rfl 259 rfl ?_
        refine gCmpN X588 H at_259 (by decide) 262 rfl ?_
        refine gLload X588 H at_262 rfl 264 rfl ?_
        refine gLload X588 H at_264 rfl 266 rfl ?_
        refine gLdc2 X588 H hZ hown (hw _ wd149) at_266 269 rfl ?_
        refine g_ladd X588 H at_269 (z := (u10 + (2 : Int64))) rfl 270 rfl ?_
        refine g_lcmp X588 H at_270 (z := (lcmpW u12 (u10 + (2 : Int64)))) rfl 271 rfl ?_
        refine gIfN X588 H at_271 ((if0 _ _).trans (teq ((lw_eq _ _).mpr (off_eq hc581))).2) 274 rfl ?_
        refine gIconst X588 H at_274 (z := 2) rfl 275 rfl ?_
        refine gIstore X588 H at_275 (Ls' := #[vJ p0, .second, vI p1, vI p2, vI p3, vI 3, vR o6, vR o7, vI u8, vI u9, vJ u10, .second, vJ u12, .second, vI 2, vI 2]) rfl 277 rfl ?_
        refine gGoto X588 H at_277 (by decide) 349 rfl ?_
        refine gIload X588 H at_349 rfl 351 rfl ?_
        refine gIload X588 H at_351 rfl 353 rfl ?_
        refine gCmpN X588 H at_353 (by decide) 356 rfl ?_
        refine gIconst X588 H at_356 (z := 1) rfl 357 rfl ?_
        refine gGoto X588 H at_357 (by decide) 361 rfl ?_
        exact gRetN X588 H hlk hret (t := .boolean) (by simp) at_361 e588 ⟨rfl, N588⟩ hC hS
      · by_cases hc591 : (u12 - u10) < (0 : Int64)
        · refine gVirt X0 H hZ hown (hw _ wd100) (hw _ wd101) (hw _ wd103) (hw _ wd102) (by decide) qq0 (hw _ wd104) (hw _ wd66) (rm595_14 B o7 u12 u10 _ O qq2 hc591) e0 hml rfl pd12 rfl (W := 0) (argsL := [(.long u12)]) (rest := []) rfl rfl at_207 210 rfl ?_ (hc := hC) (hsl := hS)
          intro v596 T596 L596 hq596 X596
          obtain ⟨rfl, e596, rfl⟩ := hq596
          have N596 := Fr.app N0 (Fr.nil _)
          show Go _ _ _ _ (State.setTop _ (mkF _ 210 _ [(.int (-1))]))
          refine gIstore X596 H at_210 (Ls' := #[vJ p0, .second, vI p1, vI p2, vI p3, vI 3, vR o6, vR o7, vI u8, vI u9, vJ u10, .second, vJ u12, .second, vI (-1), .unset]) rfl 212 rfl ?_
          refine gIconst X596 H at_212 (z := (-1)) rfl 213 rfl ?_
          refine gIstore X596 H at_213 (Ls' := #[vJ p0, .second, vI p1, vI p2, vI p3, vI 3, vR o6, vR o7, vI u8, vI u9, vJ u10, .second, vJ u12, .second, vI (-1), vI (-1)]) rfl 215 rfl ?_
          refine gIload X596 H at_215 rfl 217 rfl ?_
          refine gIfN X596 H at_217 (by decide) 220 rfl ?_
          refine gLload X596 H at_220 rfl 222 rfl ?_
          refine gLload X596 H at_222 rfl 224 rfl ?_
          refine g_lcmp X596 H at_224 (z := (lcmpW u12 u10)) rfl 225 rfl ?_
          refine gIfY X596 H at_225 ((if0 _ _).trans (feq (fun q => (off_ne0 hc561) ((lw_eq _ _).mp q))).2) (by decide) 234 rfl ?_
          refine gIload X596 H at_234 rfl 236 rfl ?_
          refine gIconst X596 H at_236 (z := 1) rfl 237 rfl ?_
          refine gCmpN X596 H at_237 (by decide) 240 rfl ?_
          refine gLload X596 H at_240 rfl 242 rfl ?_
          refine gLload X596 H at_242 rfl 244 rfl ?_
          refine gLconst X596 H at_244 (z := 1) rfl 245 rfl ?_
          refine g_ladd X596 H at_245 (z := (u10 + (1 : Int64))) rfl 246 rfl ?_
          refine g_lcmp X596 H at_246 (z := (lcmpW u12 (u10 + (1 : Int64)))) rfl 247 rfl ?_
          refine gIfY X596 H at_247 ((if0 _ _).trans (feq (fun q => (off_ne hc571) ((lw_eq _ _).mp q))).2) (by decide) 256 rfl ?_
          refine gIload X596 H at_256 rfl 258 rfl ?_
          refine gIconst X596 H at_258 (z := 2) rfl 259 rfl ?_
          refine gCmpN X596 H at_259 (by decide) 262 rfl ?_
          refine gLload X596 H at_262 rfl 264 rfl ?_
          refine gLload X596 H at_264 rfl 266 rfl ?_
          refine gLdc2 X596 H hZ hown (hw _ wd149) at_266 269 rfl ?_
          refine g_ladd X596 H at_269 (z := (u10 + (2 : Int64))) rfl 270 rfl ?_
          refine g_lcmp X596 H at_270 (z := (lcmpW u12 (u10 + (2 : Int64)))) rfl 271 rfl ?_
          refine gIfY X596 H at_271 ((if0 _ _).trans (feq (fun q => (off_ne hc581) ((lw_eq _ _).mp q))).2) (by decide) 280 rfl ?_
          refine gIload X596 H at_280 rfl 282 rfl ?_
          refine gIconst X596 H at_282 (z := 3) rfl 283 rfl ?_
          refine gCmpY X596 H at_283 (by decide) (by decide) 304 rfl ?_
          refine gIload X596 H at_304 rfl 306 rfl ?_
          refine gIconst X596 H at_306 (z := 4) rfl 307 rfl ?_
          refine gCmpY X596 H at_307 (by decide) (by decide) 328 rfl ?_
          refine gIload X596 H at_328 rfl 330 rfl ?_
          refine gIconst X596 H at_330 (z := 5) rfl 331 rfl ?_
          refine gCmpY X596 H at_331 (by decide) (by decide) 349 rfl ?_
          refine gIload X596 H at_349 rfl 351 rfl ?_
          refine gIload X596 H at_351 rfl 353 rfl ?_
          refine gCmpN X596 H at_353 (by decide) 356 rfl ?_
          refine gIconst X596 H at_356 (z := 1) rfl 357 rfl ?_
          refine gGoto X596 H at_357 (by decide) 361 rfl ?_
          exact gRetN X596 H hlk hret (t := .boolean) (by simp) at_361 e596 ⟨rfl, N596⟩ hC hS
        · refine gVirt X0 H hZ hown (hw _ wd100) (hw _ wd101) (hw _ wd103) (hw _ wd102) (by decide) qq0 (hw _ wd104) (hw _ wd66) (rm603_14 B o7 u12 u10 _ O qq2 qq1 hc591 (off_no (k := 3) hc591 (by decide) (of3 (fun q => hc561 (Int64.toInt_inj.mp (q.trans (by decide)))) (fun q => hc571 (Int64.toInt_inj.mp (q.trans (by decide)))) (fun q => hc581 (Int64.toInt_inj.mp (q.trans (by decide))))))) e0 hml rfl pd12 rfl (W := 0) (argsL := [(.long u12)]) (rest := []) rfl rfl at_207 210 rfl ?_ (hc := hC) (hsl := hS)
          intro v604 T604 L604 hq604 X604
          obtain ⟨rfl, e604, rfl⟩ := hq604
          have N604 := Fr.app N0 (Fr.nil _)
          show Go _ _ _ _ (State.setTop _ (mkF _ 210 _ [(.int (-1))]))
          refine gIstore X604 H at_210 (Ls' := #[vJ p0, .second, vI p1, vI p2, vI p3, vI 3, vR o6, vR o7, vI u8, vI u9, vJ u10, .second, vJ u12, .second, vI (-1), .unset]) rfl 212 rfl ?_
          refine gIconst X604 H at_212 (z := (-1)) rfl 213 rfl ?_
          refine gIstore X604 H at_213 (Ls' := #[vJ p0, .second, vI p1, vI p2, vI p3, vI 3, vR o6, vR o7, vI u8, vI u9, vJ u10, .second, vJ u12, .second, vI (-1), vI (-1)]) rfl 215 rfl ?_
          refine gIload X604 H at_215 rfl 217 rfl ?_
          refine gIfN X604 H at_217 (by decide) 220 rfl ?_
          refine gLload X604 H at_220 rfl 222 rfl ?_
          refine gLload X604 H at_222 rfl 224 rfl ?_
          refine g_lcmp X604 H at_224 (z := (lcmpW u12 u10)) rfl 225 rfl ?_
          refine gIfY X604 H at_225 ((if0 _ _).trans (feq (fun q => (off_ne0 hc561) ((lw_eq _ _).mp q))).2) (by decide) 234 rfl ?_
          refine gIload X604 H at_234 rfl 236 rfl ?_
          refine gIconst X604 H at_236 (z := 1) rfl 237 rfl ?_
          refine gCmpN X604 H at_237 (by decide) 240 rfl ?_
          refine gLload X604 H at_240 rfl 242 rfl ?_
          refine gLload X604 H at_242 rfl 244 rfl ?_
          refine gLconst X604 H at_244 (z := 1) rfl 245 rfl ?_
          refine g_ladd X604 H at_245 (z := (u10 + (1 : Int64))) rfl 246 rfl ?_
          refine g_lcmp X604 H at_246 (z := (lcmpW u12 (u10 + (1 : Int64)))) rfl 247 rfl ?_
          refine gIfY X604 H at_247 ((if0 _ _).trans (feq (fun q => (off_ne hc571) ((lw_eq _ _).mp q))).2) (by decide) 256 rfl ?_
          refine gIload X604 H at_256 rfl 258 rfl ?_
          refine gIconst X604 H at_258 (z := 2) rfl 259 rfl ?_
          refine gCmpN X604 H at_259 (by decide) 262 rfl ?_
          refine gLload X604 H at_262 rfl 264 rfl ?_
          refine gLload X604 H at_264 rfl 266 rfl ?_
          refine gLdc2 X604 H hZ hown (hw _ wd149) at_266 269 rfl ?_
          refine g_ladd X604 H at_269 (z := (u10 + (2 : Int64))) rfl 270 rfl ?_
          refine g_lcmp X604 H at_270 (z := (lcmpW u12 (u10 + (2 : Int64)))) rfl 271 rfl ?_
          refine gIfY X604 H at_271 ((if0 _ _).trans (feq (fun q => (off_ne hc581) ((lw_eq _ _).mp q))).2) (by decide) 280 rfl ?_
          refine gIload X604 H at_280 rfl 282 rfl ?_
          refine gIconst X604 H at_282 (z := 3) rfl 283 rfl ?_
          refine gCmpY X604 H at_283 (by decide) (by decide) 304 rfl ?_
          refine gIload X604 H at_304 rfl 306 rfl ?_
          refine gIconst X604 H at_306 (z := 4) rfl 307 rfl ?_
          refine gCmpY X604 H at_307 (by decide) (by decide) 328 rfl ?_
          refine gIload X604 H at_328 rfl 330 rfl ?_
          refine gIconst X604 H at_330 (z := 5) rfl 331 rfl ?_
          refine gCmpY X604 H at_331 (by decide) (by decide) 349 rfl ?_
          refine gIload X604 H at_349 rfl 351 rfl ?_
          refine gIload X604 H at_351 rfl 353 rfl ?_
          refine gCmpN X604 H at_353 (by decide) 356 rfl ?_
          refine gIconst X604 H at_356 (z := 1) rfl 357 rfl ?_
          refine gGoto X604 H at_357 (by decide) 361 rfl ?_
          exact gRetN X604 H hlk hret (t := .boolean) (by simp) at_361 e604 ⟨rfl, N604⟩ hC hS
theorem tail556_176 (B : Bg Z a0 wE0 w_cacheI k_wE0 cl_cacheI) (p0 : Int64) (p1 : Int32) (p2 : Int32) (p3 : Int32) (o6 : Addr) (o7 : Addr) (u8 : Int32) (u9 : Int32) (u10 : Int64) {p : Program} {e : Env} {s : State} {m : MethodId} {below : List Frame} {meth : Method} {c : Code} {T0 : State} {locs : List Loc} {cells slots : Nat} {h : Heap} (X0 : Stand p l e room_1 s m #[(.long p0), (.int p1), (.int p2), (.int p3)] below meth c T0 locs cells slots) (H : p.tables.exec = Jvm.exec ∧ c.code = code) (hml : c.maxLocals = maxLocals) (hZ : Z.Warmed39 s.vm) (hown : s.vm.findClass x.cls = some m.cls) (hnm : meth.name = x.name) (hret : meth.sig.returnType = ret) (hlk : meth.locks = false) (N0 : Fr Z.heap.size locs) (hC : cells ≤ room_1.cells) (hS : slots ≤ room_1.slots) (e0 : T0.heap = h) (O : Ext Z.heap h) (qq0 : Exa Z h o7 cs3) (qq1 : Fld Z h o7 cs3 "size" "I" (.int 3)) (qq2 : Fld Z h o7 cs3 "firstNumber" "J" (.long u10)) :
    Go p e below (EndK s below (fun v h' L => v = some (.int 1) ∧ Fr Z.heap.size L) room_1.cells room_1.slots) (T0.setTop (mkF m 176 #[vJ p0, .second, vI p1, vI p2, vI p3, vI 3, vR o6, vR o7, vI u8, vI u9, vJ u10, .second, .unset, .unset, .unset, .unset] [])) := by
  have hw := B.1
  obtain ⟨S_wE0, V_wE0, S_high, S_cacheI, B_cacheI⟩ := B.2
  have M0 := Nat.le_refl h.size
  refine gIloadN X0 H at_176 rfl 177 rfl ?_
  refine gBipush X0 H at_177 (z := 8) rfl 179 rfl ?_
  refine g_iand X0 H at_179 (z := (p1 &&& (8 : Int32))) rfl 180 rfl ?_
  by_cases hc557 : (p1 &&& (8 : Int32)) = (0 : Int32)
  · refine gIfY X0 H at_180 ((if0 _ _).trans (teq hc557).1) (by decide) 189 rfl ?_
    refine gLload X0 H at_189 rfl 191 rfl ?_
    refine gIloadN X0 H at_191 rfl 192 rfl ?_
    refine gIconst X0 H at_192 (z := 4) rfl 193 rfl ?_
    refine g_iushr X0 H at_193 (z := ((p1.toUInt32 >>> ((4 : Int32) &&& 31).toUInt32).toInt32)) rfl 194 rfl ?_
    refine gBipush X0 H at_194 (z := 15) rfl 196 rfl ?_
    refine g_iand X0 H at_196 (z := (((p1.toUInt32 >>> ((4 : Int32) &&& 31).toUInt32).toInt32) &&& (15 : Int32))) rfl 197 rfl ?_
    refine gIconst X0 H at_197 (z := 4) rfl 198 rfl ?_
    refine g_isub X0 H at_198 (z := ((((p1.toUInt32 >>> ((4 : Int32) &&& 31).toUInt32).toInt32) &&& (15 : Int32)) - (4 : Int32))) rfl 199 rfl ?_
    refine g_i2l X0 H at_199 (z := (((((p1.toUInt32 >>> ((4 : Int32) &&& 31).toUInt32).toInt32) &&& (15 : Int32)) - (4 : Int32)).toInt64)) rfl 200 rfl ?_
    refine g_ladd X0 H at_200 (z := (u10 + (((((p1.toUInt32 >>> ((4 : Int32) &&& 31).toUInt32).toInt32) &&& (15 : Int32)) - (4 : Int32)).toInt64))) rfl 201 rfl ?_
    refine gLstore X0 H at_201 (Ls' := #[vJ p0, .second, vI p1, vI p2, vI p3, vI 3, vR o6, vR o7, vI u8, vI u9, vJ u10, .second, vJ (u10 + (((((p1.toUInt32 >>> ((4 : Int32) &&& 31).toUInt32).toInt32) &&& (15 : Int32)) - (4 : Int32)).toInt64)), .second, .unset, .unset]) rfl 203 rfl ?_
    exact tail558_203 B p0 p1 p2 p3 o6 o7 u8 u9 u10 ((u10 + (((((p1.toUInt32 >>> ((4 : Int32) &&& 31).toUInt32).toInt32) &&& (15 : Int32)) - (4 : Int32)).toInt64))) X0 H hml hZ hown hnm hret hlk N0 hC hS e0 O qq0 qq1 qq2
  · refine gIfN X0 H at_180 ((if0 _ _).trans (feq hc557).1) 183 rfl ?_
    refine gLloadN X0 H at_183 rfl 184 rfl ?_
    refine gLstore X0 H at_184 (Ls' := #[vJ p0, .second, vI p1, vI p2, vI p3, vI 3, vR o6, vR o7, vI u8, vI u9, vJ u10, .second, vJ p0, .second, .unset, .unset]) rfl 186 rfl ?_
    refine gGoto X0 H at_186 (by decide) 203 rfl ?_
    exact tail558_203 B p0 p1 p2 p3 o6 o7 u8 u9 u10 p0 X0 H hml hZ hown hnm hret hlk N0 hC hS e0 O qq0 qq1 qq2
theorem rm617_14 (B : Bg Z a0 wE0 w_cacheI k_wE0 cl_cacheI) (ro0 : Addr) (vj1 vj2 : Int64) (h : Heap) (O : Ext Z.heap h) (q612 : Fld Z h ro0 cs3 "firstNumber" "J" (.long vj2)) (q615 : Fld Z h ro0 cs3 "size" "I" (.int 2)) (hk614 : (vj1 - vj2) = (0 : Int64)) :
    Con l Z yM14 prog_50_method_7_code 5 (some .int) ({ frames := 0, cells := 0, slots := 0, locals := 0 } : Room) #[(.ref ro0), (.long vj1)] h (fun v h' L => v = some (.int 0) ∧ h' = h ∧ L = []) := by
  have hw := B.1
  refine Con.of (plainFor_of_name pn14) (Ls := #[vR ro0, vJ vj1, .second, .unset, .unset]) (fun _ => by first | (simp [entryFrame, mkF, argsToLocals, Value.category, maxLocals]; done) | rfl) ?_
  intro p e s m below meth c T0 X0 H hml hZ hown hnm hret hlk e0
  refine gLloadN X0 H d14_0 rfl 1 rfl ?_
  refine gAloadN X0 H d14_1 rfl rfl 2 rfl ?_
  refine gGetF X0 H hZ hown (hw _ wd105) Via.refl e0 q612 d14_2 5 rfl ?_
  intro T613 X613 e613
  refine g_lsub X613 H d14_5 (z := 0) hk614 6 rfl ?_
  refine gLstoreN X613 H d14_6 (Ls' := #[vR ro0, vJ vj1, .second, vJ 0, .second]) rfl 7 rfl ?_
  refine gLloadN X613 H d14_7 rfl 8 rfl ?_
  refine gLconst X613 H d14_8 (z := 0) rfl 9 rfl ?_
  refine g_lcmp X613 H d14_9 (z := (lcmpW (0 : Int64) (0 : Int64))) rfl 10 rfl ?_
  refine gIfN X613 H d14_10 (by decide) 13 rfl ?_
  refine gLloadN X613 H d14_13 rfl 14 rfl ?_
  refine gAloadN X613 H d14_14 rfl rfl 15 rfl ?_
  refine gGetF X613 H hZ hown (hw _ wd98) Via.refl e613 q615 d14_15 18 rfl ?_
  intro T616 X616 e616
  refine g_i2l X616 H d14_18 (z := 2) (by decide) 19 rfl ?_
  refine g_lcmp X616 H d14_19 (z := (lcmpW (0 : Int64) (2 : Int64))) rfl 20 rfl ?_
  refine gIfN X616 H d14_20 (by decide) 23 rfl ?_
  refine gLloadN X616 H d14_23 rfl 24 rfl ?_
  refine g_l2i X616 H d14_24 (z := 0) (by decide) 25 rfl ?_
  refine gGoto X616 H d14_25 (by decide) 29 rfl ?_
  exact gRetI X616 H hlk hret d14_29 e616 ⟨rfl, rfl, rfl⟩
theorem rm627_14 (B : Bg Z a0 wE0 w_cacheI k_wE0 cl_cacheI) (ro0 : Addr) (vj1 vj2 : Int64) (h : Heap) (O : Ext Z.heap h) (q622 : Fld Z h ro0 cs3 "firstNumber" "J" (.long vj2)) (q625 : Fld Z h ro0 cs3 "size" "I" (.int 2)) (hk624 : (vj1 - vj2) = (1 : Int64)) :
    Con l Z yM14 prog_50_method_7_code 5 (some .int) ({ frames := 0, cells := 0, slots := 0, locals := 0 } : Room) #[(.ref ro0), (.long vj1)] h (fun v h' L => v = some (.int 1) ∧ h' = h ∧ L = []) := by
  have hw := B.1
  refine Con.of (plainFor_of_name pn14) (Ls := #[vR ro0, vJ vj1, .second, .unset, .unset]) (fun _ => by first | (simp [entryFrame, mkF, argsToLocals, Value.category, maxLocals]; done) | rfl) ?_
  intro p e s m below meth c T0 X0 H hml hZ hown hnm hret hlk e0
  refine gLloadN X0 H d14_0 rfl 1 rfl ?_
  refine gAloadN X0 H d14_1 rfl rfl 2 rfl ?_
  refine gGetF X0 H hZ hown (hw _ wd105) Via.refl e0 q622 d14_2 5 rfl ?_
  intro T623 X623 e623
  refine g_lsub X623 H d14_5 (z := 1) hk624 6 rfl ?_
  refine gLstoreN X623 H d14_6 (Ls' := #[vR ro0, vJ vj1, .second, vJ 1, .second]) rfl 7 rfl ?_
  refine gLloadN X623 H d14_7 rfl 8 rfl ?_
  refine gLconst X623 H d14_8 (z := 0) rfl 9 rfl ?_
  refine g_lcmp X623 H d14_9 (z := (lcmpW (1 : Int64) (0 : Int64))) rfl 10 rfl ?_
  refine gIfN X623 H d14_10 (by decide) 13 rfl ?_
  refine gLloadN X623 H d14_13 rfl 14 rfl ?_
  refine gAloadN X623 H d14_14 rfl rfl 15 rfl ?_
  refine gGetF X623 H hZ hown (hw _ wd98) Via.refl e623 q625 d14_15 18 rfl ?_
  intro T626 X626 e626
  refine g_i2l X626 H d14_18 (z := 2) (by decide) 19 rfl ?_
  refine g_lcmp X626 H d14_19 (z := (lcmpW (1 : Int64) (2 : Int64))) rfl 20 rfl ?_
  refine gIfN X626 H d14_20 (by decide) 23 rfl ?_
  refine gLloadN X626 H d14_23 rfl 24 rfl ?_
  refine g_l2i X626 H d14_24 (z := 1) (by decide) 25 rfl ?_
  refine gGoto X626 H d14_25 (by decide) 29 rfl ?_
  exact gRetI X626 H hlk hret d14_29 e626 ⟨rfl, rfl, rfl⟩
theorem rm639_14 (B : Bg Z a0 wE0 w_cacheI k_wE0 cl_cacheI) (ro0 : Addr) (vj1 vj2 : Int64) (h : Heap) (O : Ext Z.heap h) (q633 : Fld Z h ro0 cs3 "firstNumber" "J" (.long vj2)) (q636 : Fld Z h ro0 cs3 "size" "I" (.int 2)) (hk635 : ¬ ((vj1 - vj2) < (0 : Int64))) (hk638 : ¬ ((vj1 - vj2) < (2 : Int64))) :
    Con l Z yM14 prog_50_method_7_code 5 (some .int) ({ frames := 0, cells := 0, slots := 0, locals := 0 } : Room) #[(.ref ro0), (.long vj1)] h (fun v h' L => v = some (.int (-1)) ∧ h' = h ∧ L = []) := by
  have hw := B.1
  refine Con.of (plainFor_of_name pn14) (Ls := #[vR ro0, vJ vj1, .second, .unset, .unset]) (fun _ => by first | (simp [entryFrame, mkF, argsToLocals, Value.category, maxLocals]; done) | rfl) ?_
  intro p e s m below meth c T0 X0 H hml hZ hown hnm hret hlk e0
  refine gLloadN X0 H d14_0 rfl 1 rfl ?_
  refine gAloadN X0 H d14_1 rfl rfl 2 rfl ?_
  refine gGetF X0 H hZ hown (hw _ wd105) Via.refl e0 q633 d14_2 5 rfl ?_
  intro T634 X634 e634
  refine g_lsub X634 H d14_5 (z := (vj1 - vj2)) rfl 6 rfl ?_
  refine gLstoreN X634 H d14_6 (Ls' := #[vR ro0, vJ vj1, .second, vJ (vj1 - vj2), .second]) rfl 7 rfl ?_
  refine gLloadN X634 H d14_7 rfl 8 rfl ?_
  refine gLconst X634 H d14_8 (z := 0) rfl 9 rfl ?_
  refine g_lcmp X634 H d14_9 (z := (lcmpW (vj1 - vj2) (0 : Int64))) rfl 10 rfl ?_
  refine gIfN X634 H d14_10 ((if0 _ _).trans (flt (fun q => hk635 ((lw_lt _ _).mp q))).1) 13 rfl ?_
  refine gLloadN X634 H d14_13 rfl 14 rfl ?_
  refine gAloadN X634 H d14_14 rfl rfl 15 rfl ?_
  refine gGetF X634 H hZ hown (hw _ wd98) Via.refl e634 q636 d14_15 18 rfl ?_
  intro T637 X637 e637
  refine g_i2l X637 H d14_18 (z := 2) (by decide) 19 rfl ?_
  refine g_lcmp X637 H d14_19 (z := (lcmpW (vj1 - vj2) (2 : Int64))) rfl 20 rfl ?_
  refine gIfY X637 H d14_20 ((if0 _ _).trans (flt (fun q => hk638 ((lw_lt _ _).mp q))).2.1) (by decide) 28 rfl ?_
  refine gIconst X637 H d14_28 (z := (-1)) rfl 29 rfl ?_
  exact gRetI X637 H hlk hret d14_29 e637 ⟨rfl, rfl, rfl⟩
theorem tail608_203 (B : Bg Z a0 wE0 w_cacheI k_wE0 cl_cacheI) (p0 : Int64) (p1 : Int32) (p2 : Int32) (p3 : Int32) (o6 : Addr) (o7 : Addr) (u8 : Int32) (u9 : Int32) (u10 : Int64) (u12 : Int64) {p : Program} {e : Env} {s : State} {m : MethodId} {below : List Frame} {meth : Method} {c : Code} {T0 : State} {locs : List Loc} {cells slots : Nat} {h : Heap} (X0 : Stand p l e room_1 s m #[(.long p0), (.int p1), (.int p2), (.int p3)] below meth c T0 locs cells slots) (H : p.tables.exec = Jvm.exec ∧ c.code = code) (hml : c.maxLocals = maxLocals) (hZ : Z.Warmed39 s.vm) (hown : s.vm.findClass x.cls = some m.cls) (hnm : meth.name = x.name) (hret : meth.sig.returnType = ret) (hlk : meth.locks = false) (N0 : Fr Z.heap.size locs) (hC : cells ≤ room_1.cells) (hS : slots ≤ room_1.slots) (e0 : T0.heap = h) (O : Ext Z.heap h) (qq0 : Exa Z h o7 cs3) (qq1 : Fld Z h o7 cs3 "size" "I" (.int 2)) (qq2 : Fld Z h o7 cs3 "firstNumber" "J" (.long u10)) :
    Go p e below (EndK s below (fun v h' L => v = some (.int 1) ∧ Fr Z.heap.size L) room_1.cells room_1.slots) (T0.setTop (mkF m 203 #[vJ p0, .second, vI p1, vI p2, vI p3, vI 2, vR o6, vR o7, vI u8, vI u9, vJ u10, .second, vJ u12, .second, .unset, .unset] [])) := by
  have hw := B.1
  obtain ⟨S_wE0, V_wE0, S_high, S_cacheI, B_cacheI⟩ := B.2
  have M0 := Nat.le_refl h.size
  refine gAload X0 H at_203 rfl rfl 205 rfl ?_
  refine gLload X0 H at_205 rfl 207 rfl ?_
  by_cases hc611 : (u12 - u10) = (0 : Int64)
  · refine gVirt X0 H hZ hown (hw _ wd100) (hw _ wd101) (hw _ wd103) (hw _ wd102) (by decide) qq0 (hw _ wd104) (hw _ wd66) (rm617_14 B o7 u12 u10 _ O qq2 qq1 hc611) e0 hml rfl pd12 rfl (W := 0) (argsL := [(.long u12)]) (rest := []) rfl rfl at_207 210 rfl ?_ (hc := hC) (hsl := hS)
    intro v618 T618 L618 hq618 X618
    obtain ⟨rfl, e618, rfl⟩ := hq618
    have N618 := Fr.app N0 (Fr.nil _)
    show Go _ _ _ _ (State.setTop _ (mkF _ 210 _ [(.int 0)]))
    refine gIstore X618 H at_210 (Ls' := #[vJ p0, .second, vI p1, vI p2, vI p3, vI 2, vR o6, vR o7, vI u8, vI u9, vJ u10, .second, vJ u12, .second, vI 0, .unset]) rfl 212 rfl ?_
    refine gIconst X618 H at_212 (z := (-1)) rfl 213 rfl ?_
    refine gIstore X618 H at_213 (Ls' := #[vJ p0, .second, vI p1, vI p2, vI p3, vI 2, vR o6, vR o7, vI u8, vI u9, vJ u10, .second, vJ u12, .second, vI 0, vI (-1)]) rfl 215 rfl ?_
    refine gIload X618 H at_215 rfl 217 rfl ?_
    refine gIfN X618 H at_217 (by decide) 220 rfl ?_
    refine gLload X618 H at_220 rfl 222 rfl ?_
    refine gLload X618 H at_222 rfl 224 rfl ?_
    refine g_lcmp X618 H at_224 (z := (lcmpW u12 u10)) rfl 225 rfl ?_
    refine gIfN X618 H at_225 ((if0 _ _).trans (teq ((lw_eq _ _).mpr (off_eq0 hc611))).2) 228 rfl ?_
    refine gIconst X618 H at_228 (z := 0) rfl 229 rfl ?_
    refine gIstore X618 H at_229 (Ls' := #[vJ p0, .second, vI p1, vI p2, vI p3, vI 2, vR o6, vR o7, vI u8, vI u9, vJ u10, .second, vJ u12, .second, vI 0, vI 0]) rfl 231 rfl ?_
    refine gGoto X618 H at_231 (by decide) 349 rfl ?_
    refine gIload X618 H at_349 rfl 351 rfl ?_
    refine gIload X618 H at_351 rfl 353 rfl ?_
    refine gCmpN X618 H at_353 (by decide) 356 rfl ?_
    refine gIconst X618 H at_356 (z := 1) rfl 357 rfl ?_
    refine gGoto X618 H at_357 (by decide) 361 rfl ?_
    exact gRetN X618 H hlk hret (t := .boolean) (by simp) at_361 e618 ⟨rfl, N618⟩ hC hS
  · by_cases hc621 : (u12 - u10) = (1 : Int64)
    · refine gVirt X0 H hZ hown (hw _ wd100) (hw _ wd101) (hw _ wd103) (hw _ wd102) (by decide) qq0 (hw _ wd104) (hw _ wd66) (rm627_14 B o7 u12 u10 _ O qq2 qq1 hc621) e0 hml rfl pd12 rfl (W := 0) (argsL := [(.long u12)]) (rest := []) rfl rfl at_207 210 rfl ?_ (hc := hC) (hsl := hS)
      intro v628 T628 L628 hq628 X628
      obtain ⟨rfl, e628, rfl⟩ := hq628
      have N628 := Fr.app N0 (Fr.nil _)
      show Go _ _ _ _ (State.setTop _ (mkF _ 210 _ [(.int 1)]))
      refine gIstore X628 H at_210 (Ls' := #[vJ p0, .second, vI p1, vI p2, vI p3, vI 2, vR o6, vR o7, vI u8, vI u9, vJ u10, .second, vJ u12, .second, vI 1, .unset]) rfl 212 rfl ?_
      refine gIconst X628 H at_212 (z := (-1)) rfl 213 rfl ?_
      refine gIstore X628 H at_213 (Ls' := #[vJ p0, .second, vI p1, vI p2, vI p3, vI 2, vR o6, vR o7, vI u8, vI u9, vJ u10, .second, vJ u12, .second, vI 1, vI (-1)]) rfl 215 rfl ?_
      refine gIload X628 H at_215 rfl 217 rfl ?_
      refine gIfN X628 H at_217 (by decide) 220 rfl ?_
      refine gLload X628 H at_220 rfl 222 rfl ?_
      refine gLload X628 H at_222 rfl 224 rfl ?_
      refine g_lcmp X628 H at_224 (z := (lcmpW u12 u10)) rfl 225 rfl ?_
      refine gIfY X628 H at_225 ((if0 _ _).trans (feq (fun q => (off_ne0 (off_two hc621 (by decide))) ((lw_eq _ _).mp q))).2) (by decide) 234 rfl ?_
      refine gIload X628 H at_234 rfl 236 rfl ?_
      refine gIconst X628 H at_236 (z := 1) rfl 237 rfl ?_
      refine gCmpN X628 H at_237 (by decide) 240 rfl ?_
      refine gLload X628 H at_240 rfl 242 rfl ?_
      refine gLload X628 H at_242 rfl 244 rfl ?_
      refine gLconst X628 H at_244 (z := 1) rfl 245 rfl ?_
      refine g_ladd X628 H at_245 (z := (u10 + (1 : Int64))) rfl 246 rfl ?_
      refine g_lcmp X628 H at_246 (z := (lcmpW u12 (u10 + (1 : Int64)))) rfl 247 rfl ?_
      refine gIfN X628 H at_247 ((if0 _ _).trans (teq ((lw_eq _ _).mpr (off_eq hc621))).2) 250 rfl ?_
      refine gIconst X628 H at_250 (z := 1) rfl 251 rfl ?_
      refine gIstore X628 H at_251 (Ls' := #[vJ p0, .second, vI p1, vI p2, vI p3, vI 2, vR o6, vR o7, vI u8, vI u9, vJ u10, .second, vJ u12, .second, vI 1, vI 1]) rfl 253 rfl ?_
      refine gGoto X628 H at_253 (by decide) 349 rfl ?_
      refine gIload X628 H at_349 rfl 351 rfl ?_
      refine gIload X628 H at_351 rfl 353 rfl ?_
      refine gCmpN X628 H at_353 (by decide) 356 rfl ?_
      refine gIconst X628 H at_356 (z := 1) rfl 357 rfl ?_
      refine gGoto X628 H at_357 (by decide) 361 rfl ?_
      exact gRetN X628 H hlk hret (t := .boolean) (by simp) at_361 e628 ⟨rfl, N628⟩ hC hS
    · by_cases hc631 : (u12 - u10) < (0 : Int64)
      · refine gVirt X0 H hZ hown (hw _ wd100) (hw _ wd101) (hw _ wd103) (hw _ wd102) (by decide) qq0 (hw _ wd104) (hw _ wd66) (rm595_14 B o7 u12 u10 _ O qq2 hc631) e0 hml rfl pd12 rfl (W := 0) (argsL := [(.long u12)]) (rest := []) rfl rfl at_207 210 rfl ?_ (hc := hC) (hsl := hS)
        intro v632 T632 L632 hq632 X632
        obtain ⟨rfl, e632, rfl⟩ := hq632
        have N632 := Fr.app N0 (Fr.nil _)
        show Go _ _ _ _ (State.setTop _ (mkF _ 210 _ [(.int (-1))]))
        refine gIstore X632 H at_210 (Ls' := #[vJ p0, .second, vI p1, vI p2, vI p3, vI 2, vR o6, vR o7, vI u8, vI u9, vJ u10, .second, vJ u12, .second, vI (-1), .unset]) rfl 212 rfl ?_
        refine gIconst X632 H at_212 (z := (-1)) rfl 213 rfl ?_
        refine gIstore X632 H at_213 (Ls' := #[vJ p0, .second, vI p1, vI p2, vI p3, vI 2, vR o6, vR o7, vI u8, vI u9, vJ u10, .second, vJ u12, .second, vI (-1), vI (-1)]) rfl 215 rfl ?_
        refine gIload X632 H at_215 rfl 217 rfl ?_
        refine gIfN X632 H at_217 (by decide) 220 rfl ?_
        refine gLload X632 H at_220 rfl 222 rfl ?_
        refine gLload X632 H at_222 rfl 224 rfl ?_
        refine g_lcmp X632 H at_224 (z := (lcmpW u12 u10)) rfl 225 rfl ?_
        refine gIfY X632 H at_225 ((if0 _ _).trans (feq (fun q => (off_ne0 hc611) ((lw_eq _ _).mp q))).2) (by decide) 234 rfl ?_
        refine gIload X632 H at_234 rfl 236 rfl ?_
        refine gIconst X632 H at_236 (z := 1) rfl 237 rfl ?_
        refine gCmpN X632 H at_237 (by decide) 240 rfl ?_
        refine gLload X632 H at_240 rfl 242 rfl ?_
        refine gLload X632 H at_242 rfl 244 rfl ?_
        refine gLconst X632 H at_244 (z := 1) rfl 245 rfl ?_
        refine g_ladd X632 H at_245 (z := (u10 + (1 : Int64))) rfl 246 rfl ?_
        refine g_lcmp X632 H at_246 (z := (lcmpW u12 (u10 + (1 : Int64)))) rfl 247 rfl ?_
        refine gIfY X632 H at_247 ((if0 _ _).trans (feq (fun q => (off_ne hc621) ((lw_eq _ _).mp q))).2) (by decide) 256 rfl ?_
        refine gIload X632 H at_256 rfl 258 rfl ?_
        refine gIconst X632 H at_258 (z := 2) rfl 259 rfl ?_
        refine gCmpY X632 H at_259 (by decide) (by decide) 280 rfl ?_
        refine gIload X632 H at_280 rfl 282 rfl ?_
        refine gIconst X632 H at_282 (z := 3) rfl 283 rfl ?_
        refine gCmpY X632 H at_283 (by decide) (by decide) 304 rfl ?_
        refine gIload X632 H at_304 rfl 306 rfl ?_
        refine gIconst X632 H at_306 (z := 4) rfl 307 rfl ?_
        refine gCmpY X632 H at_307 (by decide) (by decide) 328 rfl ?_
        refine gIload X632 H at_328 rfl 330 rfl ?_
        refine gIconst X632 H at_330 (z := 5) rfl 331 rfl ?_
        refine gCmpY X632 H at_331 (by decide) (by decide) 349 rfl ?_
        refine gIload X632 H at_349 rfl 351 rfl ?_
        refine gIload X632 H at_351 rfl 353 rfl ?_
        refine gCmpN X632 H at_353 (by decide) 356 rfl ?_
        refine gIconst X632 H at_356 (z := 1) rfl 357 rfl ?_
        refine gGoto X632 H at_357 (by decide) 361 rfl ?_
        exact gRetN X632 H hlk hret (t := .boolean) (by simp) at_361 e632 ⟨rfl, N632⟩ hC hS
      · refine gVirt X0 H hZ hown (hw _ wd100) (hw _ wd101) (hw _ wd103) (hw _ wd102) (by decide) qq0 (hw _ wd104) (hw _ wd66) (rm639_14 B o7 u12 u10 _ O qq2 qq1 hc631 (off_no (k := 2) hc631 (by decide) (of2 (fun q => hc611 (Int64.toInt_inj.mp (q.trans (by decide)))) (fun q => hc621 (Int64.toInt_inj.mp (q.trans (by decide))))))) e0 hml rfl pd12 rfl (W := 0) (argsL := [(.long u12)]) (rest := []) rfl rfl at_207 210 rfl ?_ (hc := hC) (hsl := hS)
        intro v640 T640 L640 hq640 X640
        obtain ⟨rfl, e640, rfl⟩ := hq640
        have N640 := Fr.app N0 (Fr.nil _)
        show Go _ _ _ _ (State.setTop _ (mkF _ 210 _ [(.int (-1))]))
        refine gIstore X640 H at_210 (Ls' := #[vJ p0, .second, vI p1, vI p2, vI p3, vI 2, vR o6, vR o7, vI u8, vI u9, vJ u10, .second, vJ u12, .second, vI (-1), .unset]) rfl 212 rfl ?_
        refine gIconst X640 H at_212 (z := (-1)) rfl 213 rfl ?_
        refine gIstore X640 H at_213 (Ls' := #[vJ p0, .second, vI p1, vI p2, vI p3, vI 2, vR o6, vR o7, vI u8, vI u9, vJ u10, .second, vJ u12, .second, vI (-1), vI (-1)]) rfl 215 rfl ?_
        refine gIload X640 H at_215 rfl 217 rfl ?_
        refine gIfN X640 H at_217 (by decide) 220 rfl ?_
        refine gLload X640 H at_220 rfl 222 rfl ?_
        refine gLload X640 H at_222 rfl 224 rfl ?_
        refine g_lcmp X640 H at_224 (z := (lcmpW u12 u10)) rfl 225 rfl ?_
        refine gIfY X640 H at_225 ((if0 _ _).trans (feq (fun q => (off_ne0 hc611) ((lw_eq _ _).mp q))).2) (by decide) 234 rfl ?_
        refine gIload X640 H at_234 rfl 236 rfl ?_
        refine gIconst X640 H at_236 (z := 1) rfl 237 rfl ?_
        refine gCmpN X640 H at_237 (by decide) 240 rfl ?_
        refine gLload X640 H at_240 rfl 242 rfl ?_
        refine gLload X640 H at_242 rfl 244 rfl ?_
        refine gLconst X640 H at_244 (z := 1) rfl 245 rfl ?_
        refine g_ladd X640 H at_245 (z := (u10 + (1 : Int64))) rfl 246 rfl ?_
        refine g_lcmp X640 H at_246 (z := (lcmpW u12 (u10 + (1 : Int64)))) rfl 247 rfl ?_
        refine gIfY X640 H at_247 ((if0 _ _).trans (feq (fun q => (off_ne hc621) ((lw_eq _ _).mp q))).2) (by decide) 256 rfl ?_
        refine gIload X640 H at_256 rfl 258 rfl ?_
        refine gIconst X640 H at_258 (z := 2) rfl 259 rfl ?_
        refine gCmpY X640 H at_259 (by decide) (by decide) 280 rfl ?_
        refine gIload X640 H at_280 rfl 282 rfl ?_
        refine gIconst X640 H at_282 (z := 3) rfl 283 rfl ?_
        refine gCmpY X640 H at_283 (by decide) (by decide) 304 rfl ?_
        refine gIload X640 H at_304 rfl 306 rfl ?_
        refine gIconst X640 H at_306 (z := 4) rfl 307 rfl ?_
        refine gCmpY X640 H at_307 (by decide) (by decide) 328 rfl ?_
        refine gIload X640 H at_328 rfl 330 rfl ?_
        refine gIconst X640 H at_330 (z := 5) rfl 331 rfl ?_
        refine gCmpY X640 H at_331 (by decide) (by decide) 349 rfl ?_
        refine gIload X640 H at_349 rfl 351 rfl ?_
        refine gIload X640 H at_351 rfl 353 rfl ?_
        refine gCmpN X640 H at_353 (by decide) 356 rfl ?_
        refine gIconst X640 H at_356 (z := 1) rfl 357 rfl ?_
        refine gGoto X640 H at_357 (by decide) 361 rfl ?_
        exact gRetN X640 H hlk hret (t := .boolean) (by simp) at_361 e640 ⟨rfl, N640⟩ hC hS
theorem tail606_176 (B : Bg Z a0 wE0 w_cacheI k_wE0 cl_cacheI) (p0 : Int64) (p1 : Int32) (p2 : Int32) (p3 : Int32) (o6 : Addr) (o7 : Addr) (u8 : Int32) (u9 : Int32) (u10 : Int64) {p : Program} {e : Env} {s : State} {m : MethodId} {below : List Frame} {meth : Method} {c : Code} {T0 : State} {locs : List Loc} {cells slots : Nat} {h : Heap} (X0 : Stand p l e room_1 s m #[(.long p0), (.int p1), (.int p2), (.int p3)] below meth c T0 locs cells slots) (H : p.tables.exec = Jvm.exec ∧ c.code = code) (hml : c.maxLocals = maxLocals) (hZ : Z.Warmed39 s.vm) (hown : s.vm.findClass x.cls = some m.cls) (hnm : meth.name = x.name) (hret : meth.sig.returnType = ret) (hlk : meth.locks = false) (N0 : Fr Z.heap.size locs) (hC : cells ≤ room_1.cells) (hS : slots ≤ room_1.slots) (e0 : T0.heap = h) (O : Ext Z.heap h) (qq0 : Exa Z h o7 cs3) (qq1 : Fld Z h o7 cs3 "size" "I" (.int 2)) (qq2 : Fld Z h o7 cs3 "firstNumber" "J" (.long u10)) :
    Go p e below (EndK s below (fun v h' L => v = some (.int 1) ∧ Fr Z.heap.size L) room_1.cells room_1.slots) (T0.setTop (mkF m 176 #[vJ p0, .second, vI p1, vI p2, vI p3, vI 2, vR o6, vR o7, vI u8, vI u9, vJ u10, .second, .unset, .unset, .unset, .unset] [])) := by
  have hw := B.1
  obtain ⟨S_wE0, V_wE0, S_high, S_cacheI, B_cacheI⟩ := B.2
  have M0 := Nat.le_refl h.size
  refine gIloadN X0 H at_176 rfl 177 rfl ?_
  refine gBipush X0 H at_177 (z := 8) rfl 179 rfl ?_
  refine g_iand X0 H at_179 (z := (p1 &&& (8 : Int32))) rfl 180 rfl ?_
  by_cases hc607 : (p1 &&& (8 : Int32)) = (0 : Int32)
  · refine gIfY X0 H at_180 ((if0 _ _).trans (teq hc607).1) (by decide) 189 rfl ?_
    refine gLload X0 H at_189 rfl 191 rfl ?_
    refine gIloadN X0 H at_191 rfl 192 rfl ?_
    refine gIconst X0 H at_192 (z := 4) rfl 193 rfl ?_
    refine g_iushr X0 H at_193 (z := ((p1.toUInt32 >>> ((4 : Int32) &&& 31).toUInt32).toInt32)) rfl 194 rfl ?_
    refine gBipush X0 H at_194 (z := 15) rfl 196 rfl ?_
    refine g_iand X0 H at_196 (z := (((p1.toUInt32 >>> ((4 : Int32) &&& 31).toUInt32).toInt32) &&& (15 : Int32))) rfl 197 rfl ?_
    refine gIconst X0 H at_197 (z := 4) rfl 198 rfl ?_
    refine g_isub X0 H at_198 (z := ((((p1.toUInt32 >>> ((4 : Int32) &&& 31).toUInt32).toInt32) &&& (15 : Int32)) - (4 : Int32))) rfl 199 rfl ?_
    refine g_i2l X0 H at_199 (z := (((((p1.toUInt32 >>> ((4 : Int32) &&& 31).toUInt32).toInt32) &&& (15 : Int32)) - (4 : Int32)).toInt64)) rfl 200 rfl ?_
    refine g_ladd X0 H at_200 (z := (u10 + (((((p1.toUInt32 >>> ((4 : Int32) &&& 31).toUInt32).toInt32) &&& (15 : Int32)) - (4 : Int32)).toInt64))) rfl 201 rfl ?_
    refine gLstore X0 H at_201 (Ls' := #[vJ p0, .second, vI p1, vI p2, vI p3, vI 2, vR o6, vR o7, vI u8, vI u9, vJ u10, .second, vJ (u10 + (((((p1.toUInt32 >>> ((4 : Int32) &&& 31).toUInt32).toInt32) &&& (15 : Int32)) - (4 : Int32)).toInt64)), .second, .unset, .unset]) rfl 203 rfl ?_
    exact tail608_203 B p0 p1 p2 p3 o6 o7 u8 u9 u10 ((u10 + (((((p1.toUInt32 >>> ((4 : Int32) &&& 31).toUInt32).toInt32) &&& (15 : Int32)) - (4 : Int32)).toInt64))) X0 H hml hZ hown hnm hret hlk N0 hC hS e0 O qq0 qq1 qq2
  · refine gIfN X0 H at_180 ((if0 _ _).trans (feq hc607).1) 183 rfl ?_
    refine gLloadN X0 H at_183 rfl 184 rfl ?_
    refine gLstore X0 H at_184 (Ls' := #[vJ p0, .second, vI p1, vI p2, vI p3, vI 2, vR o6, vR o7, vI u8, vI u9, vJ u10, .second, vJ p0, .second, .unset, .unset]) rfl 186 rfl ?_
    refine gGoto X0 H at_186 (by decide) 203 rfl ?_
    exact tail608_203 B p0 p1 p2 p3 o6 o7 u8 u9 u10 p0 X0 H hml hZ hown hnm hret hlk N0 hC hS e0 O qq0 qq1 qq2
theorem rm653_14 (B : Bg Z a0 wE0 w_cacheI k_wE0 cl_cacheI) (ro0 : Addr) (vj1 vj2 : Int64) (h : Heap) (O : Ext Z.heap h) (q648 : Fld Z h ro0 cs3 "firstNumber" "J" (.long vj2)) (q651 : Fld Z h ro0 cs3 "size" "I" (.int 1)) (hk650 : (vj1 - vj2) = (0 : Int64)) :
    Con l Z yM14 prog_50_method_7_code 5 (some .int) ({ frames := 0, cells := 0, slots := 0, locals := 0 } : Room) #[(.ref ro0), (.long vj1)] h (fun v h' L => v = some (.int 0) ∧ h' = h ∧ L = []) := by
  have hw := B.1
  refine Con.of (plainFor_of_name pn14) (Ls := #[vR ro0, vJ vj1, .second, .unset, .unset]) (fun _ => by first | (simp [entryFrame, mkF, argsToLocals, Value.category, maxLocals]; done) | rfl) ?_
  intro p e s m below meth c T0 X0 H hml hZ hown hnm hret hlk e0
  refine gLloadN X0 H d14_0 rfl 1 rfl ?_
  refine gAloadN X0 H d14_1 rfl rfl 2 rfl ?_
  refine gGetF X0 H hZ hown (hw _ wd105) Via.refl e0 q648 d14_2 5 rfl ?_
  intro T649 X649 e649
  refine g_lsub X649 H d14_5 (z := 0) hk650 6 rfl ?_
  refine gLstoreN X649 H d14_6 (Ls' := #[vR ro0, vJ vj1, .second, vJ 0, .second]) rfl 7 rfl ?_
  refine gLloadN X649 H d14_7 rfl 8 rfl ?_
  refine gLconst X649 H d14_8 (z := 0) rfl 9 rfl ?_
  refine g_lcmp X649 H d14_9 (z := (lcmpW (0 : Int64) (0 : Int64))) rfl 10 rfl ?_
  refine gIfN X649 H d14_10 (by decide) 13 rfl ?_
  refine gLloadN X649 H d14_13 rfl 14 rfl ?_
  refine gAloadN X649 H d14_14 rfl rfl 15 rfl ?_
  refine gGetF X649 H hZ hown (hw _ wd98) Via.refl e649 q651 d14_15 18 rfl ?_
  intro T652 X652 e652
  refine g_i2l X652 H d14_18 (z := 1) (by decide) 19 rfl ?_
  refine g_lcmp X652 H d14_19 (z := (lcmpW (0 : Int64) (1 : Int64))) rfl 20 rfl ?_
  refine gIfN X652 H d14_20 (by decide) 23 rfl ?_
  refine gLloadN X652 H d14_23 rfl 24 rfl ?_
  refine g_l2i X652 H d14_24 (z := 0) (by decide) 25 rfl ?_
  refine gGoto X652 H d14_25 (by decide) 29 rfl ?_
  exact gRetI X652 H hlk hret d14_29 e652 ⟨rfl, rfl, rfl⟩
theorem rm665_14 (B : Bg Z a0 wE0 w_cacheI k_wE0 cl_cacheI) (ro0 : Addr) (vj1 vj2 : Int64) (h : Heap) (O : Ext Z.heap h) (q659 : Fld Z h ro0 cs3 "firstNumber" "J" (.long vj2)) (q662 : Fld Z h ro0 cs3 "size" "I" (.int 1)) (hk661 : ¬ ((vj1 - vj2) < (0 : Int64))) (hk664 : ¬ ((vj1 - vj2) < (1 : Int64))) :
    Con l Z yM14 prog_50_method_7_code 5 (some .int) ({ frames := 0, cells := 0, slots := 0, locals := 0 } : Room) #[(.ref ro0), (.long vj1)] h (fun v h' L => v = some (.int (-1)) ∧ h' = h ∧ L = []) := by
  have hw := B.1
  refine Con.of (plainFor_of_name pn14) (Ls := #[vR ro0, vJ vj1, .second, .unset, .unset]) (fun _ => by first | (simp [entryFrame, mkF, argsToLocals, Value.category, maxLocals]; done) | rfl) ?_
  intro p e s m below meth c T0 X0 H hml hZ hown hnm hret hlk e0
  refine gLloadN X0 H d14_0 rfl 1 rfl ?_
  refine gAloadN X0 H d14_1 rfl rfl 2 rfl ?_
  refine gGetF X0 H hZ hown (hw _ wd105) Via.refl e0 q659 d14_2 5 rfl ?_
  intro T660 X660 e660
  refine g_lsub X660 H d14_5 (z := (vj1 - vj2)) rfl 6 rfl ?_
  refine gLstoreN X660 H d14_6 (Ls' := #[vR ro0, vJ vj1, .second, vJ (vj1 - vj2), .second]) rfl 7 rfl ?_
  refine gLloadN X660 H d14_7 rfl 8 rfl ?_
  refine gLconst X660 H d14_8 (z := 0) rfl 9 rfl ?_
  refine g_lcmp X660 H d14_9 (z := (lcmpW (vj1 - vj2) (0 : Int64))) rfl 10 rfl ?_
  refine gIfN X660 H d14_10 ((if0 _ _).trans (flt (fun q => hk661 ((lw_lt _ _).mp q))).1) 13 rfl ?_
  refine gLloadN X660 H d14_13 rfl 14 rfl ?_
  refine gAloadN X660 H d14_14 rfl rfl 15 rfl ?_
  refine gGetF X660 H hZ hown (hw _ wd98) Via.refl e660 q662 d14_15 18 rfl ?_
  intro T663 X663 e663
  refine g_i2l X663 H d14_18 (z := 1) (by decide) 19 rfl ?_
  refine g_lcmp X663 H d14_19 (z := (lcmpW (vj1 - vj2) (1 : Int64))) rfl 20 rfl ?_
  refine gIfY X663 H d14_20 ((if0 _ _).trans (flt (fun q => hk664 ((lw_lt _ _).mp q))).2.1) (by decide) 28 rfl ?_
  refine gIconst X663 H d14_28 (z := (-1)) rfl 29 rfl ?_
  exact gRetI X663 H hlk hret d14_29 e663 ⟨rfl, rfl, rfl⟩
theorem tail644_203 (B : Bg Z a0 wE0 w_cacheI k_wE0 cl_cacheI) (p0 : Int64) (p1 : Int32) (p2 : Int32) (p3 : Int32) (o6 : Addr) (o7 : Addr) (u8 : Int32) (u9 : Int32) (u10 : Int64) (u12 : Int64) {p : Program} {e : Env} {s : State} {m : MethodId} {below : List Frame} {meth : Method} {c : Code} {T0 : State} {locs : List Loc} {cells slots : Nat} {h : Heap} (X0 : Stand p l e room_1 s m #[(.long p0), (.int p1), (.int p2), (.int p3)] below meth c T0 locs cells slots) (H : p.tables.exec = Jvm.exec ∧ c.code = code) (hml : c.maxLocals = maxLocals) (hZ : Z.Warmed39 s.vm) (hown : s.vm.findClass x.cls = some m.cls) (hnm : meth.name = x.name) (hret : meth.sig.returnType = ret) (hlk : meth.locks = false) (N0 : Fr Z.heap.size locs) (hC : cells ≤ room_1.cells) (hS : slots ≤ room_1.slots) (e0 : T0.heap = h) (O : Ext Z.heap h) (qq0 : Exa Z h o7 cs3) (qq1 : Fld Z h o7 cs3 "size" "I" (.int 1)) (qq2 : Fld Z h o7 cs3 "firstNumber" "J" (.long u10)) :
    Go p e below (EndK s below (fun v h' L => v = some (.int 1) ∧ Fr Z.heap.size L) room_1.cells room_1.slots) (T0.setTop (mkF m 203 #[vJ p0, .second, vI p1, vI p2, vI p3, vI 1, vR o6, vR o7, vI u8, vI u9, vJ u10, .second, vJ u12, .second, .unset, .unset] [])) := by
  have hw := B.1
  obtain ⟨S_wE0, V_wE0, S_high, S_cacheI, B_cacheI⟩ := B.2
  have M0 := Nat.le_refl h.size
  refine gAload X0 H at_203 rfl rfl 205 rfl ?_
  refine gLload X0 H at_205 rfl 207 rfl ?_
  by_cases hc647 : (u12 - u10) = (0 : Int64)
  · refine gVirt X0 H hZ hown (hw _ wd100) (hw _ wd101) (hw _ wd103) (hw _ wd102) (by decide) qq0 (hw _ wd104) (hw _ wd66) (rm653_14 B o7 u12 u10 _ O qq2 qq1 hc647) e0 hml rfl pd12 rfl (W := 0) (argsL := [(.long u12)]) (rest := []) rfl rfl at_207 210 rfl ?_ (hc := hC) (hsl := hS)
    intro v654 T654 L654 hq654 X654
    obtain ⟨rfl, e654, rfl⟩ := hq654
    have N654 := Fr.app N0 (Fr.nil _)
    show Go _ _ _ _ (State.setTop _ (mkF _ 210 _ [(.int 0)]))
    refine gIstore X654 H at_210 (Ls' := #[vJ p0, .second, vI p1, vI p2, vI p3, vI 1, vR o6, vR o7, vI u8, vI u9, vJ u10, .second, vJ u12, .second, vI 0, .unset]) rfl 212 rfl ?_
    refine gIconst X654 H at_212 (z := (-1)) rfl 213 rfl ?_
    refine gIstore X654 H at_213 (Ls' := #[vJ p0, .second, vI p1, vI p2, vI p3, vI 1, vR o6, vR o7, vI u8, vI u9, vJ u10, .second, vJ u12, .second, vI 0, vI (-1)]) rfl 215 rfl ?_
    refine gIload X654 H at_215 rfl 217 rfl ?_
    refine gIfN X654 H at_217 (by decide) 220 rfl ?_
    refine gLload X654 H at_220 rfl 222 rfl ?_
    refine gLload X654 H at_222 rfl 224 rfl ?_
    refine g_lcmp X654 H at_224 (z := (lcmpW u12 u10)) rfl 225 rfl ?_
    refine gIfN X654 H at_225 ((if0 _ _).trans (teq ((lw_eq _ _).mpr (off_eq0 hc647))).2) 228 rfl ?_
    refine gIconst X654 H at_228 (z := 0) rfl 229 rfl ?_
    refine gIstore X654 H at_229 (Ls' := #[vJ p0, .second, vI p1, vI p2, vI p3, vI 1, vR o6, vR o7, vI u8, vI u9, vJ u10, .second, vJ u12, .second, vI 0, vI 0]) rfl 231 rfl ?_
    refine gGoto X654 H at_231 (by decide) 349 rfl ?_
    refine gIload X654 H at_349 rfl 351 rfl ?_
    refine gIload X654 H at_351 rfl 353 rfl ?_
    refine gCmpN X654 H at_353 (by decide) 356 rfl ?_
    refine gIconst X654 H at_356 (z := 1) rfl 357 rfl ?_
    refine gGoto X654 H at_357 (by decide) 361 rfl ?_
    exact gRetN X654 H hlk hret (t := .boolean) (by simp) at_361 e654 ⟨rfl, N654⟩ hC hS
  · by_cases hc657 : (u12 - u10) < (0 : Int64)
    · refine gVirt X0 H hZ hown (hw _ wd100) (hw _ wd101) (hw _ wd103) (hw _ wd102) (by decide) qq0 (hw _ wd104) (hw _ wd66) (rm595_14 B o7 u12 u10 _ O qq2 hc657) e0 hml rfl pd12 rfl (W := 0) (argsL := [(.long u12)]) (rest := []) rfl rfl at_207 210 rfl ?_ (hc := hC) (hsl := hS)
      intro v658 T658 L658 hq658 X658
      obtain ⟨rfl, e658, rfl⟩ := hq658
      have N658 := Fr.app N0 (Fr.nil _)
      show Go _ _ _ _ (State.setTop _ (mkF _ 210 _ [(.int (-1))]))
      refine gIstore X658 H at_210 (Ls' := #[vJ p0, .second, vI p1, vI p2, vI p3, vI 1, vR o6, vR o7, vI u8, vI u9, vJ u10, .second, vJ u12, .second, vI (-1), .unset]) rfl 212 rfl ?_
      refine gIconst X658 H at_212 (z := (-1)) rfl 213 rfl ?_
      refine gIstore X658 H at_213 (Ls' := #[vJ p0, .second, vI p1, vI p2, vI p3, vI 1, vR o6, vR o7, vI u8, vI u9, vJ u10, .second, vJ u12, .second, vI (-1), vI (-1)]) rfl 215 rfl ?_
      refine gIload X658 H at_215 rfl 217 rfl ?_
      refine gIfN X658 H at_217 (by decide) 220 rfl ?_
      refine gLload X658 H at_220 rfl 222 rfl ?_
      refine gLload X658 H at_222 rfl 224 rfl ?_
      refine g_lcmp X658 H at_224 (z := (lcmpW u12 u10)) rfl 225 rfl ?_
      refine gIfY X658 H at_225 ((if0 _ _).trans (feq (fun q => (off_ne0 hc647) ((lw_eq _ _).mp q))).2) (by decide) 234 rfl ?_
      refine gIload X658 H at_234 rfl 236 rfl ?_
      refine gIconst X658 H at_236 (z := 1) rfl 237 rfl ?_
      refine gCmpY X658 H at_237 (by decide) (by decide) 256 rfl ?_
      refine gIload X658 H at_256 rfl 258 rfl ?_
      refine gIconst X658 H at_258 (z := 2) rfl 259 rfl ?_
      refine gCmpY X658 H at_259 (by decide) (by decide) 280 rfl ?_
      refine gIload X658 H at_280 rfl 282 rfl ?_
      refine gIconst X658 H at_282 (z := 3) rfl 283 rfl ?_
      refine gCmpY X658 H at_283 (by decide) (by decide) 304 rfl ?_
      refine gIload X658 H at_304 rfl 306 rfl ?_
      refine gIconst X658 H at_306 (z := 4) rfl 307 rfl ?_
      refine gCmpY X658 H at_307 (by decide) (by decide) 328 rfl ?_
      refine gIload X658 H at_328 rfl 330 rfl ?_
      refine gIconst X658 H at_330 (z := 5) rfl 331 rfl ?_
      refine gCmpY X658 H at_331 (by decide) (by decide) 349 rfl ?_
      refine gIload X658 H at_349 rfl 351 rfl ?_
      refine gIload X658 H at_351 rfl 353 rfl ?_
      refine gCmpN X658 H at_353 (by decide) 356 rfl ?_
      refine gIconst X658 H at_356 (z := 1) rfl 357 rfl ?_
      refine gGoto X658 H at_357 (by decide) 361 rfl ?_
      exact gRetN X658 H hlk hret (t := .boolean) (by simp) at_361 e658 ⟨rfl, N658⟩ hC hS
    · refine gVirt X0 H hZ hown (hw _ wd100) (hw _ wd101) (hw _ wd103) (hw _ wd102) (by decide) qq0 (hw _ wd104) (hw _ wd66) (rm665_14 B o7 u12 u10 _ O qq2 qq1 hc657 (off_no (k := 1) hc657 (by decide) (of1 (fun q => hc647 (Int64.toInt_inj.mp (q.trans (by decide))))))) e0 hml rfl pd12 rfl (W := 0) (argsL := [(.long u12)]) (rest := []) rfl rfl at_207 210 rfl ?_ (hc := hC) (hsl := hS)
      intro v666 T666 L666 hq666 X666
      obtain ⟨rfl, e666, rfl⟩ := hq666
      have N666 := Fr.app N0 (Fr.nil _)
      show Go _ _ _ _ (State.setTop _ (mkF _ 210 _ [(.int (-1))]))
      refine gIstore X666 H at_210 (Ls' := #[vJ p0, .second, vI p1, vI p2, vI p3, vI 1, vR o6, vR o7, vI u8, vI u9, vJ u10, .second, vJ u12, .second, vI (-1), .unset]) rfl 212 rfl ?_
      refine gIconst X666 H at_212 (z := (-1)) rfl 213 rfl ?_
      refine gIstore X666 H at_213 (Ls' := #[vJ p0, .second, vI p1, vI p2, vI p3, vI 1, vR o6, vR o7, vI u8, vI u9, vJ u10, .second, vJ u12, .second, vI (-1), vI (-1)]) rfl 215 rfl ?_
      refine gIload X666 H at_215 rfl 217 rfl ?_
      refine gIfN X666 H at_217 (by decide) 220 rfl ?_
      refine gLload X666 H at_220 rfl 222 rfl ?_
      refine gLload X666 H at_222 rfl 224 rfl ?_
      refine g_lcmp X666 H at_224 (z := (lcmpW u12 u10)) rfl 225 rfl ?_
      refine gIfY X666 H at_225 ((if0 _ _).trans (feq (fun q => (off_ne0 hc647) ((lw_eq _ _).mp q))).2) (by decide) 234 rfl ?_
      refine gIload X666 H at_234 rfl 236 rfl ?_
      refine gIconst X666 H at_236 (z := 1) rfl 237 rfl ?_
      refine gCmpY X666 H at_237 (by decide) (by decide) 256 rfl ?_
      refine gIload X666 H at_256 rfl 258 rfl ?_
      refine gIconst X666 H at_258 (z := 2) rfl 259 rfl ?_
      refine gCmpY X666 H at_259 (by decide) (by decide) 280 rfl ?_
      refine gIload X666 H at_280 rfl 282 rfl ?_
      refine gIconst X666 H at_282 (z := 3) rfl 283 rfl ?_
      refine gCmpY X666 H at_283 (by decide) (by decide) 304 rfl ?_
      refine gIload X666 H at_304 rfl 306 rfl ?_
      refine gIconst X666 H at_306 (z := 4) rfl 307 rfl ?_
      refine gCmpY X666 H at_307 (by decide) (by decide) 328 rfl ?_
      refine gIload X666 H at_328 rfl 330 rfl ?_
      refine gIconst X666 H at_330 (z := 5) rfl 331 rfl ?_
      refine gCmpY X666 H at_331 (by decide) (by decide) 349 rfl ?_
      refine gIload X666 H at_349 rfl 351 rfl ?_
      refine gIload X666 H at_351 rfl 353 rfl ?_
      refine gCmpN X666 H at_353 (by decide) 356 rfl ?_
      refine gIconst X666 H at_356 (z := 1) rfl 357 rfl ?_
      refine gGoto X666 H at_357 (by decide) 361 rfl ?_
      exact gRetN X666 H hlk hret (t := .boolean) (by simp) at_361 e666 ⟨rfl, N666⟩ hC hS
theorem tail642_176 (B : Bg Z a0 wE0 w_cacheI k_wE0 cl_cacheI) (p0 : Int64) (p1 : Int32) (p2 : Int32) (p3 : Int32) (o6 : Addr) (o7 : Addr) (u8 : Int32) (u9 : Int32) (u10 : Int64) {p : Program} {e : Env} {s : State} {m : MethodId} {below : List Frame} {meth : Method} {c : Code} {T0 : State} {locs : List Loc} {cells slots : Nat} {h : Heap} (X0 : Stand p l e room_1 s m #[(.long p0), (.int p1), (.int p2), (.int p3)] below meth c T0 locs cells slots) (H : p.tables.exec = Jvm.exec ∧ c.code = code) (hml : c.maxLocals = maxLocals) (hZ : Z.Warmed39 s.vm) (hown : s.vm.findClass x.cls = some m.cls) (hnm : meth.name = x.name) (hret : meth.sig.returnType = ret) (hlk : meth.locks = false) (N0 : Fr Z.heap.size locs) (hC : cells ≤ room_1.cells) (hS : slots ≤ room_1.slots) (e0 : T0.heap = h) (O : Ext Z.heap h) (qq0 : Exa Z h o7 cs3) (qq1 : Fld Z h o7 cs3 "size" "I" (.int 1)) (qq2 : Fld Z h o7 cs3 "firstNumber" "J" (.long u10)) :
    Go p e below (EndK s below (fun v h' L => v = some (.int 1) ∧ Fr Z.heap.size L) room_1.cells room_1.slots) (T0.setTop (mkF m 176 #[vJ p0, .second, vI p1, vI p2, vI p3, vI 1, vR o6, vR o7, vI u8, vI u9, vJ u10, .second, .unset, .unset, .unset, .unset] [])) := by
  have hw := B.1
  obtain ⟨S_wE0, V_wE0, S_high, S_cacheI, B_cacheI⟩ := B.2
  have M0 := Nat.le_refl h.size
  refine gIloadN X0 H at_176 rfl 177 rfl ?_
  refine gBipush X0 H at_177 (z := 8) rfl 179 rfl ?_
  refine g_iand X0 H at_179 (z := (p1 &&& (8 : Int32))) rfl 180 rfl ?_
  by_cases hc643 : (p1 &&& (8 : Int32)) = (0 : Int32)
  · refine gIfY X0 H at_180 ((if0 _ _).trans (teq hc643).1) (by decide) 189 rfl ?_
    refine gLload X0 H at_189 rfl 191 rfl ?_
    refine gIloadN X0 H at_191 rfl 192 rfl ?_
    refine gIconst X0 H at_192 (z := 4) rfl 193 rfl ?_
    refine g_iushr X0 H at_193 (z := ((p1.toUInt32 >>> ((4 : Int32) &&& 31).toUInt32).toInt32)) rfl 194 rfl ?_
    refine gBipush X0 H at_194 (z := 15) rfl 196 rfl ?_
    refine g_iand X0 H at_196 (z := (((p1.toUInt32 >>> ((4 : Int32) &&& 31).toUInt32).toInt32) &&& (15 : Int32))) rfl 197 rfl ?_
    refine gIconst X0 H at_197 (z := 4) rfl 198 rfl ?_
    refine g_isub X0 H at_198 (z := ((((p1.toUInt32 >>> ((4 : Int32) &&& 31).toUInt32).toInt32) &&& (15 : Int32)) - (4 : Int32))) rfl 199 rfl ?_
    refine g_i2l X0 H at_199 (z := (((((p1.toUInt32 >>> ((4 : Int32) &&& 31).toUInt32).toInt32) &&& (15 : Int32)) - (4 : Int32)).toInt64)) rfl 200 rfl ?_
    refine g_ladd X0 H at_200 (z := (u10 + (((((p1.toUInt32 >>> ((4 : Int32) &&& 31).toUInt32).toInt32) &&& (15 : Int32)) - (4 : Int32)).toInt64))) rfl 201 rfl ?_
    refine gLstore X0 H at_201 (Ls' := #[vJ p0, .second, vI p1, vI p2, vI p3, vI 1, vR o6, vR o7, vI u8, vI u9, vJ u10, .second, vJ (u10 + (((((p1.toUInt32 >>> ((4 : Int32) &&& 31).toUInt32).toInt32) &&& (15 : Int32)) - (4 : Int32)).toInt64)), .second, .unset, .unset]) rfl 203 rfl ?_
    exact tail644_203 B p0 p1 p2 p3 o6 o7 u8 u9 u10 ((u10 + (((((p1.toUInt32 >>> ((4 : Int32) &&& 31).toUInt32).toInt32) &&& (15 : Int32)) - (4 : Int32)).toInt64))) X0 H hml hZ hown hnm hret hlk N0 hC hS e0 O qq0 qq1 qq2
  · refine gIfN X0 H at_180 ((if0 _ _).trans (feq hc643).1) 183 rfl ?_
    refine gLloadN X0 H at_183 rfl 184 rfl ?_
    refine gLstore X0 H at_184 (Ls' := #[vJ p0, .second, vI p1, vI p2, vI p3, vI 1, vR o6, vR o7, vI u8, vI u9, vJ u10, .second, vJ p0, .second, .unset, .unset]) rfl 186 rfl ?_
    refine gGoto X0 H at_186 (by decide) 203 rfl ?_
    exact tail644_203 B p0 p1 p2 p3 o6 o7 u8 u9 u10 p0 X0 H hml hZ hown hnm hret hlk N0 hC hS e0 O qq0 qq1 qq2
theorem rm680_14 (B : Bg Z a0 wE0 w_cacheI k_wE0 cl_cacheI) (ro0 : Addr) (vj1 vj2 : Int64) (h : Heap) (O : Ext Z.heap h) (q675 : Fld Z h ro0 cs3 "firstNumber" "J" (.long vj2)) (q678 : Fld Z h ro0 cs3 "size" "I" (.int 0)) (hk677 : ¬ ((vj1 - vj2) < (0 : Int64))) :
    Con l Z yM14 prog_50_method_7_code 5 (some .int) ({ frames := 0, cells := 0, slots := 0, locals := 0 } : Room) #[(.ref ro0), (.long vj1)] h (fun v h' L => v = some (.int (-1)) ∧ h' = h ∧ L = []) := by
  have hw := B.1
  refine Con.of (plainFor_of_name pn14) (Ls := #[vR ro0, vJ vj1, .second, .unset, .unset]) (fun _ => by first | (simp [entryFrame, mkF, argsToLocals, Value.category, maxLocals]; done) | rfl) ?_
  intro p e s m below meth c T0 X0 H hml hZ hown hnm hret hlk e0
  refine gLloadN X0 H d14_0 rfl 1 rfl ?_
  refine gAloadN X0 H d14_1 rfl rfl 2 rfl ?_
  refine gGetF X0 H hZ hown (hw _ wd105) Via.refl e0 q675 d14_2 5 rfl ?_
  intro T676 X676 e676
  refine g_lsub X676 H d14_5 (z := (vj1 - vj2)) rfl 6 rfl ?_
  refine gLstoreN X676 H d14_6 (Ls' := #[vR ro0, vJ vj1, .second, vJ (vj1 - vj2), .second]) rfl 7 rfl ?_
  refine gLloadN X676 H d14_7 rfl 8 rfl ?_
  refine gLconst X676 H d14_8 (z := 0) rfl 9 rfl ?_
  refine g_lcmp X676 H d14_9 (z := (lcmpW (vj1 - vj2) (0 : Int64))) rfl 10 rfl ?_
  refine gIfN X676 H d14_10 ((if0 _ _).trans (flt (fun q => hk677 ((lw_lt _ _).mp q))).1) 13 rfl ?_
  refine gLloadN X676 H d14_13 rfl 14 rfl ?_
  refine gAloadN X676 H d14_14 rfl rfl 15 rfl ?_
  refine gGetF X676 H hZ hown (hw _ wd98) Via.refl e676 q678 d14_15 18 rfl ?_
  intro T679 X679 e679
  refine g_i2l X679 H d14_18 (z := 0) (by decide) 19 rfl ?_
  refine g_lcmp X679 H d14_19 (z := (lcmpW (vj1 - vj2) (0 : Int64))) rfl 20 rfl ?_
  refine gIfY X679 H d14_20 ((if0 _ _).trans (flt (fun q => hk677 ((lw_lt _ _).mp q))).2.1) (by decide) 28 rfl ?_
  refine gIconst X679 H d14_28 (z := (-1)) rfl 29 rfl ?_
  exact gRetI X679 H hlk hret d14_29 e679 ⟨rfl, rfl, rfl⟩
theorem tail670_203 (B : Bg Z a0 wE0 w_cacheI k_wE0 cl_cacheI) (p0 : Int64) (p1 : Int32) (p2 : Int32) (p3 : Int32) (o6 : Addr) (o7 : Addr) (u8 : Int32) (u9 : Int32) (u10 : Int64) (u12 : Int64) {p : Program} {e : Env} {s : State} {m : MethodId} {below : List Frame} {meth : Method} {c : Code} {T0 : State} {locs : List Loc} {cells slots : Nat} {h : Heap} (X0 : Stand p l e room_1 s m #[(.long p0), (.int p1), (.int p2), (.int p3)] below meth c T0 locs cells slots) (H : p.tables.exec = Jvm.exec ∧ c.code = code) (hml : c.maxLocals = maxLocals) (hZ : Z.Warmed39 s.vm) (hown : s.vm.findClass x.cls = some m.cls) (hnm : meth.name = x.name) (hret : meth.sig.returnType = ret) (hlk : meth.locks = false) (N0 : Fr Z.heap.size locs) (hC : cells ≤ room_1.cells) (hS : slots ≤ room_1.slots) (e0 : T0.heap = h) (O : Ext Z.heap h) (qq0 : Exa Z h o7 cs3) (qq1 : Fld Z h o7 cs3 "size" "I" (.int 0)) (qq2 : Fld Z h o7 cs3 "firstNumber" "J" (.long u10)) :
    Go p e below (EndK s below (fun v h' L => v = some (.int 1) ∧ Fr Z.heap.size L) room_1.cells room_1.slots) (T0.setTop (mkF m 203 #[vJ p0, .second, vI p1, vI p2, vI p3, vI 0, vR o6, vR o7, vI u8, vI u9, vJ u10, .second, vJ u12, .second, .unset, .unset] [])) := by
  have hw := B.1
  obtain ⟨S_wE0, V_wE0, S_high, S_cacheI, B_cacheI⟩ := B.2
  have M0 := Nat.le_refl h.size
  refine gAload X0 H at_203 rfl rfl 205 rfl ?_
  refine gLload X0 H at_205 rfl 207 rfl ?_
  by_cases hc673 : (u12 - u10) < (0 : Int64)
  · refine gVirt X0 H hZ hown (hw _ wd100) (hw _ wd101) (hw _ wd103) (hw _ wd102) (by decide) qq0 (hw _ wd104) (hw _ wd66) (rm595_14 B o7 u12 u10 _ O qq2 hc673) e0 hml rfl pd12 rfl (W := 0) (argsL := [(.long u12)]) (rest := []) rfl rfl at_207 210 rfl ?_ (hc := hC) (hsl := hS)
    intro v674 T674 L674 hq674 X674
    obtain ⟨rfl, e674, rfl⟩ := hq674
    have N674 := Fr.app N0 (Fr.nil _)
    show Go _ _ _ _ (State.setTop _ (mkF _ 210 _ [(.int (-1))]))
    refine gIstore X674 H at_210 (Ls' := #[vJ p0, .second, vI p1, vI p2, vI p3, vI 0, vR o6, vR o7, vI u8, vI u9, vJ u10, .second, vJ u12, .second, vI (-1), .unset]) rfl 212 rfl ?_
    refine gIconst X674 H at_212 (z := (-1)) rfl 213 rfl ?_
    refine gIstore X674 H at_213 (Ls' := #[vJ p0, .second, vI p1, vI p2, vI p3, vI 0, vR o6, vR o7, vI u8, vI u9, vJ u10, .second, vJ u12, .second, vI (-1), vI (-1)]) rfl 215 rfl ?_
    refine gIload X674 H at_215 rfl 217 rfl ?_
    refine gIfY X674 H at_217 (by decide) (by decide) 234 rfl ?_
    refine gIload X674 H at_234 rfl 236 rfl ?_
    refine gIconst X674 H at_236 (z := 1) rfl 237 rfl ?_
    refine gCmpY X674 H at_237 (by decide) (by decide) 256 rfl ?_
    refine gIload X674 H at_256 rfl 258 rfl ?_
    refine gIconst X674 H at_258 (z := 2) rfl 259 rfl ?_
    refine gCmpY X674 H at_259 (by decide) (by decide) 280 rfl ?_
    refine gIload X674 H at_280 rfl 282 rfl ?_
    refine gIconst X674 H at_282 (z := 3) rfl 283 rfl ?_
    refine gCmpY X674 H at_283 (by decide) (by decide) 304 rfl ?_
    refine gIload X674 H at_304 rfl 306 rfl ?_
    refine gIconst X674 H at_306 (z := 4) rfl 307 rfl ?_
    refine gCmpY X674 H at_307 (by decide) (by decide) 328 rfl ?_
    refine gIload X674 H at_328 rfl 330 rfl ?_
    refine gIconst X674 H at_330 (z := 5) rfl 331 rfl ?_
    refine gCmpY X674 H at_331 (by decide) (by decide) 349 rfl ?_
    refine gIload X674 H at_349 rfl 351 rfl ?_
    refine gIload X674 H at_351 rfl 353 rfl ?_
    refine gCmpN X674 H at_353 (by decide) 356 rfl ?_
    refine gIconst X674 H at_356 (z := 1) rfl 357 rfl ?_
    refine gGoto X674 H at_357 (by decide) 361 rfl ?_
    exact gRetN X674 H hlk hret (t := .boolean) (by simp) at_361 e674 ⟨rfl, N674⟩ hC hS
  · refine gVirt X0 H hZ hown (hw _ wd100) (hw _ wd101) (hw _ wd103) (hw _ wd102) (by decide) qq0 (hw _ wd104) (hw _ wd66) (rm680_14 B o7 u12 u10 _ O qq2 qq1 hc673) e0 hml rfl pd12 rfl (W := 0) (argsL := [(.long u12)]) (rest := []) rfl rfl at_207 210 rfl ?_ (hc := hC) (hsl := hS)
    intro v681 T681 L681 hq681 X681
    obtain ⟨rfl, e681, rfl⟩ := hq681
    have N681 := Fr.app N0 (Fr.nil _)
    show Go _ _ _ _ (State.setTop _ (mkF _ 210 _ [(.int (-1))]))
    refine gIstore X681 H at_210 (Ls' := #[vJ p0, .second, vI p1, vI p2, vI p3, vI 0, vR o6, vR o7, vI u8, vI u9, vJ u10, .second, vJ u12, .second, vI (-1), .unset]) rfl 212 rfl ?_
    refine gIconst X681 H at_212 (z := (-1)) rfl 213 rfl ?_
    refine gIstore X681 H at_213 (Ls' := #[vJ p0, .second, vI p1, vI p2, vI p3, vI 0, vR o6, vR o7, vI u8, vI u9, vJ u10, .second, vJ u12, .second, vI (-1), vI (-1)]) rfl 215 rfl ?_
    refine gIload X681 H at_215 rfl 217 rfl ?_
    refine gIfY X681 H at_217 (by decide) (by decide) 234 rfl ?_
    refine gIload X681 H at_234 rfl 236 rfl ?_
    refine gIconst X681 H at_236 (z := 1) rfl 237 rfl ?_
    refine gCmpY X681 H at_237 (by decide) (by decide) 256 rfl ?_
    refine gIload X681 H at_256 rfl 258 rfl ?_
    refine gIconst X681 H at_258 (z := 2) rfl 259 rfl ?_
    refine gCmpY X681 H at_259 (by decide) (by decide) 280 rfl ?_
    refine gIload X681 H at_280 rfl 282 rfl ?_
    refine gIconst X681 H at_282 (z := 3) rfl 283 rfl ?_
    refine gCmpY X681 H at_283 (by decide) (by decide) 304 rfl ?_
    refine gIload X681 H at_304 rfl 306 rfl ?_
    refine gIconst X681 H at_306 (z := 4) rfl 307 rfl ?_
    refine gCmpY X681 H at_307 (by decide) (by decide) 328 rfl ?_
    refine gIload X681 H at_328 rfl 330 rfl ?_
    refine gIconst X681 H at_330 (z := 5) rfl 331 rfl ?_
    refine gCmpY X681 H at_331 (by decide) (by decide) 349 rfl ?_
    refine gIload X681 H at_349 rfl 351 rfl ?_
    refine gIload X681 H at_351 rfl 353 rfl ?_
    refine gCmpN X681 H at_353 (by decide) 356 rfl ?_
    refine gIconst X681 H at_356 (z := 1) rfl 357 rfl ?_
    refine gGoto X681 H at_357 (by decide) 361 rfl ?_
    exact gRetN X681 H hlk hret (t := .boolean) (by simp) at_361 e681 ⟨rfl, N681⟩ hC hS
theorem tail668_176 (B : Bg Z a0 wE0 w_cacheI k_wE0 cl_cacheI) (p0 : Int64) (p1 : Int32) (p2 : Int32) (p3 : Int32) (o6 : Addr) (o7 : Addr) (u8 : Int32) (u9 : Int32) (u10 : Int64) {p : Program} {e : Env} {s : State} {m : MethodId} {below : List Frame} {meth : Method} {c : Code} {T0 : State} {locs : List Loc} {cells slots : Nat} {h : Heap} (X0 : Stand p l e room_1 s m #[(.long p0), (.int p1), (.int p2), (.int p3)] below meth c T0 locs cells slots) (H : p.tables.exec = Jvm.exec ∧ c.code = code) (hml : c.maxLocals = maxLocals) (hZ : Z.Warmed39 s.vm) (hown : s.vm.findClass x.cls = some m.cls) (hnm : meth.name = x.name) (hret : meth.sig.returnType = ret) (hlk : meth.locks = false) (N0 : Fr Z.heap.size locs) (hC : cells ≤ room_1.cells) (hS : slots ≤ room_1.slots) (e0 : T0.heap = h) (O : Ext Z.heap h) (qq0 : Exa Z h o7 cs3) (qq1 : Fld Z h o7 cs3 "size" "I" (.int 0)) (qq2 : Fld Z h o7 cs3 "firstNumber" "J" (.long u10)) :
    Go p e below (EndK s below (fun v h' L => v = some (.int 1) ∧ Fr Z.heap.size L) room_1.cells room_1.slots) (T0.setTop (mkF m 176 #[vJ p0, .second, vI p1, vI p2, vI p3, vI 0, vR o6, vR o7, vI u8, vI u9, vJ u10, .second, .unset, .unset, .unset, .unset] [])) := by
  have hw := B.1
  obtain ⟨S_wE0, V_wE0, S_high, S_cacheI, B_cacheI⟩ := B.2
  have M0 := Nat.le_refl h.size
  refine gIloadN X0 H at_176 rfl 177 rfl ?_
  refine gBipush X0 H at_177 (z := 8) rfl 179 rfl ?_
  refine g_iand X0 H at_179 (z := (p1 &&& (8 : Int32))) rfl 180 rfl ?_
  by_cases hc669 : (p1 &&& (8 : Int32)) = (0 : Int32)
  · refine gIfY X0 H at_180 ((if0 _ _).trans (teq hc669).1) (by decide) 189 rfl ?_
    refine gLload X0 H at_189 rfl 191 rfl ?_
    refine gIloadN X0 H at_191 rfl 192 rfl ?_
    refine gIconst X0 H at_192 (z := 4) rfl 193 rfl ?_
    refine g_iushr X0 H at_193 (z := ((p1.toUInt32 >>> ((4 : Int32) &&& 31).toUInt32).toInt32)) rfl 194 rfl ?_
    refine gBipush X0 H at_194 (z := 15) rfl 196 rfl ?_
    refine g_iand X0 H at_196 (z := (((p1.toUInt32 >>> ((4 : Int32) &&& 31).toUInt32).toInt32) &&& (15 : Int32))) rfl 197 rfl ?_
    refine gIconst X0 H at_197 (z := 4) rfl 198 rfl ?_
    refine g_isub X0 H at_198 (z := ((((p1.toUInt32 >>> ((4 : Int32) &&& 31).toUInt32).toInt32) &&& (15 : Int32)) - (4 : Int32))) rfl 199 rfl ?_
    refine g_i2l X0 H at_199 (z := (((((p1.toUInt32 >>> ((4 : Int32) &&& 31).toUInt32).toInt32) &&& (15 : Int32)) - (4 : Int32)).toInt64)) rfl 200 rfl ?_
    refine g_ladd X0 H at_200 (z := (u10 + (((((p1.toUInt32 >>> ((4 : Int32) &&& 31).toUInt32).toInt32) &&& (15 : Int32)) - (4 : Int32)).toInt64))) rfl 201 rfl ?_
    refine gLstore X0 H at_201 (Ls' := #[vJ p0, .second, vI p1, vI p2, vI p3, vI 0, vR o6, vR o7, vI u8, vI u9, vJ u10, .second, vJ (u10 + (((((p1.toUInt32 >>> ((4 : Int32) &&& 31).toUInt32).toInt32) &&& (15 : Int32)) - (4 : Int32)).toInt64)), .second, .unset, .unset]) rfl 203 rfl ?_
    exact tail670_203 B p0 p1 p2 p3 o6 o7 u8 u9 u10 ((u10 + (((((p1.toUInt32 >>> ((4 : Int32) &&& 31).toUInt32).toInt32) &&& (15 : Int32)) - (4 : Int32)).toInt64))) X0 H hml hZ hown hnm hret hlk N0 hC hS e0 O qq0 qq1 qq2
  · refine gIfN X0 H at_180 ((if0 _ _).trans (feq hc669).1) 183 rfl ?_
    refine gLloadN X0 H at_183 rfl 184 rfl ?_
    refine gLstore X0 H at_184 (Ls' := #[vJ p0, .second, vI p1, vI p2, vI p3, vI 0, vR o6, vR o7, vI u8, vI u9, vJ u10, .second, vJ p0, .second, .unset, .unset]) rfl 186 rfl ?_
    refine gGoto X0 H at_186 (by decide) 203 rfl ?_
    exact tail670_203 B p0 p1 p2 p3 o6 o7 u8 u9 u10 p0 X0 H hml hZ hown hnm hret hlk N0 hC hS e0 O qq0 qq1 qq2
theorem rm686_16 (B : Bg Z a0 wE0 w_cacheI k_wE0 cl_cacheI) (ro0 : Addr) (h : Heap) (O : Ext Z.heap h) (q684 : Fld Z h ro0 cs3 "size" "I" (.int 0)) :
    Con l Z yM16 prog_50_method_10_code 2 (some (.object "java/lang/Object")) ({ frames := 0, cells := 0, slots := 0, locals := 0 } : Room) #[(.ref ro0)] h (fun v h' L => v = some .null ∧ h' = h ∧ L = []) := by
  have hw := B.1
  refine Con.of (plainFor_of_name pn16) (Ls := #[vR ro0, .unset]) (fun _ => rfl) ?_
  intro p e s m below meth c T0 X0 H hml hZ hown hnm hret hlk e0
  refine gAloadN X0 H d16_0 rfl rfl 1 rfl ?_
  refine gGetF X0 H hZ hown (hw _ wd98) Via.refl e0 q684 d16_1 4 rfl ?_
  intro T685 X685 e685
  refine gIfN X685 H d16_4 (by decide) 7 rfl ?_
  refine gNull X685 H d16_7 8 rfl ?_
  exact gRetA X685 H hlk hret rfl rfl rfl d16_8 e685 ⟨rfl, rfl, rfl⟩
theorem rm689_15 (B : Bg Z a0 wE0 w_cacheI k_wE0 cl_cacheI) (ro0 : Addr) (h : Heap) (O : Ext Z.heap h) (q683 : Exa Z h ro0 cs3) (q687 : Fld Z h ro0 cs3 "size" "I" (.int 0)) :
    Con l Z yM15 method_2_code 2 none ({ frames := 1, cells := 0, slots := 0, locals := 13 } : Room) #[(.ref ro0), (.int 1)] h (fun v h' L => v = none ∧ h' = h ∧ L = []) := by
  have hw := B.1
  refine Con.of (plainFor_of_name pn15) (Ls := #[vR ro0, vI 1]) (fun _ => rfl) ?_
  intro p e s m below meth c T0 X0 H hml hZ hown hnm hret hlk e0
  have N0 := Fr.nil Z.heap.size
  refine gIloadN X0 H d15_0 rfl 1 rfl ?_
  refine gIfN X0 H d15_1 (by decide) 4 rfl ?_
  refine gAloadN X0 H d15_4 rfl rfl 5 rfl ?_
  refine gVirt X0 H hZ hown (hw _ wd111) (hw _ wd112) (hw _ wd114) (hw _ wd113) (by decide) q683 (hw _ wd115) (hw _ wd66) (rm686_16 B ro0 _ O q687) e0 hml rfl pd13 rfl (W := 0) (argsL := []) (rest := []) rfl rfl d15_5 8 rfl ?_
  intro v688 T688 L688 hq688 X688
  obtain ⟨rfl, e688, rfl⟩ := hq688
  have N688 := Fr.app N0 (Fr.nil _)
  show Go _ _ _ _ (State.setTop _ (mkF _ 8 _ [.null]))
  refine gPop X688 H d15_8 rfl 9 rfl ?_
  refine gGoto X688 H d15_9 (by decide) 21 rfl ?_
  exact gRetV X688 H hlk hret d15_21 e688 ⟨rfl, rfl, rfl⟩
theorem rm696_19 (B : Bg Z a0 wE0 w_cacheI k_wE0 cl_cacheI) (h : Heap) (O : Ext Z.heap h) :
    Con l Z yM19 jdk_29_method_69_code 2 (some .int) ({ frames := 0, cells := 0, slots := 0, locals := 0 } : Room) #[(.int 3), (.int 0)] h (fun v h' L => v = some (.int 0) ∧ h' = h ∧ L = []) := by
  refine Con.of (Jvm.Free.JP.mathPlain rfl (by decide +kernel)) (Ls := #[vI 3, vI 0]) (fun _ => rfl) ?_
  intro p e s m below meth c T0 X0 H hml hZ hown hnm hret hlk e0
  refine gIloadN X0 H d19_0 rfl 1 rfl ?_
  refine gIloadN X0 H d19_1 rfl 2 rfl ?_
  refine gCmpY X0 H d19_2 (by decide) (by decide) 9 rfl ?_
  refine gIloadN X0 H d19_9 rfl 10 rfl ?_
  exact gRetI X0 H hlk hret d19_10 e0 ⟨rfl, rfl, rfl⟩
theorem tail698_176 (B : Bg Z a0 wE0 w_cacheI k_wE0 cl_cacheI) (p0 : Int64) (p1 : Int32) (p2 : Int32) (p3 : Int32) (o6 : Addr) (o7 : Addr) (u8 : Int32) (u9 : Int32) (u10 : Int64) (u12 : Int32) {p : Program} {e : Env} {s : State} {m : MethodId} {below : List Frame} {meth : Method} {c : Code} {T0 : State} {locs : List Loc} {cells slots : Nat} {h : Heap} (X0 : Stand p l e room_1 s m #[(.long p0), (.int p1), (.int p2), (.int p3)] below meth c T0 locs cells slots) (H : p.tables.exec = Jvm.exec ∧ c.code = code) (hml : c.maxLocals = maxLocals) (hZ : Z.Warmed39 s.vm) (hown : s.vm.findClass x.cls = some m.cls) (hnm : meth.name = x.name) (hret : meth.sig.returnType = ret) (hlk : meth.locks = false) (N0 : Fr Z.heap.size locs) (hC : cells ≤ room_1.cells) (hS : slots ≤ room_1.slots) (e0 : T0.heap = h) (O : Ext Z.heap h) (qq0 : Exa Z h o7 cs3) (qq1 : Fld Z h o7 cs3 "size" "I" (.int 0)) (qq2 : Fld Z h o7 cs3 "firstNumber" "J" (.long u10)) :
    Go p e below (EndK s below (fun v h' L => v = some (.int 1) ∧ Fr Z.heap.size L) room_1.cells room_1.slots) (T0.setTop (mkF m 176 #[vJ p0, .second, vI p1, vI p2, vI p3, vI 0, vR o6, vR o7, vI u8, vI u9, vJ u10, .second, vI u12, .unset, .unset, .unset] [])) := by
  have hw := B.1
  obtain ⟨S_wE0, V_wE0, S_high, S_cacheI, B_cacheI⟩ := B.2
  have M0 := Nat.le_refl h.size
  refine gIloadN X0 H at_176 rfl 177 rfl ?_
  refine gBipush X0 H at_177 (z := 8) rfl 179 rfl ?_
  refine g_iand X0 H at_179 (z := (p1 &&& (8 : Int32))) rfl 180 rfl ?_
  by_cases hc699 : (p1 &&& (8 : Int32)) = (0 : Int32)
  · refine gIfY X0 H at_180 ((if0 _ _).trans (teq hc699).1) (by decide) 189 rfl ?_
    refine gLload X0 H at_189 rfl 191 rfl ?_
    refine gIloadN X0 H at_191 rfl 192 rfl ?_
    refine gIconst X0 H at_192 (z := 4) rfl 193 rfl ?_
    refine g_iushr X0 H at_193 (z := ((p1.toUInt32 >>> ((4 : Int32) &&& 31).toUInt32).toInt32)) rfl 194 rfl ?_
    refine gBipush X0 H at_194 (z := 15) rfl 196 rfl ?_
    refine g_iand X0 H at_196 (z := (((p1.toUInt32 >>> ((4 : Int32) &&& 31).toUInt32).toInt32) &&& (15 : Int32))) rfl 197 rfl ?_
    refine gIconst X0 H at_197 (z := 4) rfl 198 rfl ?_
    refine g_isub X0 H at_198 (z := ((((p1.toUInt32 >>> ((4 : Int32) &&& 31).toUInt32).toInt32) &&& (15 : Int32)) - (4 : Int32))) rfl 199 rfl ?_
    refine g_i2l X0 H at_199 (z := (((((p1.toUInt32 >>> ((4 : Int32) &&& 31).toUInt32).toInt32) &&& (15 : Int32)) - (4 : Int32)).toInt64)) rfl 200 rfl ?_
    refine g_ladd X0 H at_200 (z := (u10 + (((((p1.toUInt32 >>> ((4 : Int32) &&& 31).toUInt32).toInt32) &&& (15 : Int32)) - (4 : Int32)).toInt64))) rfl 201 rfl ?_
    refine gLstore X0 H at_201 (Ls' := #[vJ p0, .second, vI p1, vI p2, vI p3, vI 0, vR o6, vR o7, vI u8, vI u9, vJ u10, .second, vJ (u10 + (((((p1.toUInt32 >>> ((4 : Int32) &&& 31).toUInt32).toInt32) &&& (15 : Int32)) - (4 : Int32)).toInt64)), .second, .unset, .unset]) rfl 203 rfl ?_
    exact tail670_203 B p0 p1 p2 p3 o6 o7 u8 u9 u10 ((u10 + (((((p1.toUInt32 >>> ((4 : Int32) &&& 31).toUInt32).toInt32) &&& (15 : Int32)) - (4 : Int32)).toInt64))) X0 H hml hZ hown hnm hret hlk N0 hC hS e0 O qq0 qq1 qq2
  · refine gIfN X0 H at_180 ((if0 _ _).trans (feq hc699).1) 183 rfl ?_
    refine gLloadN X0 H at_183 rfl 184 rfl ?_
    refine gLstore X0 H at_184 (Ls' := #[vJ p0, .second, vI p1, vI p2, vI p3, vI 0, vR o6, vR o7, vI u8, vI u9, vJ u10, .second, vJ p0, .second, .unset, .unset]) rfl 186 rfl ?_
    refine gGoto X0 H at_186 (by decide) 203 rfl ?_
    exact tail670_203 B p0 p1 p2 p3 o6 o7 u8 u9 u10 p0 X0 H hml hZ hown hnm hret hlk N0 hC hS e0 O qq0 qq1 qq2
theorem rm701_19 (B : Bg Z a0 wE0 w_cacheI k_wE0 cl_cacheI) (h : Heap) (O : Ext Z.heap h) :
    Con l Z yM19 jdk_29_method_69_code 2 (some .int) ({ frames := 0, cells := 0, slots := 0, locals := 0 } : Room) #[(.int 2), (.int 0)] h (fun v h' L => v = some (.int 0) ∧ h' = h ∧ L = []) := by
  refine Con.of (Jvm.Free.JP.mathPlain rfl (by decide +kernel)) (Ls := #[vI 2, vI 0]) (fun _ => rfl) ?_
  intro p e s m below meth c T0 X0 H hml hZ hown hnm hret hlk e0
  refine gIloadN X0 H d19_0 rfl 1 rfl ?_
  refine gIloadN X0 H d19_1 rfl 2 rfl ?_
  refine gCmpY X0 H d19_2 (by decide) (by decide) 9 rfl ?_
  refine gIloadN X0 H d19_9 rfl 10 rfl ?_
  exact gRetI X0 H hlk hret d19_10 e0 ⟨rfl, rfl, rfl⟩
theorem rm704_19 (B : Bg Z a0 wE0 w_cacheI k_wE0 cl_cacheI) (h : Heap) (O : Ext Z.heap h) :
    Con l Z yM19 jdk_29_method_69_code 2 (some .int) ({ frames := 0, cells := 0, slots := 0, locals := 0 } : Room) #[(.int 1), (.int 0)] h (fun v h' L => v = some (.int 0) ∧ h' = h ∧ L = []) := by
  refine Con.of (Jvm.Free.JP.mathPlain rfl (by decide +kernel)) (Ls := #[vI 1, vI 0]) (fun _ => rfl) ?_
  intro p e s m below meth c T0 X0 H hml hZ hown hnm hret hlk e0
  refine gIloadN X0 H d19_0 rfl 1 rfl ?_
  refine gIloadN X0 H d19_1 rfl 2 rfl ?_
  refine gCmpY X0 H d19_2 (by decide) (by decide) 9 rfl ?_
  refine gIloadN X0 H d19_9 rfl 10 rfl ?_
  exact gRetI X0 H hlk hret d19_10 e0 ⟨rfl, rfl, rfl⟩
theorem rm707_19 (B : Bg Z a0 wE0 w_cacheI k_wE0 cl_cacheI) (h : Heap) (O : Ext Z.heap h) :
    Con l Z yM19 jdk_29_method_69_code 2 (some .int) ({ frames := 0, cells := 0, slots := 0, locals := 0 } : Room) #[(.int 0), (.int 0)] h (fun v h' L => v = some (.int 0) ∧ h' = h ∧ L = []) := by
  refine Con.of (Jvm.Free.JP.mathPlain rfl (by decide +kernel)) (Ls := #[vI 0, vI 0]) (fun _ => rfl) ?_
  intro p e s m below meth c T0 X0 H hml hZ hown hnm hret hlk e0
  refine gIloadN X0 H d19_0 rfl 1 rfl ?_
  refine gIloadN X0 H d19_1 rfl 2 rfl ?_
  refine gCmpN X0 H d19_2 (by decide) 5 rfl ?_
  refine gIloadN X0 H d19_5 rfl 6 rfl ?_
  refine gGoto X0 H d19_6 (by decide) 10 rfl ?_
  exact gRetI X0 H hlk hret d19_10 e0 ⟨rfl, rfl, rfl⟩
theorem lawAll_0 (B : Bg Z a0 wE0 w_cacheI k_wE0 cl_cacheI) (p0 : Int64) (p1 : Int32) (p2 : Int32) (p3 : Int32) (ha0 : (p2 &&& (3 : Int32)) = (0 : Int32)) :
    Con l Z x code maxLocals ret room_1 #[(.long p0), (.int p1), (.int p2), (.int p3)] Z.heap (fun v h' L => v = some (.int 1) ∧ Fr Z.heap.size L) := by
  have hw := B.1
  obtain ⟨S_wE0, V_wE0, S_high, S_cacheI, B_cacheI⟩ := B.2
  refine Con.of (plainFor_of_name pn0) (Ls := #[vJ p0, .second, vI p1, vI p2, vI p3, .unset, .unset, .unset, .unset, .unset, .unset, .unset, .unset, .unset, .unset, .unset]) (fun _ => by first | (simp [entryFrame, mkF, argsToLocals, Value.category, maxLocals]; done) | rfl) ?_
  intro p e s m below meth c T0 X0 H hml hZ hown hnm hret hlk e0
  have O0 := extR Z.heap
  have M0 := Nat.le_refl Z.heap.size
  have N0 := Fr.nil Z.heap.size
  refine gIloadN X0 H at_0 rfl 1 rfl ?_
  refine gIconst X0 H at_1 (z := 3) rfl 2 rfl ?_
  refine g_iand X0 H at_2 (z := 0) ha0 3 rfl ?_
  refine gIstore X0 H at_3 (Ls' := #[vJ p0, .second, vI p1, vI p2, vI p3, vI 0, .unset, .unset, .unset, .unset, .unset, .unset, .unset, .unset, .unset, .unset]) rfl 5 rfl ?_
  refine gNew X0 H hZ hown (hw _ wd0) (hw _ wd1) (hw _ wd2) e0 (by decide) (by decide) at_5 8 rfl ?_
  intro T1 h1 b1 X1 e1 z1 E1 A1 D1
  have G_b1 := Nat.le_trans O0.1 (Nat.le_of_eq z1)
  have sz_b1 := Nat.le_trans M0 (Nat.le_of_eq z1)
  have O1 := extT O0 E1
  have F1_modCount : Fld Z h1 b1 cs0 "modCount" "I" (.int 0) := D1 (Or.inl (hw _ wd22)) (ty := .int) (by decide)
  have F1_elementData : Fld Z h1 b1 cs1 "elementData" cs2 .null := D1 (Or.inl (hw _ wd25)) (ty := (.array (.object "java/lang/Object"))) (by decide)
  have F1_size : Fld Z h1 b1 cs1 "size" "I" (.int 0) := D1 (Or.inl (hw _ wd41)) (ty := .int) (by decide)
  refine gDup X1 H at_8 rfl 9 rfl ?_
  refine gSpecial X1 H hZ hown rfl rfl (hw _ wd3) (hw _ wd4) (by decide) (hw _ wd5) (hw _ wd2) (rm29_1 B b1 _ O1 A1 F1_modCount G_b1 F1_elementData F1_size) e1 hml rfl pd0 rfl (W := 1) (argsL := []) (rest := [(.ref b1)]) rfl rfl at_9 12 rfl ?_
  intro v30 T30 L30 hq30 X30
  obtain ⟨rfl, N30q, K30, f30_0, f30_1, f30_2, f30_3⟩ := hq30
  have O30 := extK O1 K30 (allS G_b1 all0)
  have N30 := Fr.app N0 N30q
  show Go _ _ _ _ (State.setTop _ (mkF _ 12 _ [(.ref b1)]))
  refine gAstore X30 H at_12 rfl (Ls' := #[vJ p0, .second, vI p1, vI p2, vI p3, vI 0, vR b1, .unset, .unset, .unset, .unset, .unset, .unset, .unset, .unset, .unset]) rfl 14 rfl ?_
  refine gIload X30 H at_14 rfl 16 rfl ?_
  refine gIfY X30 H at_16 (by decide) (by decide) 30 rfl ?_
  refine gIload X30 H at_30 rfl 32 rfl ?_
  refine gIconst X30 H at_32 (z := 1) rfl 33 rfl ?_
  refine gCmpY X30 H at_33 (by decide) (by decide) 47 rfl ?_
  refine gIload X30 H at_47 rfl 49 rfl ?_
  refine gIconst X30 H at_49 (z := 2) rfl 50 rfl ?_
  refine gCmpY X30 H at_50 (by decide) (by decide) 64 rfl ?_
  refine gNew X30 H hZ hown (hw _ wd64) (hw _ wd65) (hw _ wd66) rfl (by decide) (by decide) at_64 67 rfl ?_
  intro T31 h31 b31 X31 e31 z31 E31 A31 D31
  have M32 := (Nat.le_trans (Nat.le_trans M0 E1.1) K30.1)
  have G_b31 := Nat.le_trans O30.1 (Nat.le_of_eq z31)
  have sz_b31 := Nat.le_trans M32 (Nat.le_of_eq z31)
  have ne_b1_b31 : b1 ≠ b31 := neB f30_0.lt (Nat.le_of_eq z31)
  have O31 := extT O30 E31
  have F31_serial : Fld Z h31 b31 cs3 "serial" "I" (.int 0) := D31 (Or.inr (hw _ wd72)) (ty := .int) (by decide)
  have F31_buffer : Fld Z h31 b31 cs3 "buffer" cs2 .null := D31 (Or.inl (hw _ wd97)) (ty := (.array (.object "java/lang/Object"))) (by decide)
  have F31_size : Fld Z h31 b31 cs3 "size" "I" (.int 0) := D31 (Or.inl (hw _ wd99)) (ty := .int) (by decide)
  have F31_firstNumber : Fld Z h31 b31 cs3 "firstNumber" "J" (.long 0) := D31 (Or.inl (hw _ wd106)) (ty := .long) (by decide)
  have F31_head : Fld Z h31 b31 cs3 "head" "I" (.int 0) := D31 (Or.inl (hw _ wd126)) (ty := .int) (by decide)
  refine gDup X31 H at_67 rfl 68 rfl ?_
  refine gIconst X31 H at_68 (z := 1) rfl 69 rfl ?_
  refine gAload X31 H at_69 rfl rfl 71 rfl ?_
  have c100 := (f30_0.ext E31)
  have c101 := (f30_3.ext E31)
  have c102 := (f30_2.ext E31)
  refine gSpecial X31 H hZ hown rfl rfl (hw _ wd67) (hw _ wd68) (by decide) (hw _ wd69) (hw _ wd66) (rm99_11 B b31 b1 _ O31 A31 F31_serial G_b31 c100 c101 ne_b1_b31 c102 F31_buffer F31_size F31_firstNumber F31_head) e31 hml rfl pd4 rfl (W := 1) (argsL := [(.int 1), (.ref b1)]) (rest := [(.ref b31)]) rfl rfl at_71 74 rfl ?_
  intro v103 T103 L103 hq103 X103
  obtain ⟨b103_0, k103_0, rfl, N103q, K103, s103_0, f103_0, f103_1, f103_2, f103_3, f103_4, f103_5, f103_6, f103_7⟩ := hq103
  have M104 := (Nat.le_trans M32 E31.1)
  have G_b103_0 := Nat.le_trans O31.1 s103_0
  have sz_b103_0 := Nat.le_trans M104 s103_0
  have ne_b1_b103_0 : b1 ≠ b103_0 := neB c100.lt s103_0
  have ne_b31_b103_0 : b31 ≠ b103_0 := neB A31.lt s103_0
  have O103 := extK O31 K103 (allS G_b31 all0)
  have N103 := Fr.app N30 N103q
  show Go _ _ _ _ (State.setTop _ (mkF _ 74 _ [(.ref b31)]))
  refine gAstore X103 H at_74 rfl (Ls' := #[vJ p0, .second, vI p1, vI p2, vI p3, vI 0, vR b1, vR b31, .unset, .unset, .unset, .unset, .unset, .unset, .unset, .unset]) rfl 76 rfl ?_
  refine gIload X103 H at_76 rfl 78 rfl ?_
  refine gIconst X103 H at_78 (z := 3) rfl 79 rfl ?_
  refine g_iand X103 H at_79 (z := (p3 &&& (3 : Int32))) rfl 80 rfl ?_
  refine gIstore X103 H at_80 (Ls' := #[vJ p0, .second, vI p1, vI p2, vI p3, vI 0, vR b1, vR b31, vI (p3 &&& (3 : Int32)), .unset, .unset, .unset, .unset, .unset, .unset, .unset]) rfl 82 rfl ?_
  refine gIload X103 H at_82 rfl 84 rfl ?_
  refine gIconst X103 H at_84 (z := 4) rfl 85 rfl ?_
  refine g_iand X103 H at_85 (z := (p3 &&& (4 : Int32))) rfl 86 rfl ?_
  by_cases hc105 : (p3 &&& (4 : Int32)) = (0 : Int32)
  · refine gIfY X103 H at_86 ((if0 _ _).trans (teq hc105).1) (by decide) 93 rfl ?_
    refine gIconst X103 H at_93 (z := 0) rfl 94 rfl ?_
    refine gIstore X103 H at_94 (Ls' := #[vJ p0, .second, vI p1, vI p2, vI p3, vI 0, vR b1, vR b31, vI (p3 &&& (3 : Int32)), vI 0, .unset, .unset, .unset, .unset, .unset, .unset]) rfl 96 rfl ?_
    refine gIload X103 H at_96 rfl 98 rfl ?_
    by_cases hc106 : (0 : Int32) < (p3 &&& (3 : Int32))
    · refine gIfN X103 H at_98 ((if0 _ _).trans (tlt hc106).2.2.2) 101 rfl ?_
      refine gAload X103 H at_101 rfl rfl 103 rfl ?_
      refine gIload X103 H at_103 rfl 105 rfl ?_
      refine gStatic X103 H hZ hown (hw _ wd107) (hw _ wd108) (by decide) (hw _ wd110) (hw _ wd109) (rm207_15 B b31 b103_0 k103_0 _ O103 f103_0 (Ne.symm ne_b31_b103_0) f103_4 f103_3 (Arv.arl f103_2) f103_6 G_b31 f103_5 f103_2 f103_7 G_b103_0 f103_1) rfl hml rfl pd9 rfl (W := 0) (argsL := [(.ref b31), (.int 0)]) (rest := []) rfl rfl at_105 108 rfl ?_
      intro v208 T208 L208 hq208 X208
      obtain ⟨b208_0, rfl, N208q, K208, f208_0, f208_1, f208_2, f208_3, f208_4, f208_5, f208_6, f208_7⟩ := hq208
      have O208 := extK O103 K208 (allS G_b31 (allS G_b103_0 all0))
      have N208 := Fr.app N103 N208q
      show Go _ _ _ _ (State.setTop _ (mkF _ 108 _ []))
      refine gIload X208 H at_108 rfl 110 rfl ?_
      refine gIconst X208 H at_110 (z := 1) rfl 111 rfl ?_
      by_cases hc209 : (1 : Int32) < (p3 &&& (3 : Int32))
      · refine gCmpN X208 H at_111 (tlt hc209).2.2.2 114 rfl ?_
        refine gAload X208 H at_114 rfl rfl 116 rfl ?_
        refine gIload X208 H at_116 rfl 118 rfl ?_
        refine gStatic X208 H hZ hown (hw _ wd107) (hw _ wd108) (by decide) (hw _ wd110) (hw _ wd109) (rm361_15 B b31 b103_0 k103_0 b208_0 _ O208 f208_1 f208_2 f208_3 (Arv.arl f208_6) f208_4 f208_6 f208_0 G_b31 f208_7 f208_5) rfl hml rfl pd9 rfl (W := 0) (argsL := [(.ref b31), (.int 0)]) (rest := []) rfl rfl at_118 121 rfl ?_
        intro v362 T362 L362 hq362 X362
        obtain ⟨b362_0, b362_1, k362_0, rfl, N362q, K362, s362_1, f362_0, f362_1, f362_2, f362_3, f362_4, f362_5, f362_6, f362_7, f362_8, f362_9⟩ := hq362
        have M363 := (Nat.le_trans (Nat.le_trans M104 K103.1) K208.1)
        have G_b362_1 := Nat.le_trans O208.1 s362_1
        have sz_b362_1 := Nat.le_trans M363 s362_1
        have c364 := ((c100.keep K103).keep K208)
        have ne_b1_b362_1 : b1 ≠ b362_1 := neB c364.lt s362_1
        have ne_b31_b362_1 : b31 ≠ b362_1 := neB f208_1.lt s362_1
        have ne_b103_0_b362_1 : b103_0 ≠ b362_1 := neB f208_6.lt s362_1
        have ne_b208_0_b362_1 : b208_0 ≠ b362_1 := neB f208_0.lt s362_1
        have O362 := extK O208 K362 (allS G_b31 all0)
        have N362 := Fr.app N208 N362q
        show Go _ _ _ _ (State.setTop _ (mkF _ 121 _ []))
        refine gIload X362 H at_121 rfl 123 rfl ?_
        refine gIconst X362 H at_123 (z := 2) rfl 124 rfl ?_
        by_cases hc365 : (2 : Int32) < (p3 &&& (3 : Int32))
        · refine gCmpN X362 H at_124 (tlt hc365).2.2.2 127 rfl ?_
          refine gAload X362 H at_127 rfl rfl 129 rfl ?_
          refine gIload X362 H at_129 rfl 131 rfl ?_
          have c550 := (f208_0.keep K362)
          refine gStatic X362 H hZ hown (hw _ wd107) (hw _ wd108) (by decide) (hw _ wd110) (hw _ wd109) (rm549_15 B b31 b362_1 k362_0 b208_0 b362_0 _ O362 f362_1 f362_2 f362_3 (Arv.arl f362_7) f362_4 f362_7 f362_0 c550 G_b31 f362_5 f362_6) rfl hml rfl pd9 rfl (W := 0) (argsL := [(.ref b31), (.int 0)]) (rest := []) rfl rfl at_131 134 rfl ?_
          intro v551 T551 L551 hq551 X551
          obtain ⟨b551_0, b551_1, k551_0, rfl, N551q, K551, s551_1, f551_0, f551_1, f551_2, f551_3, f551_4, f551_5, f551_6, f551_7, f551_8, f551_9⟩ := hq551
          have M552 := (Nat.le_trans M363 K362.1)
          have G_b551_1 := Nat.le_trans O362.1 s551_1
          have sz_b551_1 := Nat.le_trans M552 s551_1
          have c553 := (c364.keep K362)
          have ne_b1_b551_1 : b1 ≠ b551_1 := neB c553.lt s551_1
          have ne_b31_b551_1 : b31 ≠ b551_1 := neB f362_1.lt s551_1
          have c554 := (f208_6.keep K362 (ninS (Ne.symm ne_b31_b103_0) nin0))
          have ne_b103_0_b551_1 : b103_0 ≠ b551_1 := neB c554.lt s551_1
          have ne_b208_0_b551_1 : b208_0 ≠ b551_1 := neB c550.lt s551_1
          have ne_b362_0_b551_1 : b362_0 ≠ b551_1 := neB f362_0.lt s551_1
          have ne_b362_1_b551_1 : b362_1 ≠ b551_1 := neB f362_7.lt s551_1
          have O551 := extK O362 K551 (allS G_b31 all0)
          have N551 := Fr.app N362 N551q
          show Go _ _ _ _ (State.setTop _ (mkF _ 134 _ []))
          have hP555 : (p3 &&& (3 : Int32)) = (3 : Int32) := pk3 hc365
          rw [hP555]
          refine gIload X551 H at_134 rfl 136 rfl ?_
          refine gIfY X551 H at_136 (by decide) (by decide) 163 rfl ?_
          refine gIload X551 H at_163 rfl 165 rfl ?_
          refine gIload X551 H at_165 rfl 167 rfl ?_
          refine g_iadd X551 H at_167 (z := 3) (by decide) 168 rfl ?_
          refine gIstore X551 H at_168 (Ls' := #[vJ p0, .second, vI p1, vI p2, vI p3, vI 3, vR b1, vR b31, vI 3, vI 0, .unset, .unset, .unset, .unset, .unset, .unset]) rfl 170 rfl ?_
          refine gIload X551 H at_170 rfl 172 rfl ?_
          refine g_ineg X551 H at_172 (z := (-3)) (by decide) 173 rfl ?_
          refine g_i2l X551 H at_173 (z := (-3)) (by decide) 174 rfl ?_
          refine gLstore X551 H at_174 (Ls' := #[vJ p0, .second, vI p1, vI p2, vI p3, vI 3, vR b1, vR b31, vI 3, vI 0, vJ (-3), .second, .unset, .unset, .unset, .unset]) rfl 176 rfl ?_
          exact tail556_176 B p0 p1 p2 p3 b1 b31 ((3 : Int32)) ((0 : Int32)) ((-3 : Int64)) X551 H hml hZ hown hnm hret hlk N551 (by decide) (by decide) rfl O551 f551_1 f551_2 f551_6
        · refine gCmpY X362 H at_124 (flt hc365).2.2.2 (by decide) 134 rfl ?_
          have hP605 : (p3 &&& (3 : Int32)) = (2 : Int32) := pk2 hc209 hc365
          rw [hP605]
          refine gIload X362 H at_134 rfl 136 rfl ?_
          refine gIfY X362 H at_136 (by decide) (by decide) 163 rfl ?_
          refine gIload X362 H at_163 rfl 165 rfl ?_
          refine gIload X362 H at_165 rfl 167 rfl ?_
          refine g_iadd X362 H at_167 (z := 2) (by decide) 168 rfl ?_
          refine gIstore X362 H at_168 (Ls' := #[vJ p0, .second, vI p1, vI p2, vI p3, vI 2, vR b1, vR b31, vI 2, vI 0, .unset, .unset, .unset, .unset, .unset, .unset]) rfl 170 rfl ?_
          refine gIload X362 H at_170 rfl 172 rfl ?_
          refine g_ineg X362 H at_172 (z := (-2)) (by decide) 173 rfl ?_
          refine g_i2l X362 H at_173 (z := (-2)) (by decide) 174 rfl ?_
          refine gLstore X362 H at_174 (Ls' := #[vJ p0, .second, vI p1, vI p2, vI p3, vI 2, vR b1, vR b31, vI 2, vI 0, vJ (-2), .second, .unset, .unset, .unset, .unset]) rfl 176 rfl ?_
          exact tail606_176 B p0 p1 p2 p3 b1 b31 ((2 : Int32)) ((0 : Int32)) ((-2 : Int64)) X362 H hml hZ hown hnm hret hlk N362 (by decide) (by decide) rfl O362 f362_1 f362_2 f362_6
      · refine gCmpY X208 H at_111 (flt hc209).2.2.2 (by decide) 121 rfl ?_
        refine gIload X208 H at_121 rfl 123 rfl ?_
        refine gIconst X208 H at_123 (z := 2) rfl 124 rfl ?_
        refine gCmpY X208 H at_124 (flt (fun q => hc209 (Int32.lt_trans (by decide) q))).2.2.2 (by decide) 134 rfl ?_
        have hP641 : (p3 &&& (3 : Int32)) = (1 : Int32) := pk1 hc106 hc209
        rw [hP641]
        refine gIload X208 H at_134 rfl 136 rfl ?_
        refine gIfY X208 H at_136 (by decide) (by decide) 163 rfl ?_
        refine gIload X208 H at_163 rfl 165 rfl ?_
        refine gIload X208 H at_165 rfl 167 rfl ?_
        refine g_iadd X208 H at_167 (z := 1) (by decide) 168 rfl ?_
        refine gIstore X208 H at_168 (Ls' := #[vJ p0, .second, vI p1, vI p2, vI p3, vI 1, vR b1, vR b31, vI 1, vI 0, .unset, .unset, .unset, .unset, .unset, .unset]) rfl 170 rfl ?_
        refine gIload X208 H at_170 rfl 172 rfl ?_
        refine g_ineg X208 H at_172 (z := (-1)) (by decide) 173 rfl ?_
        refine g_i2l X208 H at_173 (z := (-1)) (by decide) 174 rfl ?_
        refine gLstore X208 H at_174 (Ls' := #[vJ p0, .second, vI p1, vI p2, vI p3, vI 1, vR b1, vR b31, vI 1, vI 0, vJ (-1), .second, .unset, .unset, .unset, .unset]) rfl 176 rfl ?_
        exact tail642_176 B p0 p1 p2 p3 b1 b31 ((1 : Int32)) ((0 : Int32)) ((-1 : Int64)) X208 H hml hZ hown hnm hret hlk N208 (by decide) (by decide) rfl O208 f208_1 f208_2 f208_5
    · refine gIfY X103 H at_98 ((if0 _ _).trans (flt hc106).2.2.2) (by decide) 108 rfl ?_
      refine gIload X103 H at_108 rfl 110 rfl ?_
      refine gIconst X103 H at_110 (z := 1) rfl 111 rfl ?_
      refine gCmpY X103 H at_111 (flt (fun q => hc106 (Int32.lt_trans (by decide) q))).2.2.2 (by decide) 121 rfl ?_
      refine gIload X103 H at_121 rfl 123 rfl ?_
      refine gIconst X103 H at_123 (z := 2) rfl 124 rfl ?_
      refine gCmpY X103 H at_124 (flt (fun q => hc106 (Int32.lt_trans (by decide) q))).2.2.2 (by decide) 134 rfl ?_
      have hP667 : (p3 &&& (3 : Int32)) = (0 : Int32) := pk0 hc106
      rw [hP667]
      refine gIload X103 H at_134 rfl 136 rfl ?_
      refine gIfY X103 H at_136 (by decide) (by decide) 163 rfl ?_
      refine gIload X103 H at_163 rfl 165 rfl ?_
      refine gIload X103 H at_165 rfl 167 rfl ?_
      refine g_iadd X103 H at_167 (z := 0) (by decide) 168 rfl ?_
      refine gIstore X103 H at_168 (Ls' := #[vJ p0, .second, vI p1, vI p2, vI p3, vI 0, vR b1, vR b31, vI 0, vI 0, .unset, .unset, .unset, .unset, .unset, .unset]) rfl 170 rfl ?_
      refine gIload X103 H at_170 rfl 172 rfl ?_
      refine g_ineg X103 H at_172 (z := 0) (by decide) 173 rfl ?_
      refine g_i2l X103 H at_173 (z := 0) (by decide) 174 rfl ?_
      refine gLstore X103 H at_174 (Ls' := #[vJ p0, .second, vI p1, vI p2, vI p3, vI 0, vR b1, vR b31, vI 0, vI 0, vJ 0, .second, .unset, .unset, .unset, .unset]) rfl 176 rfl ?_
      exact tail668_176 B p0 p1 p2 p3 b1 b31 ((0 : Int32)) ((0 : Int32)) ((0 : Int64)) X103 H hml hZ hown hnm hret hlk N103 (by decide) (by decide) rfl O103 f103_0 f103_4 f103_5
  · refine gIfN X103 H at_86 ((if0 _ _).trans (feq hc105).1) 89 rfl ?_
    refine gIconst X103 H at_89 (z := 1) rfl 90 rfl ?_
    refine gGoto X103 H at_90 (by decide) 94 rfl ?_
    refine gIstore X103 H at_94 (Ls' := #[vJ p0, .second, vI p1, vI p2, vI p3, vI 0, vR b1, vR b31, vI (p3 &&& (3 : Int32)), vI 1, .unset, .unset, .unset, .unset, .unset, .unset]) rfl 96 rfl ?_
    refine gIload X103 H at_96 rfl 98 rfl ?_
    by_cases hc682 : (0 : Int32) < (p3 &&& (3 : Int32))
    · refine gIfN X103 H at_98 ((if0 _ _).trans (tlt hc682).2.2.2) 101 rfl ?_
      refine gAload X103 H at_101 rfl rfl 103 rfl ?_
      refine gIload X103 H at_103 rfl 105 rfl ?_
      refine gStatic X103 H hZ hown (hw _ wd107) (hw _ wd108) (by decide) (hw _ wd110) (hw _ wd109) (rm689_15 B b31 _ O103 f103_0 f103_4) rfl hml rfl pd9 rfl (W := 0) (argsL := [(.ref b31), (.int 1)]) (rest := []) rfl rfl at_105 108 rfl ?_
      intro v690 T690 L690 hq690 X690
      obtain ⟨rfl, e690, rfl⟩ := hq690
      have N690 := Fr.app N103 (Fr.nil _)
      show Go _ _ _ _ (State.setTop _ (mkF _ 108 _ []))
      refine gIload X690 H at_108 rfl 110 rfl ?_
      refine gIconst X690 H at_110 (z := 1) rfl 111 rfl ?_
      by_cases hc691 : (1 : Int32) < (p3 &&& (3 : Int32))
      · refine gCmpN X690 H at_111 (tlt hc691).2.2.2 114 rfl ?_
        refine gAload X690 H at_114 rfl rfl 116 rfl ?_
        refine gIload X690 H at_116 rfl 118 rfl ?_
        refine gStatic X690 H hZ hown (hw _ wd107) (hw _ wd108) (by decide) (hw _ wd110) (hw _ wd109) (rm689_15 B b31 _ O103 f103_0 f103_4) e690 hml rfl pd9 rfl (W := 0) (argsL := [(.ref b31), (.int 1)]) (rest := []) rfl rfl at_118 121 rfl ?_
        intro v692 T692 L692 hq692 X692
        obtain ⟨rfl, e692, rfl⟩ := hq692
        have N692 := Fr.app N690 (Fr.nil _)
        show Go _ _ _ _ (State.setTop _ (mkF _ 121 _ []))
        refine gIload X692 H at_121 rfl 123 rfl ?_
        refine gIconst X692 H at_123 (z := 2) rfl 124 rfl ?_
        by_cases hc693 : (2 : Int32) < (p3 &&& (3 : Int32))
        · refine gCmpN X692 H at_124 (tlt hc693).2.2.2 127 rfl ?_
          refine gAload X692 H at_127 rfl rfl 129 rfl ?_
          refine gIload X692 H at_129 rfl 131 rfl ?_
          refine gStatic X692 H hZ hown (hw _ wd107) (hw _ wd108) (by decide) (hw _ wd110) (hw _ wd109) (rm689_15 B b31 _ O103 f103_0 f103_4) e692 hml rfl pd9 rfl (W := 0) (argsL := [(.ref b31), (.int 1)]) (rest := []) rfl rfl at_131 134 rfl ?_
          intro v694 T694 L694 hq694 X694
          obtain ⟨rfl, e694, rfl⟩ := hq694
          have N694 := Fr.app N692 (Fr.nil _)
          show Go _ _ _ _ (State.setTop _ (mkF _ 134 _ []))
          have hP695 : (p3 &&& (3 : Int32)) = (3 : Int32) := pk3 hc693
          rw [hP695]
          refine gIload X694 H at_134 rfl 136 rfl ?_
          refine gIfN X694 H at_136 (by decide) 139 rfl ?_
          refine gIload X694 H at_139 rfl 141 rfl ?_
          refine gIload X694 H at_141 rfl 143 rfl ?_
          refine gStatic X694 H hZ hown (hw _ wd127) (hw _ wd128) (by decide) (hw _ wd129) (hw _ wd59) (rm696_19 B _ O103) e694 hml rfl pd2 rfl (W := 0) (argsL := [(.int 3), (.int 0)]) (rest := []) rfl rfl at_143 146 rfl ?_
          intro v697 T697 L697 hq697 X697
          obtain ⟨rfl, e697, rfl⟩ := hq697
          have N697 := Fr.app N694 (Fr.nil _)
          show Go _ _ _ _ (State.setTop _ (mkF _ 146 _ [(.int 0)]))
          refine gIstore X697 H at_146 (Ls' := #[vJ p0, .second, vI p1, vI p2, vI p3, vI 0, vR b1, vR b31, vI 3, vI 1, .unset, .unset, vI 0, .unset, .unset, .unset]) rfl 148 rfl ?_
          refine gIload X697 H at_148 rfl 150 rfl ?_
          refine gIload X697 H at_150 rfl 152 rfl ?_
          refine g_isub X697 H at_152 (z := 0) (by decide) 153 rfl ?_
          refine gIstore X697 H at_153 (Ls' := #[vJ p0, .second, vI p1, vI p2, vI p3, vI 0, vR b1, vR b31, vI 3, vI 1, .unset, .unset, vI 0, .unset, .unset, .unset]) rfl 155 rfl ?_
          refine gIload X697 H at_155 rfl 157 rfl ?_
          refine g_i2l X697 H at_157 (z := 0) (by decide) 158 rfl ?_
          refine gLstore X697 H at_158 (Ls' := #[vJ p0, .second, vI p1, vI p2, vI p3, vI 0, vR b1, vR b31, vI 3, vI 1, vJ 0, .second, vI 0, .unset, .unset, .unset]) rfl 160 rfl ?_
          refine gGoto X697 H at_160 (by decide) 176 rfl ?_
          exact tail698_176 B p0 p1 p2 p3 b1 b31 ((3 : Int32)) ((1 : Int32)) ((0 : Int64)) ((0 : Int32)) X697 H hml hZ hown hnm hret hlk N697 (by decide) (by decide) e697 O103 f103_0 f103_4 f103_5
        · refine gCmpY X692 H at_124 (flt hc693).2.2.2 (by decide) 134 rfl ?_
          have hP700 : (p3 &&& (3 : Int32)) = (2 : Int32) := pk2 hc691 hc693
          rw [hP700]
          refine gIload X692 H at_134 rfl 136 rfl ?_
          refine gIfN X692 H at_136 (by decide) 139 rfl ?_
          refine gIload X692 H at_139 rfl 141 rfl ?_
          refine gIload X692 H at_141 rfl 143 rfl ?_
          refine gStatic X692 H hZ hown (hw _ wd127) (hw _ wd128) (by decide) (hw _ wd129) (hw _ wd59) (rm701_19 B _ O103) e692 hml rfl pd2 rfl (W := 0) (argsL := [(.int 2), (.int 0)]) (rest := []) rfl rfl at_143 146 rfl ?_
          intro v702 T702 L702 hq702 X702
          obtain ⟨rfl, e702, rfl⟩ := hq702
          have N702 := Fr.app N692 (Fr.nil _)
          show Go _ _ _ _ (State.setTop _ (mkF _ 146 _ [(.int 0)]))
          refine gIstore X702 H at_146 (Ls' := #[vJ p0, .second, vI p1, vI p2, vI p3, vI 0, vR b1, vR b31, vI 2, vI 1, .unset, .unset, vI 0, .unset, .unset, .unset]) rfl 148 rfl ?_
          refine gIload X702 H at_148 rfl 150 rfl ?_
          refine gIload X702 H at_150 rfl 152 rfl ?_
          refine g_isub X702 H at_152 (z := 0) (by decide) 153 rfl ?_
          refine gIstore X702 H at_153 (Ls' := #[vJ p0, .second, vI p1, vI p2, vI p3, vI 0, vR b1, vR b31, vI 2, vI 1, .unset, .unset, vI 0, .unset, .unset, .unset]) rfl 155 rfl ?_
          refine gIload X702 H at_155 rfl 157 rfl ?_
          refine g_i2l X702 H at_157 (z := 0) (by decide) 158 rfl ?_
          refine gLstore X702 H at_158 (Ls' := #[vJ p0, .second, vI p1, vI p2, vI p3, vI 0, vR b1, vR b31, vI 2, vI 1, vJ 0, .second, vI 0, .unset, .unset, .unset]) rfl 160 rfl ?_
          refine gGoto X702 H at_160 (by decide) 176 rfl ?_
          exact tail698_176 B p0 p1 p2 p3 b1 b31 ((2 : Int32)) ((1 : Int32)) ((0 : Int64)) ((0 : Int32)) X702 H hml hZ hown hnm hret hlk N702 (by decide) (by decide) e702 O103 f103_0 f103_4 f103_5
      · refine gCmpY X690 H at_111 (flt hc691).2.2.2 (by decide) 121 rfl ?_
        refine gIload X690 H at_121 rfl 123 rfl ?_
        refine gIconst X690 H at_123 (z := 2) rfl 124 rfl ?_
        refine gCmpY X690 H at_124 (flt (fun q => hc691 (Int32.lt_trans (by decide) q))).2.2.2 (by decide) 134 rfl ?_
        have hP703 : (p3 &&& (3 : Int32)) = (1 : Int32) := pk1 hc682 hc691
        rw [hP703]
        refine gIload X690 H at_134 rfl 136 rfl ?_
        refine gIfN X690 H at_136 (by decide) 139 rfl ?_
        refine gIload X690 H at_139 rfl 141 rfl ?_
        refine gIload X690 H at_141 rfl 143 rfl ?_
        refine gStatic X690 H hZ hown (hw _ wd127) (hw _ wd128) (by decide) (hw _ wd129) (hw _ wd59) (rm704_19 B _ O103) e690 hml rfl pd2 rfl (W := 0) (argsL := [(.int 1), (.int 0)]) (rest := []) rfl rfl at_143 146 rfl ?_
        intro v705 T705 L705 hq705 X705
        obtain ⟨rfl, e705, rfl⟩ := hq705
        have N705 := Fr.app N690 (Fr.nil _)
        show Go _ _ _ _ (State.setTop _ (mkF _ 146 _ [(.int 0)]))
        refine gIstore X705 H at_146 (Ls' := #[vJ p0, .second, vI p1, vI p2, vI p3, vI 0, vR b1, vR b31, vI 1, vI 1, .unset, .unset, vI 0, .unset, .unset, .unset]) rfl 148 rfl ?_
        refine gIload X705 H at_148 rfl 150 rfl ?_
        refine gIload X705 H at_150 rfl 152 rfl ?_
        refine g_isub X705 H at_152 (z := 0) (by decide) 153 rfl ?_
        refine gIstore X705 H at_153 (Ls' := #[vJ p0, .second, vI p1, vI p2, vI p3, vI 0, vR b1, vR b31, vI 1, vI 1, .unset, .unset, vI 0, .unset, .unset, .unset]) rfl 155 rfl ?_
        refine gIload X705 H at_155 rfl 157 rfl ?_
        refine g_i2l X705 H at_157 (z := 0) (by decide) 158 rfl ?_
        refine gLstore X705 H at_158 (Ls' := #[vJ p0, .second, vI p1, vI p2, vI p3, vI 0, vR b1, vR b31, vI 1, vI 1, vJ 0, .second, vI 0, .unset, .unset, .unset]) rfl 160 rfl ?_
        refine gGoto X705 H at_160 (by decide) 176 rfl ?_
        exact tail698_176 B p0 p1 p2 p3 b1 b31 ((1 : Int32)) ((1 : Int32)) ((0 : Int64)) ((0 : Int32)) X705 H hml hZ hown hnm hret hlk N705 (by decide) (by decide) e705 O103 f103_0 f103_4 f103_5
    · refine gIfY X103 H at_98 ((if0 _ _).trans (flt hc682).2.2.2) (by decide) 108 rfl ?_
      refine gIload X103 H at_108 rfl 110 rfl ?_
      refine gIconst X103 H at_110 (z := 1) rfl 111 rfl ?_
      refine gCmpY X103 H at_111 (flt (fun q => hc682 (Int32.lt_trans (by decide) q))).2.2.2 (by decide) 121 rfl ?_
      refine gIload X103 H at_121 rfl 123 rfl ?_
      refine gIconst X103 H at_123 (z := 2) rfl 124 rfl ?_
      refine gCmpY X103 H at_124 (flt (fun q => hc682 (Int32.lt_trans (by decide) q))).2.2.2 (by decide) 134 rfl ?_
      have hP706 : (p3 &&& (3 : Int32)) = (0 : Int32) := pk0 hc682
      rw [hP706]
      refine gIload X103 H at_134 rfl 136 rfl ?_
      refine gIfN X103 H at_136 (by decide) 139 rfl ?_
      refine gIload X103 H at_139 rfl 141 rfl ?_
      refine gIload X103 H at_141 rfl 143 rfl ?_
      refine gStatic X103 H hZ hown (hw _ wd127) (hw _ wd128) (by decide) (hw _ wd129) (hw _ wd59) (rm707_19 B _ O103) rfl hml rfl pd2 rfl (W := 0) (argsL := [(.int 0), (.int 0)]) (rest := []) rfl rfl at_143 146 rfl ?_
      intro v708 T708 L708 hq708 X708
      obtain ⟨rfl, e708, rfl⟩ := hq708
      have N708 := Fr.app N103 (Fr.nil _)
      show Go _ _ _ _ (State.setTop _ (mkF _ 146 _ [(.int 0)]))
      refine gIstore X708 H at_146 (Ls' := #[vJ p0, .second, vI p1, vI p2, vI p3, vI 0, vR b1, vR b31, vI 0, vI 1, .unset, .unset, vI 0, .unset, .unset, .unset]) rfl 148 rfl ?_
      refine gIload X708 H at_148 rfl 150 rfl ?_
      refine gIload X708 H at_150 rfl 152 rfl ?_
      refine g_isub X708 H at_152 (z := 0) (by decide) 153 rfl ?_
      refine gIstore X708 H at_153 (Ls' := #[vJ p0, .second, vI p1, vI p2, vI p3, vI 0, vR b1, vR b31, vI 0, vI 1, .unset, .unset, vI 0, .unset, .unset, .unset]) rfl 155 rfl ?_
      refine gIload X708 H at_155 rfl 157 rfl ?_
      refine g_i2l X708 H at_157 (z := 0) (by decide) 158 rfl ?_
      refine gLstore X708 H at_158 (Ls' := #[vJ p0, .second, vI p1, vI p2, vI p3, vI 0, vR b1, vR b31, vI 0, vI 1, vJ 0, .second, vI 0, .unset, .unset, .unset]) rfl 160 rfl ?_
      refine gGoto X708 H at_160 (by decide) 176 rfl ?_
      exact tail698_176 B p0 p1 p2 p3 b1 b31 ((0 : Int32)) ((1 : Int32)) ((0 : Int64)) ((0 : Int32)) X708 H hml hZ hown hnm hret hlk N708 (by decide) (by decide) e708 O103 f103_0 f103_4 f103_5
theorem rm714_5 (B : Bg Z a0 wE0 w_cacheI k_wE0 cl_cacheI) (h : Heap) (O : Ext Z.heap h) :
    Con l Z yM5 jdk_33_method_22_code 1 (some (.object "java/lang/Integer")) ({ frames := 0, cells := 0, slots := 0, locals := 0 } : Room) #[(.int 10)] h (fun v h' L => ∃ (b713 : Addr), v = some (.ref b713) ∧ Fr Z.heap.size L ∧ Keep h h' [] ∧ Exa Z h' b713 cs4) := by
  have hw := B.1
  obtain ⟨S_wE0, V_wE0, S_high, S_cacheI, B_cacheI⟩ := B.2
  refine Con.of (plainFor_of_name pn5) (Ls := #[vI 10]) (fun _ => rfl) ?_
  intro p e s m below meth c T0 X0 H hml hZ hown hnm hret hlk e0
  have N0 := Fr.nil Z.heap.size
  refine gIloadN X0 H d5_0 rfl 1 rfl ?_
  refine gBipush X0 H d5_1 (z := (-128)) rfl 3 rfl ?_
  refine gCmpN X0 H d5_3 (by decide) 6 rfl ?_
  refine gIloadN X0 H d5_6 rfl 7 rfl ?_
  refine gGetS X0 H hZ hown (hw _ wd30) e0 (S_high.ext O) d5_7 10 rfl ?_
  intro T711 X711 e711
  refine gCmpN X711 H d5_10 (by decide) 13 rfl ?_
  refine gGetS X711 H hZ hown (hw _ wd32) e711 (S_cacheI.ext O) d5_13 16 rfl ?_
  intro T712 X712 e712
  refine gIloadN X712 H d5_16 rfl 17 rfl ?_
  refine gSipush X712 H d5_17 (z := 128) rfl 20 rfl ?_
  refine g_iadd X712 H d5_20 (z := 138) (by decide) 21 rfl ?_
  obtain ⟨b713, q713, A713, f713⟩ := B_cacheI.2.2.2 (138 : Int32) (inb_of B_cacheI.2.1 ⟨by decide, by decide⟩)
  refine gBoxload X712 H hZ e712 rfl (B_cacheI.1.ext O) (inb_of B_cacheI.2.1 ⟨by decide, by decide⟩) q713 d5_21 22 rfl ?_
  exact gRetA X712 H hlk hret rfl rfl rfl d5_22 e712 ⟨b713, rfl, N0, (Keep.refl h []), (A713.ext O)⟩
theorem rm739_10 (B : Bg Z a0 wE0 w_cacheI k_wE0 cl_cacheI) (h : Heap) (O : Ext Z.heap h) :
    Con l Z yM10 jdk_29_method_65_code 2 (some .int) ({ frames := 0, cells := 0, slots := 0, locals := 0 } : Room) #[(.int 10), (.int 1)] h (fun v h' L => v = some (.int 10) ∧ h' = h ∧ L = []) := by
  refine Con.of (Jvm.Free.JP.mathPlain rfl (by decide +kernel)) (Ls := #[vI 10, vI 1]) (fun _ => rfl) ?_
  intro p e s m below meth c T0 X0 H hml hZ hown hnm hret hlk e0
  refine gIloadN X0 H d10_0 rfl 1 rfl ?_
  refine gIloadN X0 H d10_1 rfl 2 rfl ?_
  refine gCmpN X0 H d10_2 (by decide) 5 rfl ?_
  refine gIloadN X0 H d10_5 rfl 6 rfl ?_
  refine gGoto X0 H d10_6 (by decide) 10 rfl ?_
  exact gRetI X0 H hlk hret d10_10 e0 ⟨rfl, rfl, rfl⟩
theorem rm755_9 (B : Bg Z a0 wE0 w_cacheI k_wE0 cl_cacheI) (ro0 : Addr) (h : Heap) (O : Ext Z.heap h) (q734 : Fld Z h ro0 cs1 "elementData" cs2 (.ref wE0)) (q743 : Exa Z h ro0 cs1) (q746 : Z.heap.size ≤ ro0) (q748 : Fld Z h ro0 cs1 "size" "I" (.int 0)) (q750 : Fld Z h ro0 cs0 "modCount" "I" (.int 1)) :
    Con l Z yM9 jdk_38_method_6_code 4 (some (.array (.object "java/lang/Object"))) ({ frames := 1, cells := 1, slots := 10, locals := 14 } : Room) #[(.ref ro0), (.int 1)] h (fun v h' L => ∃ (b741 : Addr) (k741 : ClassId), v = some (.ref b741) ∧ Fr Z.heap.size L ∧ Keep h h' [ro0] ∧ h.size ≤ b741 ∧ Fld Z h' ro0 cs1 "elementData" cs2 (.ref b741) ∧ Arv Z h' b741 k741 (.object "java/lang/Object") (10 : Int32) [.null, .null, .null, .null, .null, .null, .null, .null, .null, .null] .null ∧ Exa Z h' ro0 cs1 ∧ Fld Z h' ro0 cs1 "size" "I" (.int 0) ∧ Fld Z h' ro0 cs0 "modCount" "I" (.int 1) ∧ Ovr Z k741 "java/lang/Object") := by
  have hw := B.1
  obtain ⟨S_wE0, V_wE0, S_high, S_cacheI, B_cacheI⟩ := B.2
  refine Con.of (plainFor_of_name pn9) (Ls := #[vR ro0, vI 1, .unset, .unset]) (fun _ => rfl) ?_
  intro p e s m below meth c T0 X0 H hml hZ hown hnm hret hlk e0
  have M0 := Nat.le_refl h.size
  have N0 := Fr.nil Z.heap.size
  refine gAloadN X0 H d9_0 rfl rfl 1 rfl ?_
  refine gGetF X0 H hZ hown (hw _ wd24) Via.refl e0 q734 d9_1 4 rfl ?_
  intro T735 X735 e735
  refine gLen X735 H hZ e735 (Arv.arl (V_wE0.ext O)) d9_4 5 rfl ?_
  refine gIstoreN X735 H d9_5 (Ls' := #[vR ro0, vI 1, vI 0, .unset]) rfl 6 rfl ?_
  refine gIloadN X735 H d9_6 rfl 7 rfl ?_
  refine gIfN X735 H d9_7 (by decide) 10 rfl ?_
  refine gAloadN X735 H d9_10 rfl rfl 11 rfl ?_
  refine gGetF X735 H hZ hown (hw _ wd24) Via.refl e735 q734 d9_11 14 rfl ?_
  intro T737 X737 e737
  refine gGetS X737 H hZ hown (hw _ wd23) e737 (S_wE0.ext O) d9_14 17 rfl ?_
  intro T738 X738 e738
  refine gAcmp X738 H d9_17 rfl rfl (same := true) (decide_eq_true rfl) (by decide) 45 (by decide) ?_
  refine gAloadN X738 H d9_45 rfl rfl 46 rfl ?_
  refine gBipush X738 H d9_46 (z := 10) rfl 48 rfl ?_
  refine gIloadN X738 H d9_48 rfl 49 rfl ?_
  refine gStatic X738 H hZ hown (hw _ wd57) (hw _ wd58) (by decide) (hw _ wd60) (hw _ wd59) (rm739_10 B _ O) e738 hml rfl pd2 rfl (W := 1) (argsL := [(.int 10), (.int 1)]) (rest := [(.ref ro0)]) rfl rfl d9_49 52 rfl ?_
  intro v740 T740 L740 hq740 X740
  obtain ⟨rfl, e740, rfl⟩ := hq740
  have N740 := Fr.app N0 (Fr.nil _)
  show Go _ _ _ _ (State.setTop _ (mkF _ 52 _ [(.int 10), (.ref ro0)]))
  refine gNewR X740 H hZ hown (hw _ wd61) (hw _ wd62) e740 (by decide) (cap := 10) (by decide) (by decide) (vs := [.null, .null, .null, .null, .null, .null, .null, .null, .null, .null]) rfl (by decide) (by decide) d9_52 55 rfl ?_
  intro T741 h741 b741 k741 X741 e741 z741 E741 V741 Q741
  have G_b741 := Nat.le_trans O.1 (Nat.le_of_eq z741)
  have sz_b741 := Nat.le_trans M0 (Nat.le_of_eq z741)
  have O741 := extT O E741
  refine gDupX1 X741 H d9_55 rfl rfl 56 rfl ?_
  have c744 := (q743.ext E741)
  have c745 := (q734.ext E741)
  refine gPutF X741 H hZ hown (hw _ wd24) Via.refl e741 c745 c744 (Or.inl (hw _ wd25)) (hw _ wd1) (ty := (.array (.object "java/lang/Object"))) (by decide) (v' := (.ref b741)) rfl rfl d9_56 59 rfl ?_
  intro T742 h742 X742 e742 W742 F742
  have O742 := extW O741 W742 q746
  have N742 := Fr.snoc X742 N740 q746
  have c747 := (c744.wr W742)
  have c749 := ((q748.ext E741).other W742 (Or.inr (sn3 hw)))
  have c751 := ((q750.ext E741).other W742 (Or.inr (sn2 hw)))
  have c752 := (V741.other W742 (Ne.symm (neB q734.lt sz_b741)))
  have K_753 := (Keep.refl h [ro0]).ext E741
  have K_754 := K_753.wr W742 (Or.inl (List.mem_of_getElem? (i := 0) rfl))
  exact gRetA X742 H hlk hret rfl rfl rfl d9_59 e742 ⟨b741, k741, rfl, N742, K_754, sz_b741, F742, c752, c747, c749, c751, Q741⟩
theorem rm761_8 (B : Bg Z a0 wE0 w_cacheI k_wE0 cl_cacheI) (ro0 : Addr) (h : Heap) (O : Ext Z.heap h) (q731 : Fld Z h ro0 cs1 "size" "I" (.int 0)) (q733 : Exa Z h ro0 cs1) (q756 : Fld Z h ro0 cs1 "elementData" cs2 (.ref wE0)) (q757 : Z.heap.size ≤ ro0) (q758 : Fld Z h ro0 cs0 "modCount" "I" (.int 1)) :
    Con l Z yM8 jdk_38_method_7_code 1 (some (.array (.object "java/lang/Object"))) ({ frames := 2, cells := 1, slots := 10, locals := 29 } : Room) #[(.ref ro0)] h (fun v h' L => ∃ (b759_0 : Addr) (k759_0 : ClassId), v = some (.ref b759_0) ∧ Fr Z.heap.size L ∧ Keep h h' [ro0] ∧ h.size ≤ b759_0 ∧ Fld Z h' ro0 cs1 "size" "I" (.int 0) ∧ Exa Z h' ro0 cs1 ∧ Fld Z h' ro0 cs1 "elementData" cs2 (.ref b759_0) ∧ Fld Z h' ro0 cs0 "modCount" "I" (.int 1) ∧ Arv Z h' b759_0 k759_0 (.object "java/lang/Object") (10 : Int32) [.null, .null, .null, .null, .null, .null, .null, .null, .null, .null] .null ∧ Ovr Z k759_0 "java/lang/Object") := by
  have hw := B.1
  refine Con.of (plainFor_of_name pn8) (Ls := #[vR ro0]) (fun _ => rfl) ?_
  intro p e s m below meth c T0 X0 H hml hZ hown hnm hret hlk e0
  have M0 := Nat.le_refl h.size
  have N0 := Fr.nil Z.heap.size
  refine gAloadN X0 H d8_0 rfl rfl 1 rfl ?_
  refine gAloadN X0 H d8_1 rfl rfl 2 rfl ?_
  refine gGetF X0 H hZ hown (hw _ wd40) Via.refl e0 q731 d8_2 5 rfl ?_
  intro T732 X732 e732
  refine gIconst X732 H d8_5 (z := 1) rfl 6 rfl ?_
  refine g_iadd X732 H d8_6 (z := 1) (by decide) 7 rfl ?_
  refine gPrivate X732 H hZ hown (hw _ wd52) (hw _ wd53) (hw _ wd54) (hw _ wd1) (by decide) q733 (hw _ wd56) (hw _ wd2) (rm755_9 B ro0 _ O q756 q733 q757 q731 q758) e732 hml rfl pd14 rfl (W := 0) (argsL := [(.int 1)]) (rest := []) rfl rfl d8_7 10 rfl ?_
  intro v759 T759 L759 hq759 X759
  obtain ⟨b759_0, k759_0, rfl, N759q, K759, s759_0, f759_0, f759_1, f759_2, f759_3, f759_4, f759_5⟩ := hq759
  have G_b759_0 := Nat.le_trans O.1 s759_0
  have sz_b759_0 := Nat.le_trans M0 s759_0
  have O759 := extK O K759 (allS q757 all0)
  have N759 := Fr.app N0 N759q
  show Go _ _ _ _ (State.setTop _ (mkF _ 10 _ [(.ref b759_0)]))
  have K_760 := (Keep.refl h [ro0]).trans K759 (allS (Or.inl (List.mem_of_getElem? (i := 0) rfl)) all0)
  exact gRetA X759 H hlk hret rfl rfl rfl d8_10 rfl ⟨b759_0, k759_0, rfl, N759, K_760, sz_b759_0, f759_3, f759_2, f759_0, f759_4, f759_1, f759_5⟩
theorem rm780_7 (B : Bg Z a0 wE0 w_cacheI k_wE0 cl_cacheI) (ro0 ro1 : Addr) (h : Heap) (O : Ext Z.heap h) (q730 : Exa Z h ro0 cs1) (q762 : Fld Z h ro0 cs1 "size" "I" (.int 0)) (q763 : Fld Z h ro0 cs1 "elementData" cs2 (.ref wE0)) (q764 : Z.heap.size ≤ ro0) (q765 : Fld Z h ro0 cs0 "modCount" "I" (.int 1)) (q768 : Exa Z h ro1 cs4) :
    Con l Z yM7 jdk_38_method_24_code 4 none ({ frames := 3, cells := 1, slots := 10, locals := 41 } : Room) #[(.ref ro0), (.ref ro1), (.ref wE0), (.int 0)] h (fun v h' L => ∃ (b766_0 : Addr) (k766_0 : ClassId), v = none ∧ Fr Z.heap.size L ∧ Keep h h' [ro0] ∧ h.size ≤ b766_0 ∧ Exa Z h' ro0 cs1 ∧ Fld Z h' ro0 cs1 "size" "I" (.int 1) ∧ Fld Z h' ro0 cs1 "elementData" cs2 (.ref b766_0) ∧ Fld Z h' ro0 cs0 "modCount" "I" (.int 1) ∧ Arv Z h' b766_0 k766_0 (.object "java/lang/Object") (10 : Int32) [(.ref ro1), .null, .null, .null, .null, .null, .null, .null, .null, .null] .null ∧ Ovr Z k766_0 "java/lang/Object") := by
  have hw := B.1
  obtain ⟨S_wE0, V_wE0, S_high, S_cacheI, B_cacheI⟩ := B.2
  refine Con.of (plainFor_of_name pn7) (Ls := #[vR ro0, vR ro1, vR wE0, vI 0]) (fun _ => rfl) ?_
  intro p e s m below meth c T0 X0 H hml hZ hown hnm hret hlk e0
  have M0 := Nat.le_refl h.size
  have N0 := Fr.nil Z.heap.size
  refine gIloadN X0 H d7_0 rfl 1 rfl ?_
  refine gAloadN X0 H d7_1 rfl rfl 2 rfl ?_
  refine gLen X0 H hZ e0 (Arv.arl (V_wE0.ext O)) d7_2 3 rfl ?_
  refine gCmpN X0 H d7_3 (by decide) 6 rfl ?_
  refine gAloadN X0 H d7_6 rfl rfl 7 rfl ?_
  refine gPrivate X0 H hZ hown (hw _ wd47) (hw _ wd48) (hw _ wd49) (hw _ wd1) (by decide) q730 (hw _ wd51) (hw _ wd2) (rm761_8 B ro0 _ O q762 q730 q763 q764 q765) e0 hml rfl pd15 rfl (W := 0) (argsL := []) (rest := []) rfl rfl d7_7 10 rfl ?_
  intro v766 T766 L766 hq766 X766
  obtain ⟨b766_0, k766_0, rfl, N766q, K766, s766_0, f766_0, f766_1, f766_2, f766_3, f766_4, f766_5⟩ := hq766
  have G_b766_0 := Nat.le_trans O.1 s766_0
  have sz_b766_0 := Nat.le_trans M0 s766_0
  have O766 := extK O K766 (allS q764 all0)
  have N766 := Fr.app N0 N766q
  show Go _ _ _ _ (State.setTop _ (mkF _ 10 _ [(.ref b766_0)]))
  refine gAstoreN X766 H d7_10 rfl (Ls' := #[vR ro0, vR ro1, vR b766_0, vI 0]) rfl 11 rfl ?_
  refine gAloadN X766 H d7_11 rfl rfl 12 rfl ?_
  refine gIloadN X766 H d7_12 rfl 13 rfl ?_
  refine gAloadN X766 H d7_13 rfl rfl 14 rfl ?_
  have c769 := (q768.keep K766)
  refine gAastore X766 H hZ rfl rfl (stoV f766_4 f766_5 (Ins.of_exa c769 (hw _ wd63))) f766_4 ⟨by decide, by decide⟩ (i := 0) rfl (Nat.le_of_ble_eq_true rfl) (vs' := [(.ref ro1), .null, .null, .null, .null, .null, .null, .null, .null, .null]) rfl d7_14 15 rfl ?_
  intro T767 h767 X767 e767 W767 V767
  have O767 := extW O766 W767 G_b766_0
  have N767 := Fr.snoc X767 N766 G_b766_0
  refine gAloadN X767 H d7_15 rfl rfl 16 rfl ?_
  refine gIloadN X767 H d7_16 rfl 17 rfl ?_
  refine gIconst X767 H d7_17 (z := 1) rfl 18 rfl ?_
  refine g_iadd X767 H d7_18 (z := 1) (by decide) 19 rfl ?_
  have c771 := (f766_1.wr W767)
  have c772 := (f766_0.other W767 (Or.inl (neB q730.lt sz_b766_0)))
  refine gPutF X767 H hZ hown (hw _ wd40) Via.refl e767 c772 c771 (Or.inl (hw _ wd41)) (hw _ wd1) (ty := .int) (by decide) (v' := (.int 1)) rfl rfl d7_19 22 rfl ?_
  intro T770 h770 X770 e770 W770 F770
  have O770 := extW O767 W770 q764
  have N770 := Fr.snoc X770 N767 q764
  have c773 := (c771.wr W770)
  have c774 := ((f766_2.other W767 (Or.inl (neB q730.lt sz_b766_0))).other W770 (Or.inr (sn24 hw)))
  have c775 := ((f766_3.other W767 (Or.inl (neB q730.lt sz_b766_0))).other W770 (Or.inr (sn25 hw)))
  have c776 := (V767.other W770 (Ne.symm (neB q730.lt sz_b766_0)))
  have K_777 := (Keep.refl h [ro0]).trans K766 (allS (Or.inl (List.mem_of_getElem? (i := 0) rfl)) all0)
  have K_778 := K_777.wr W767 (Or.inr sz_b766_0)
  have K_779 := K_778.wr W770 (Or.inl (List.mem_of_getElem? (i := 0) rfl))
  exact gRetV X770 H hlk hret d7_22 e770 ⟨b766_0, k766_0, rfl, N770, K_779, sz_b766_0, c773, F770, c774, c775, c776, f766_5⟩
theorem rm787_6 (B : Bg Z a0 wE0 w_cacheI k_wE0 cl_cacheI) (ro0 ro1 : Addr) (h : Heap) (O : Ext Z.heap h) (q717 : Fld Z h ro0 cs0 "modCount" "I" (.int 0)) (q720 : Exa Z h ro0 cs1) (q721 : Z.heap.size ≤ ro0) (q722 : Fld Z h ro0 cs1 "elementData" cs2 (.ref wE0)) (q725 : Fld Z h ro0 cs1 "size" "I" (.int 0)) (q781 : Exa Z h ro1 cs4) :
    Con l Z yM6 jdk_38_method_25_code 2 (some .boolean) ({ frames := 4, cells := 1, slots := 10, locals := 56 } : Room) #[(.ref ro0), (.ref ro1)] h (fun v h' L => ∃ (b783_0 : Addr) (k783_0 : ClassId), v = some (.int 1) ∧ Fr Z.heap.size L ∧ Keep h h' [ro0] ∧ h.size ≤ b783_0 ∧ Fld Z h' ro0 cs0 "modCount" "I" (.int 1) ∧ Exa Z h' ro0 cs1 ∧ Fld Z h' ro0 cs1 "elementData" cs2 (.ref b783_0) ∧ Fld Z h' ro0 cs1 "size" "I" (.int 1) ∧ Arv Z h' b783_0 k783_0 (.object "java/lang/Object") (10 : Int32) [(.ref ro1), .null, .null, .null, .null, .null, .null, .null, .null, .null] .null ∧ Ovr Z k783_0 "java/lang/Object") := by
  have hw := B.1
  refine Con.of (plainFor_of_name pn6) (Ls := #[vR ro0, vR ro1]) (fun _ => rfl) ?_
  intro p e s m below meth c T0 X0 H hml hZ hown hnm hret hlk e0
  have M0 := Nat.le_refl h.size
  have N0 := Fr.nil Z.heap.size
  refine gAloadN X0 H d6_0 rfl rfl 1 rfl ?_
  refine gDup X0 H d6_1 rfl 2 rfl ?_
  refine gGetF X0 H hZ hown (hw _ wd38) (Via.of (hw _ wd39)) e0 q717 d6_2 5 rfl ?_
  intro T718 X718 e718
  refine gIconst X718 H d6_5 (z := 1) rfl 6 rfl ?_
  refine g_iadd X718 H d6_6 (z := 1) (by decide) 7 rfl ?_
  refine gPutF X718 H hZ hown (hw _ wd38) (Via.of (hw _ wd39)) e718 q717 q720 (Or.inl (hw _ wd22)) (hw _ wd1) (ty := .int) (by decide) (v' := (.int 1)) rfl rfl d6_7 10 rfl ?_
  intro T719 h719 X719 e719 W719 F719
  have O719 := extW O W719 q721
  have N719 := Fr.snoc X719 N0 q721
  refine gAloadN X719 H d6_10 rfl rfl 11 rfl ?_
  refine gAloadN X719 H d6_11 rfl rfl 12 rfl ?_
  refine gAloadN X719 H d6_12 rfl rfl 13 rfl ?_
  have c723 := (q722.other W719 (Or.inr (sn0 hw)))
  refine gGetF X719 H hZ hown (hw _ wd24) Via.refl e719 c723 d6_13 16 rfl ?_
  intro T724 X724 e724
  refine gAloadN X724 H d6_16 rfl rfl 17 rfl ?_
  have c726 := (q725.other W719 (Or.inr (sn1 hw)))
  refine gGetF X724 H hZ hown (hw _ wd40) Via.refl e724 c726 d6_17 20 rfl ?_
  intro T727 X727 e727
  have c728 := (q720.wr W719)
  have c782 := (q781.wr W719)
  refine gPrivate X727 H hZ hown (hw _ wd42) (hw _ wd43) (hw _ wd44) (hw _ wd1) (by decide) c728 (hw _ wd46) (hw _ wd2) (rm780_7 B ro0 ro1 _ O719 c728 c726 c723 q721 F719 c782) e727 hml rfl pd16 rfl (W := 0) (argsL := [(.ref ro1), (.ref wE0), (.int 0)]) (rest := []) rfl rfl d6_20 23 rfl ?_
  intro v783 T783 L783 hq783 X783
  obtain ⟨b783_0, k783_0, rfl, N783q, K783, s783_0, f783_0, f783_1, f783_2, f783_3, f783_4, f783_5⟩ := hq783
  have M784 := (leW M0 W719)
  have G_b783_0 := Nat.le_trans O719.1 s783_0
  have sz_b783_0 := Nat.le_trans M784 s783_0
  have O783 := extK O719 K783 (allS q721 all0)
  have N783 := Fr.app N719 N783q
  show Go _ _ _ _ (State.setTop _ (mkF _ 23 _ []))
  refine gIconst X783 H d6_23 (z := 1) rfl 24 rfl ?_
  have K_785 := (Keep.refl h [ro0]).wr W719 (Or.inl (List.mem_of_getElem? (i := 0) rfl))
  have K_786 := K_785.trans K783 (allS (Or.inl (List.mem_of_getElem? (i := 0) rfl)) all0)
  exact gRetN X783 H hlk hret (t := .boolean) (by simp) d6_24 rfl ⟨b783_0, k783_0, rfl, N783, K_786, sz_b783_0, f783_3, f783_0, f783_2, f783_1, f783_4, f783_5⟩
theorem rm805_12 (B : Bg Z a0 wE0 w_cacheI k_wE0 cl_cacheI) (ro0 : Addr) (h : Heap) (O : Ext Z.heap h) (q803 : Fld Z h ro0 cs1 "size" "I" (.int 1)) :
    Con l Z yM12 jdk_38_method_8_code 1 (some .int) ({ frames := 0, cells := 0, slots := 0, locals := 0 } : Room) #[(.ref ro0)] h (fun v h' L => v = some (.int 1) ∧ h' = h ∧ L = []) := by
  have hw := B.1
  refine Con.of (plainFor_of_name pn12) (Ls := #[vR ro0]) (fun _ => rfl) ?_
  intro p e s m below meth c T0 X0 H hml hZ hown hnm hret hlk e0
  refine gAloadN X0 H d12_0 rfl rfl 1 rfl ?_
  refine gGetF X0 H hZ hown (hw _ wd40) Via.refl e0 q803 d12_1 4 rfl ?_
  intro T804 X804 e804
  exact gRetI X804 H hlk hret d12_4 e804 ⟨rfl, rfl, rfl⟩
theorem rm810_10 (B : Bg Z a0 wE0 w_cacheI k_wE0 cl_cacheI) (h : Heap) (O : Ext Z.heap h) :
    Con l Z yM10 jdk_29_method_65_code 2 (some .int) ({ frames := 0, cells := 0, slots := 0, locals := 0 } : Room) #[(.int 1), (.int 1)] h (fun v h' L => v = some (.int 1) ∧ h' = h ∧ L = []) := by
  refine Con.of (Jvm.Free.JP.mathPlain rfl (by decide +kernel)) (Ls := #[vI 1, vI 1]) (fun _ => rfl) ?_
  intro p e s m below meth c T0 X0 H hml hZ hown hnm hret hlk e0
  refine gIloadN X0 H d10_0 rfl 1 rfl ?_
  refine gIloadN X0 H d10_1 rfl 2 rfl ?_
  refine gCmpN X0 H d10_2 (by decide) 5 rfl ?_
  refine gIloadN X0 H d10_5 rfl 6 rfl ?_
  refine gGoto X0 H d10_6 (by decide) 10 rfl ?_
  exact gRetI X0 H hlk hret d10_10 e0 ⟨rfl, rfl, rfl⟩
theorem rm833_13 (B : Bg Z a0 wE0 w_cacheI k_wE0 cl_cacheI) (ro0 ro1 ro2 : Addr) (ck3 : ClassId) (ro4 : Addr) (ck5 : ClassId) (h : Heap) (O : Ext Z.heap h) (q816 : Arl Z h ro1 (1 : Int32)) (q817 : Fld Z h ro0 cs1 "size" "I" (.int 1)) (q819 : Fld Z h ro0 cs1 "elementData" cs2 (.ref ro2)) (q822 : Arv Z h ro2 ck3 (.object "java/lang/Object") (10 : Int32) [(.ref ro4), .null, .null, .null, .null, .null, .null, .null, .null, .null] .null) (q823 : Arv Z h ro1 ck5 (.object "java/lang/Object") (1 : Int32) [.null] .null) (q825 : Exa Z h ro4 cs4) (q826 : Ovr Z ck5 "java/lang/Object") (q827 : Z.heap.size ≤ ro1) (q829 : ro0 ≠ ro1) :
    Con l Z yM13 jdk_38_method_17_code 2 (some (.array (.object "java/lang/Object"))) ({ frames := 1, cells := 0, slots := 0, locals := 18 } : Room) #[(.ref ro0), (.ref ro1)] h (fun v h' L => v = some (.ref ro1) ∧ Fr Z.heap.size L ∧ Keep h h' [ro1] ∧ Arv Z h' ro1 ck5 (.object "java/lang/Object") (1 : Int32) [(.ref ro4)] .null) := by
  have hw := B.1
  refine Con.of (plainFor_of_name pn13) (Ls := #[vR ro0, vR ro1]) (fun _ => rfl) ?_
  intro p e s m below meth c T0 X0 H hml hZ hown hnm hret hlk e0
  have N0 := Fr.nil Z.heap.size
  refine gAloadN X0 H d13_0 rfl rfl 1 rfl ?_
  refine gLen X0 H hZ e0 q816 d13_1 2 rfl ?_
  refine gAloadN X0 H d13_2 rfl rfl 3 rfl ?_
  refine gGetF X0 H hZ hown (hw _ wd40) Via.refl e0 q817 d13_3 6 rfl ?_
  intro T818 X818 e818
  refine gCmpY X818 H d13_6 (by decide) (by decide) 25 rfl ?_
  refine gAloadN X818 H d13_25 rfl rfl 26 rfl ?_
  refine gGetF X818 H hZ hown (hw _ wd24) Via.refl e818 q819 d13_26 29 rfl ?_
  intro T820 X820 e820
  refine gIconst X820 H d13_29 (z := 0) rfl 30 rfl ?_
  refine gAloadN X820 H d13_30 rfl rfl 31 rfl ?_
  refine gIconst X820 H d13_31 (z := 0) rfl 32 rfl ?_
  refine gAloadN X820 H d13_32 rfl rfl 33 rfl ?_
  refine gGetF X820 H hZ hown (hw _ wd40) Via.refl e820 q817 d13_33 36 rfl ?_
  intro T821 X821 e821
  refine gCopy X821 H hZ hown (hw _ wd92) (hw _ wd95) (hw _ wd93) (hw _ wd94) e821 q822 q823 (us := [(.ref ro4)]) (Or.inr ⟨rfl, rfl, ⟨(stoV q823 q826 (Ins.of_exa q825 (hw _ wd63))), trivial⟩⟩) (by decide) (by decide) (by decide) (by decide) (by decide) rfl (Nat.le_of_ble_eq_true rfl) N0 q827 hml rfl (V := 0) (by decide) (Nat.le_of_eq rfl) (by decide) (vd' := [(.ref ro4)]) rfl d13_36 39 rfl ?_
  intro T824 h824 L824 X824 e824 N824c K824 V824
  have O824 := extK O K824 (allS q827 all0)
  refine gAloadN X824 H d13_39 rfl rfl 40 rfl ?_
  refine gLen X824 H hZ e824 (Arv.arl V824) d13_40 41 rfl ?_
  refine gAloadN X824 H d13_41 rfl rfl 42 rfl ?_
  have c830 := (q817.keep K824 (ninS q829 nin0))
  refine gGetF X824 H hZ hown (hw _ wd40) Via.refl e824 c830 d13_42 45 rfl ?_
  intro T831 X831 e831
  refine gCmpY X831 H d13_45 (by decide) (by decide) 55 rfl ?_
  refine gAloadN X831 H d13_55 rfl rfl 56 rfl ?_
  have K_832 := (Keep.refl h [ro1]).trans K824 (allS (Or.inl (List.mem_of_getElem? (i := 0) rfl)) all0)
  exact gRetA X831 H hlk hret rfl rfl rfl d13_56 e831 ⟨rfl, N824c, K_832, V824⟩
theorem rm867_11 (B : Bg Z a0 wE0 w_cacheI k_wE0 cl_cacheI) (ro0 ro1 ro2 : Addr) (ck3 : ClassId) (ro4 : Addr) (h : Heap) (O : Ext Z.heap h) (q798 : Exa Z h ro0 cs3) (q799 : Fld Z h ro0 cs3 "serial" "I" (.int 0)) (q800 : Z.heap.size ≤ ro0) (q801 : Exa Z h ro1 cs1) (q806 : Fld Z h ro1 cs1 "size" "I" (.int 1)) (q807 : ro1 ≠ ro0) (q835 : Fld Z h ro1 cs1 "elementData" cs2 (.ref ro2)) (q837 : Arv Z h ro2 ck3 (.object "java/lang/Object") (10 : Int32) [(.ref ro4), .null, .null, .null, .null, .null, .null, .null, .null, .null] .null) (q838 : ro2 ≠ ro0) (q840 : Exa Z h ro4 cs4) (q845 : Fld Z h ro0 cs3 "buffer" cs2 .null) (q852 : Fld Z h ro0 cs3 "size" "I" (.int 0)) (q857 : Fld Z h ro0 cs3 "firstNumber" "J" (.long 0)) (q859 : Fld Z h ro0 cs3 "head" "I" (.int 0)) :
    Con l Z yM11 prog_50_method_1_code 3 none ({ frames := 2, cells := 1, slots := 1, locals := 32 } : Room) #[(.ref ro0), (.int 1), (.ref ro1)] h (fun v h' L => ∃ (b812 : Addr) (k812 : ClassId), v = none ∧ Fr Z.heap.size L ∧ Keep h h' [ro0] ∧ h.size ≤ b812 ∧ Exa Z h' ro0 cs3 ∧ Fld Z h' ro0 cs3 "serial" "I" (.int 1) ∧ Arv Z h' b812 k812 (.object "java/lang/Object") (1 : Int32) [(.ref ro4)] .null ∧ Fld Z h' ro0 cs3 "buffer" cs2 (.ref b812) ∧ Fld Z h' ro0 cs3 "size" "I" (.int 1) ∧ Fld Z h' ro0 cs3 "firstNumber" "J" (.long 0) ∧ Fld Z h' ro0 cs3 "head" "I" (.int 0) ∧ Ovr Z k812 "java/lang/Object") := by
  have hw := B.1
  refine Con.of (plainFor_of_name pn11) (Ls := #[vR ro0, vI 1, vR ro1]) (fun _ => rfl) ?_
  intro p e s m below meth c T0 X0 H hml hZ hown hnm hret hlk e0
  have M0 := Nat.le_refl h.size
  have N0 := Fr.nil Z.heap.size
  refine gAloadN X0 H d11_0 rfl rfl 1 rfl ?_
  refine gInitO X0 H hZ hown (hw _ wd70) (hw _ wd19) (hw _ wd20) e0 hml rfl (V := 0) (Nat.le_of_eq rfl) (by decide) (by decide) d11_1 4 rfl ?_
  intro T796 X796 e796
  refine gAloadN X796 H d11_4 rfl rfl 5 rfl ?_
  refine gIloadN X796 H d11_5 rfl 6 rfl ?_
  refine gPutF X796 H hZ hown (hw _ wd71) Via.refl e796 q799 q798 (Or.inr ⟨(hw _ wd72), rfl, hnm⟩) (hw _ wd65) (ty := .int) (by decide) (v' := (.int 1)) rfl rfl d11_6 9 rfl ?_
  intro T797 h797 X797 e797 W797 F797
  have O797 := extW O W797 q800
  have N797 := Fr.snoc X797 N0 q800
  refine gAloadN X797 H d11_9 rfl rfl 10 rfl ?_
  refine gAloadN X797 H d11_10 rfl rfl 11 rfl ?_
  refine gAloadN X797 H d11_11 rfl rfl 12 rfl ?_
  have c802 := (q801.wr W797)
  have c808 := (q806.other W797 (Or.inl q807))
  refine gInterface X797 H hZ hown (hw _ wd73) (hw _ wd74) (mvT hZ (hw _ wd75)) (hw _ wd76) (hw _ wd77) (hw _ wd78) (hw _ wd79) (hw _ wd80) (by decide) c802 (hw _ wd81) (hw _ wd2) (rm805_12 B ro1 _ O797 c808) e797 hml rfl pd1 rfl (W := 2) (argsL := []) (rest := [(.ref ro1), (.ref ro0)]) rfl rfl d11_12 17 rfl ?_
  intro v809 T809 L809 hq809 X809
  obtain ⟨rfl, e809, rfl⟩ := hq809
  have N809 := Fr.app N797 (Fr.nil _)
  show Go _ _ _ _ (State.setTop _ (mkF _ 17 _ [(.int 1), (.ref ro1), (.ref ro0)]))
  refine gIconst X809 H d11_17 (z := 1) rfl 18 rfl ?_
  refine gStatic X809 H hZ hown (hw _ wd82) (hw _ wd58) (by decide) (hw _ wd60) (hw _ wd59) (rm810_10 B _ O797) e809 hml rfl pd2 rfl (W := 2) (argsL := [(.int 1), (.int 1)]) (rest := [(.ref ro1), (.ref ro0)]) rfl rfl d11_18 21 rfl ?_
  intro v811 T811 L811 hq811 X811
  obtain ⟨rfl, e811, rfl⟩ := hq811
  have N811 := Fr.app N809 (Fr.nil _)
  show Go _ _ _ _ (State.setTop _ (mkF _ 21 _ [(.int 1), (.ref ro1), (.ref ro0)]))
  refine gNewR X811 H hZ hown (hw _ wd83) (hw _ wd62) e811 (by decide) (cap := 1) (by decide) (by decide) (vs := [.null]) rfl (by decide) (by decide) d11_21 24 rfl ?_
  intro T812 h812 b812 k812 X812 e812 z812 E812 V812 Q812
  have M813 := (leW M0 W797)
  have G_b812 := Nat.le_trans O797.1 (Nat.le_of_eq z812)
  have sz_b812 := Nat.le_trans M813 (Nat.le_of_eq z812)
  have O812 := extT O797 E812
  have c814 := (c802.ext E812)
  have c834 := (c808.ext E812)
  have c836 := ((q835.other W797 (Or.inl q807)).ext E812)
  have c839 := ((q837.other W797 q838).ext E812)
  have c841 := ((q840.wr W797).ext E812)
  refine gInterface X812 H hZ hown (hw _ wd84) (hw _ wd85) (mvT hZ (hw _ wd86)) (hw _ wd87) (hw _ wd88) (hw _ wd89) (hw _ wd90) (hw _ wd80) (by decide) c814 (hw _ wd91) (hw _ wd2) (rm833_13 B ro1 b812 ro2 ck3 ro4 k812 _ O812 (Arv.arl V812) c834 c836 c839 V812 c841 Q812 G_b812 (neB q801.lt sz_b812)) e812 hml rfl pd3 rfl (W := 1) (argsL := [(.ref b812)]) (rest := [(.ref ro0)]) rfl rfl d11_24 29 rfl ?_
  intro v842 T842 L842 hq842 X842
  obtain ⟨rfl, N842q, K842, f842_0⟩ := hq842
  have O842 := extK O812 K842 (allS G_b812 all0)
  have N842 := Fr.app N811 N842q
  show Go _ _ _ _ (State.setTop _ (mkF _ 29 _ [(.ref b812), (.ref ro0)]))
  have c844 := (((q798.wr W797).ext E812).keep K842)
  have c846 := (((q845.other W797 (Or.inr (sn4 hw))).ext E812).keep K842 (ninS (neB q798.lt sz_b812) nin0))
  refine gPutF X842 H hZ hown (hw _ wd96) Via.refl rfl c846 c844 (Or.inl (hw _ wd97)) (hw _ wd65) (ty := (.array (.object "java/lang/Object"))) (by decide) (v' := (.ref b812)) rfl rfl d11_29 32 rfl ?_
  intro T843 h843 X843 e843 W843 F843
  have O843 := extW O842 W843 q800
  have N843 := Fr.snoc X843 N842 q800
  refine gAloadN X843 H d11_32 rfl rfl 33 rfl ?_
  refine gAloadN X843 H d11_33 rfl rfl 34 rfl ?_
  have c847 := ((c814.keep K842).wr W843)
  have c848 := ((c834.keep K842 (ninS (neB q801.lt sz_b812) nin0)).other W843 (Or.inl q807))
  refine gInterface X843 H hZ hown (hw _ wd73) (hw _ wd74) (mvT hZ (hw _ wd75)) (hw _ wd76) (hw _ wd77) (hw _ wd78) (hw _ wd79) (hw _ wd80) (by decide) c847 (hw _ wd81) (hw _ wd2) (rm805_12 B ro1 _ O843 c848) e843 hml rfl pd1 rfl (W := 1) (argsL := []) (rest := [(.ref ro0)]) rfl rfl d11_34 39 rfl ?_
  intro v849 T849 L849 hq849 X849
  obtain ⟨rfl, e849, rfl⟩ := hq849
  have N849 := Fr.app N843 (Fr.nil _)
  show Go _ _ _ _ (State.setTop _ (mkF _ 39 _ [(.int 1), (.ref ro0)]))
  have c851 := (c844.wr W843)
  have c853 := ((((q852.other W797 (Or.inr (sn5 hw))).ext E812).keep K842 (ninS (neB q798.lt sz_b812) nin0)).other W843 (Or.inr (sn6 hw)))
  refine gPutF X849 H hZ hown (hw _ wd98) Via.refl e849 c853 c851 (Or.inl (hw _ wd99)) (hw _ wd65) (ty := .int) (by decide) (v' := (.int 1)) rfl rfl d11_39 42 rfl ?_
  intro T850 h850 X850 e850 W850 F850
  have O850 := extW O843 W850 q800
  have N850 := Fr.snoc X850 N849 q800
  have c854 := (c851.wr W850)
  have c855 := ((((F797.ext E812).keep K842 (ninS (neB q798.lt sz_b812) nin0)).other W843 (Or.inr (sn7 hw))).other W850 (Or.inr (sn8 hw)))
  have c856 := (F843.other W850 (Or.inr (sn9 hw)))
  have c858 := (((((q857.other W797 (Or.inr (sn10 hw))).ext E812).keep K842 (ninS (neB q798.lt sz_b812) nin0)).other W843 (Or.inr (sn11 hw))).other W850 (Or.inr (sn12 hw)))
  have c860 := (((((q859.other W797 (Or.inr (sn13 hw))).ext E812).keep K842 (ninS (neB q798.lt sz_b812) nin0)).other W843 (Or.inr (sn14 hw))).other W850 (Or.inr (sn15 hw)))
  have c861 := ((f842_0.other W843 (Ne.symm (neB q798.lt sz_b812))).other W850 (Ne.symm (neB q798.lt sz_b812)))
  have K_862 := (Keep.refl h [ro0]).wr W797 (Or.inl (List.mem_of_getElem? (i := 0) rfl))
  have K_863 := K_862.ext E812
  have K_864 := K_863.trans K842 (allS (Or.inr sz_b812) all0)
  have K_865 := K_864.wr W843 (Or.inl (List.mem_of_getElem? (i := 0) rfl))
  have K_866 := K_865.wr W850 (Or.inl (List.mem_of_getElem? (i := 0) rfl))
  exact gRetV X850 H hlk hret d11_42 e850 ⟨b812, k812, rfl, N850, K_866, sz_b812, c854, c855, c861, c856, F850, c858, c860, Q812⟩
theorem rm927_21 (B : Bg Z a0 wE0 w_cacheI k_wE0 cl_cacheI) (ro0 ro1 : Addr) (ck2 : ClassId) (ro3 : Addr) (h : Heap) (O : Ext Z.heap h) (q881 : Fld Z h ro0 cs3 "size" "I" (.int 1)) (q883 : Fld Z h ro0 cs3 "buffer" cs2 (.ref ro1)) (q886 : Arl Z h ro1 (1 : Int32)) (q894 : Exa Z h ro0 cs3) (q897 : Fld Z h ro0 cs3 "head" "I" (.int 0)) (q900 : Arv Z h ro1 ck2 (.object "java/lang/Object") (1 : Int32) [(.ref ro3)] .null) (q904 : Exa Z h ro3 cs4) (q911 : Z.heap.size ≤ ro0) (q918 : Fld Z h ro0 cs3 "serial" "I" (.int 1)) (q920 : Fld Z h ro0 cs3 "firstNumber" "J" (.long 0)) :
    Con l Z yM21 prog_50_method_13_code 4 none ({ frames := 2, cells := 1, slots := 2, locals := 30 } : Room) #[(.ref ro0)] h (fun v h' L => ∃ (b891 : Addr) (k891 : ClassId), v = none ∧ Fr Z.heap.size L ∧ Keep h h' [ro0] ∧ h.size ≤ b891 ∧ Fld Z h' ro0 cs3 "size" "I" (.int 1) ∧ Fld Z h' ro0 cs3 "buffer" cs2 (.ref b891) ∧ Arv Z h' b891 k891 (.object "java/lang/Object") (2 : Int32) [(.ref ro3), .null] .null ∧ Exa Z h' ro0 cs3 ∧ Fld Z h' ro0 cs3 "head" "I" (.int 0) ∧ Fld Z h' ro0 cs3 "serial" "I" (.int 1) ∧ Fld Z h' ro0 cs3 "firstNumber" "J" (.long 0) ∧ Ovr Z k891 "java/lang/Object") := by
  have hw := B.1
  refine Con.of (plainFor_of_name pn21) (Ls := #[vR ro0, .unset, .unset, .unset]) (fun _ => rfl) ?_
  intro p e s m below meth c T0 X0 H hml hZ hown hnm hret hlk e0
  have M0 := Nat.le_refl h.size
  have N0 := Fr.nil Z.heap.size
  refine gAloadN X0 H d21_0 rfl rfl 1 rfl ?_
  refine gGetF X0 H hZ hown (hw _ wd98) Via.refl e0 q881 d21_1 4 rfl ?_
  intro T882 X882 e882
  refine gAloadN X882 H d21_4 rfl rfl 5 rfl ?_
  refine gGetF X882 H hZ hown (hw _ wd96) Via.refl e882 q883 d21_5 8 rfl ?_
  intro T884 X884 e884
  refine gLen X884 H hZ e884 q886 d21_8 9 rfl ?_
  refine gCmpY X884 H d21_9 (by decide) (by decide) 13 rfl ?_
  refine gLdc2 X884 H hZ hown (hw _ wd139) d21_13 16 rfl ?_
  refine gAloadN X884 H d21_16 rfl rfl 17 rfl ?_
  refine gGetF X884 H hZ hown (hw _ wd96) Via.refl e884 q883 d21_17 20 rfl ?_
  intro T887 X887 e887
  refine gLen X887 H hZ e887 q886 d21_20 21 rfl ?_
  refine g_i2l X887 H d21_21 (z := 1) (by decide) 22 rfl ?_
  refine g_lmul X887 H d21_22 (z := 2) (by decide) 23 rfl ?_
  refine gLdc2 X887 H hZ hown (hw _ wd140) d21_23 26 rfl ?_
  refine gStatic X887 H hZ hown (hw _ wd141) (hw _ wd142) (by decide) (hw _ wd143) (hw _ wd59) (rm222_22 B _ O) e887 hml rfl pd10 rfl (W := 0) (argsL := [(.long 2), (.long 2147483639)]) (rest := []) rfl rfl d21_26 29 rfl ?_
  intro v889 T889 L889 hq889 X889
  obtain ⟨rfl, e889, rfl⟩ := hq889
  have N889 := Fr.app N0 (Fr.nil _)
  show Go _ _ _ _ (State.setTop _ (mkF _ 29 _ [(.long 2)]))
  refine g_l2i X889 H d21_29 (z := 2) (by decide) 30 rfl ?_
  refine gIstoreN X889 H d21_30 (Ls' := #[vR ro0, vI 2, .unset, .unset]) rfl 31 rfl ?_
  refine gIloadN X889 H d21_31 rfl 32 rfl ?_
  refine gAloadN X889 H d21_32 rfl rfl 33 rfl ?_
  refine gGetF X889 H hZ hown (hw _ wd98) Via.refl e889 q881 d21_33 36 rfl ?_
  intro T890 X890 e890
  refine gCmpY X890 H d21_36 (by decide) (by decide) 49 rfl ?_
  refine gIloadN X890 H d21_49 rfl 50 rfl ?_
  refine gNewR X890 H hZ hown (hw _ wd83) (hw _ wd62) e890 (by decide) (cap := 2) (by decide) (by decide) (vs := [.null, .null]) rfl (by decide) (by decide) d21_50 53 rfl ?_
  intro T891 h891 b891 k891 X891 e891 z891 E891 V891 Q891
  have G_b891 := Nat.le_trans O.1 (Nat.le_of_eq z891)
  have sz_b891 := Nat.le_trans M0 (Nat.le_of_eq z891)
  have O891 := extT O E891
  refine gAstoreN X891 H d21_53 rfl (Ls' := #[vR ro0, vI 2, vR b891, .unset]) rfl 54 rfl ?_
  refine gIconst X891 H d21_54 (z := 0) rfl 55 rfl ?_
  refine gIstoreN X891 H d21_55 (Ls' := #[vR ro0, vI 2, vR b891, vI 0]) rfl 56 rfl ?_
  refine gIloadN X891 H d21_56 rfl 57 rfl ?_
  refine gAloadN X891 H d21_57 rfl rfl 58 rfl ?_
  have c892 := (q881.ext E891)
  refine gGetF X891 H hZ hown (hw _ wd98) Via.refl e891 c892 d21_58 61 rfl ?_
  intro T893 X893 e893
  refine gCmpN X893 H d21_61 (by decide) 64 rfl ?_
  refine gAloadN X893 H d21_64 rfl rfl 65 rfl ?_
  refine gIloadN X893 H d21_65 rfl 66 rfl ?_
  refine gAloadN X893 H d21_66 rfl rfl 67 rfl ?_
  refine gIloadN X893 H d21_67 rfl 68 rfl ?_
  have c895 := (q894.ext E891)
  have c896 := (q883.ext E891)
  have c898 := (q897.ext E891)
  have c899 := (q886.ext E891)
  have c901 := (q900.ext E891)
  refine gVirt X893 H hZ hown (hw _ wd116) (hw _ wd117) (hw _ wd119) (hw _ wd118) (by decide) c895 (hw _ wd120) (hw _ wd66) (rm238_17 B ro0 ro1 ck2 ro3 _ O891 c896 c895 c898 c899 c901) e893 hml rfl pd11 rfl (W := 2) (argsL := [(.int 0)]) (rest := [(.int 0), (.ref b891)]) rfl rfl d21_68 71 rfl ?_
  intro v902 T902 L902 hq902 X902
  obtain ⟨rfl, e902, rfl⟩ := hq902
  have N902 := Fr.app N889 (Fr.nil _)
  show Go _ _ _ _ (State.setTop _ (mkF _ 71 _ [(.ref ro3), (.int 0), (.ref b891)]))
  have c905 := (q904.ext E891)
  refine gAastore X902 H hZ e902 rfl (stoV V891 Q891 (Ins.of_exa c905 (hw _ wd63))) V891 ⟨by decide, by decide⟩ (i := 0) rfl (Nat.le_of_ble_eq_true rfl) (vs' := [(.ref ro3), .null]) rfl d21_71 72 rfl ?_
  intro T903 h903 X903 e903 W903 V903
  have O903 := extW O891 W903 G_b891
  have N903 := Fr.snoc X903 N902 G_b891
  refine gIinc X903 H d21_72 rfl (Ls' := #[vR ro0, vI 2, vR b891, vI 1]) rfl 75 rfl ?_
  refine gGoto X903 H d21_75 (by decide) 56 rfl ?_
  refine gIloadN X903 H d21_56 rfl 57 rfl ?_
  refine gAloadN X903 H d21_57 rfl rfl 58 rfl ?_
  have c906 := (c892.other W903 (Or.inl (neB q881.lt sz_b891)))
  refine gGetF X903 H hZ hown (hw _ wd98) Via.refl e903 c906 d21_58 61 rfl ?_
  intro T907 X907 e907
  refine gCmpY X907 H d21_61 (by decide) (by decide) 78 rfl ?_
  refine gAloadN X907 H d21_78 rfl rfl 79 rfl ?_
  refine gAloadN X907 H d21_79 rfl rfl 80 rfl ?_
  have c909 := (c895.wr W903)
  have c910 := (c896.other W903 (Or.inl (neB q881.lt sz_b891)))
  refine gPutF X907 H hZ hown (hw _ wd96) Via.refl e907 c910 c909 (Or.inl (hw _ wd97)) (hw _ wd65) (ty := (.array (.object "java/lang/Object"))) (by decide) (v' := (.ref b891)) rfl rfl d21_80 83 rfl ?_
  intro T908 h908 X908 e908 W908 F908
  have O908 := extW O903 W908 q911
  have N908 := Fr.snoc X908 N903 q911
  refine gAloadN X908 H d21_83 rfl rfl 84 rfl ?_
  refine gIconst X908 H d21_84 (z := 0) rfl 85 rfl ?_
  have c913 := (c909.wr W908)
  have c914 := ((c898.other W903 (Or.inl (neB q881.lt sz_b891))).other W908 (Or.inr (sn14 hw)))
  refine gPutF X908 H hZ hown (hw _ wd125) Via.refl e908 c914 c913 (Or.inl (hw _ wd126)) (hw _ wd65) (ty := .int) (by decide) (v' := (.int 0)) rfl rfl d21_85 88 rfl ?_
  intro T912 h912 X912 e912 W912 F912
  have O912 := extW O908 W912 q911
  have N912 := Fr.snoc X912 N908 q911
  have c915 := ((c906.other W908 (Or.inr (sn6 hw))).other W912 (Or.inr (sn16 hw)))
  have c916 := (F908.other W912 (Or.inr (sn18 hw)))
  have c917 := (c913.wr W912)
  have c919 := ((((q918.ext E891).other W903 (Or.inl (neB q881.lt sz_b891))).other W908 (Or.inr (sn7 hw))).other W912 (Or.inr (sn22 hw)))
  have c921 := ((((q920.ext E891).other W903 (Or.inl (neB q881.lt sz_b891))).other W908 (Or.inr (sn11 hw))).other W912 (Or.inr (sn17 hw)))
  have c922 := ((V903.other W908 (Ne.symm (neB q881.lt sz_b891))).other W912 (Ne.symm (neB q881.lt sz_b891)))
  have K_923 := (Keep.refl h [ro0]).ext E891
  have K_924 := K_923.wr W903 (Or.inr sz_b891)
  have K_925 := K_924.wr W908 (Or.inl (List.mem_of_getElem? (i := 0) rfl))
  have K_926 := K_925.wr W912 (Or.inl (List.mem_of_getElem? (i := 0) rfl))
  exact gRetV X912 H hlk hret d21_88 e912 ⟨b891, k891, rfl, N912, K_926, sz_b891, c915, c916, c922, c917, F912, c919, c921, Q891⟩
theorem rm968_20 (B : Bg Z a0 wE0 w_cacheI k_wE0 cl_cacheI) (ro0 ro1 ro2 : Addr) (ck3 : ClassId) (ro4 : Addr) (h : Heap) (O : Ext Z.heap h) (q880 : Exa Z h ro0 cs3) (q928 : Fld Z h ro0 cs3 "size" "I" (.int 1)) (q929 : Fld Z h ro0 cs3 "buffer" cs2 (.ref ro2)) (q930 : Arl Z h ro2 (1 : Int32)) (q931 : Fld Z h ro0 cs3 "head" "I" (.int 0)) (q932 : Arv Z h ro2 ck3 (.object "java/lang/Object") (1 : Int32) [(.ref ro4)] .null) (q933 : Exa Z h ro4 cs4) (q934 : Z.heap.size ≤ ro0) (q935 : Fld Z h ro0 cs3 "serial" "I" (.int 1)) (q936 : Fld Z h ro0 cs3 "firstNumber" "J" (.long 0)) (q954 : Exa Z h ro1 cs4) :
    Con l Z yM20 prog_50_method_9_code 2 none ({ frames := 3, cells := 1, slots := 2, locals := 45 } : Room) #[(.ref ro0), (.ref ro1)] h (fun v h' L => ∃ (b937_0 : Addr) (k937_0 : ClassId), v = none ∧ Fr Z.heap.size L ∧ Keep h h' [ro0] ∧ h.size ≤ b937_0 ∧ Exa Z h' ro0 cs3 ∧ Fld Z h' ro0 cs3 "size" "I" (.int 2) ∧ Fld Z h' ro0 cs3 "buffer" cs2 (.ref b937_0) ∧ Fld Z h' ro0 cs3 "head" "I" (.int 1) ∧ Fld Z h' ro0 cs3 "serial" "I" (.int 1) ∧ Fld Z h' ro0 cs3 "firstNumber" "J" (.long (-1)) ∧ Arv Z h' b937_0 k937_0 (.object "java/lang/Object") (2 : Int32) [(.ref ro4), (.ref ro1)] .null ∧ Ovr Z k937_0 "java/lang/Object") := by
  have hw := B.1
  refine Con.of (plainFor_of_name pn20) (Ls := #[vR ro0, vR ro1]) (fun _ => rfl) ?_
  intro p e s m below meth c T0 X0 H hml hZ hown hnm hret hlk e0
  have M0 := Nat.le_refl h.size
  have N0 := Fr.nil Z.heap.size
  refine gAloadN X0 H d20_0 rfl rfl 1 rfl ?_
  refine gPrivate X0 H hZ hown (hw _ wd135) (hw _ wd136) (hw _ wd137) (hw _ wd65) (by decide) q880 (hw _ wd138) (hw _ wd66) (rm927_21 B ro0 ro2 ck3 ro4 _ O q928 q929 q930 q880 q931 q932 q933 q934 q935 q936) e0 hml rfl pd0 rfl (W := 0) (argsL := []) (rest := []) rfl rfl d20_1 4 rfl ?_
  intro v937 T937 L937 hq937 X937
  obtain ⟨b937_0, k937_0, rfl, N937q, K937, s937_0, f937_0, f937_1, f937_2, f937_3, f937_4, f937_5, f937_6, f937_7⟩ := hq937
  have G_b937_0 := Nat.le_trans O.1 s937_0
  have sz_b937_0 := Nat.le_trans M0 s937_0
  have O937 := extK O K937 (allS q934 all0)
  have N937 := Fr.app N0 N937q
  show Go _ _ _ _ (State.setTop _ (mkF _ 4 _ []))
  refine gAloadN X937 H d20_4 rfl rfl 5 rfl ?_
  refine gAloadN X937 H d20_5 rfl rfl 6 rfl ?_
  refine gAloadN X937 H d20_6 rfl rfl 7 rfl ?_
  refine gGetF X937 H hZ hown (hw _ wd96) Via.refl rfl f937_1 d20_7 10 rfl ?_
  intro T938 X938 e938
  refine gLen X938 H hZ e938 (Arv.arl f937_2) d20_10 11 rfl ?_
  refine gIconst X938 H d20_11 (z := 1) rfl 12 rfl ?_
  refine g_isub X938 H d20_12 (z := 1) (by decide) 13 rfl ?_
  refine gPrivate X938 H hZ hown (hw _ wd121) (hw _ wd122) (hw _ wd123) (hw _ wd65) (by decide) f937_3 (hw _ wd124) (hw _ wd66) (rm289_18 B ro0 b937_0 _ O937 f937_4 f937_1 (Arv.arl f937_2)) e938 hml rfl pd6 rfl (W := 1) (argsL := [(.int 1)]) (rest := [(.ref ro0)]) rfl rfl d20_13 16 rfl ?_
  intro v940 T940 L940 hq940 X940
  obtain ⟨rfl, e940, rfl⟩ := hq940
  have N940 := Fr.app N937 (Fr.nil _)
  show Go _ _ _ _ (State.setTop _ (mkF _ 16 _ [(.int 1), (.ref ro0)]))
  refine gPutF X940 H hZ hown (hw _ wd125) Via.refl e940 f937_4 f937_3 (Or.inl (hw _ wd126)) (hw _ wd65) (ty := .int) (by decide) (v' := (.int 1)) rfl rfl d20_16 19 rfl ?_
  intro T941 h941 X941 e941 W941 F941
  have O941 := extW O937 W941 q934
  have N941 := Fr.snoc X941 N940 q934
  refine gAloadN X941 H d20_19 rfl rfl 20 rfl ?_
  refine gDup X941 H d20_20 rfl 21 rfl ?_
  have c942 := (f937_0.other W941 (Or.inr (sn16 hw)))
  refine gGetF X941 H hZ hown (hw _ wd98) Via.refl e941 c942 d20_21 24 rfl ?_
  intro T943 X943 e943
  refine gIconst X943 H d20_24 (z := 1) rfl 25 rfl ?_
  refine g_iadd X943 H d20_25 (z := 2) (by decide) 26 rfl ?_
  have c945 := (f937_3.wr W941)
  refine gPutF X943 H hZ hown (hw _ wd98) Via.refl e943 c942 c945 (Or.inl (hw _ wd99)) (hw _ wd65) (ty := .int) (by decide) (v' := (.int 2)) rfl rfl d20_26 29 rfl ?_
  intro T944 h944 X944 e944 W944 F944
  have O944 := extW O941 W944 q934
  have N944 := Fr.snoc X944 N941 q934
  refine gAloadN X944 H d20_29 rfl rfl 30 rfl ?_
  refine gDup X944 H d20_30 rfl 31 rfl ?_
  have c946 := ((f937_6.other W941 (Or.inr (sn17 hw))).other W944 (Or.inr (sn12 hw)))
  refine gGetF X944 H hZ hown (hw _ wd105) Via.refl e944 c946 d20_31 34 rfl ?_
  intro T947 X947 e947
  refine gLconst X947 H d20_34 (z := 1) rfl 35 rfl ?_
  refine g_lsub X947 H d20_35 (z := (-1)) (by decide) 36 rfl ?_
  have c949 := (c945.wr W944)
  refine gPutF X947 H hZ hown (hw _ wd105) Via.refl e947 c946 c949 (Or.inl (hw _ wd106)) (hw _ wd65) (ty := .long) (by decide) (v' := (.long (-1))) rfl rfl d20_36 39 rfl ?_
  intro T948 h948 X948 e948 W948 F948
  have O948 := extW O944 W948 q934
  have N948 := Fr.snoc X948 N944 q934
  refine gAloadN X948 H d20_39 rfl rfl 40 rfl ?_
  refine gIconst X948 H d20_40 (z := 0) rfl 41 rfl ?_
  refine gAloadN X948 H d20_41 rfl rfl 42 rfl ?_
  have c950 := (c949.wr W948)
  have c951 := (((f937_1.other W941 (Or.inr (sn18 hw))).other W944 (Or.inr (sn9 hw))).other W948 (Or.inr (sn19 hw)))
  have c952 := ((F941.other W944 (Or.inr (sn15 hw))).other W948 (Or.inr (sn20 hw)))
  have c953 := (((f937_2.other W941 (Ne.symm (neB q880.lt sz_b937_0))).other W944 (Ne.symm (neB q880.lt sz_b937_0))).other W948 (Ne.symm (neB q880.lt sz_b937_0)))
  have c955 := ((((q954.keep K937).wr W941).wr W944).wr W948)
  refine gVirt X948 H hZ hown (hw _ wd144) (hw _ wd145) (hw _ wd147) (hw _ wd146) (by decide) c950 (hw _ wd148) (hw _ wd66) (rm320_23 B ro0 ro1 b937_0 k937_0 ro4 _ O948 c951 c950 c952 (Arv.arl c953) c953 c955 f937_7 G_b937_0) e948 hml rfl pd7 rfl (W := 0) (argsL := [(.int 0), (.ref ro1)]) (rest := []) rfl rfl d20_42 45 rfl ?_
  intro v956 T956 L956 hq956 X956
  obtain ⟨rfl, N956q, K956, f956_0⟩ := hq956
  have O956 := extK O948 K956 (allS G_b937_0 all0)
  have N956 := Fr.app N948 N956q
  show Go _ _ _ _ (State.setTop _ (mkF _ 45 _ []))
  have c957 := (c950.keep K956)
  have c958 := ((F944.other W948 (Or.inr (sn21 hw))).keep K956 (ninS (neB q880.lt sz_b937_0) nin0))
  have c959 := (c951.keep K956 (ninS (neB q880.lt sz_b937_0) nin0))
  have c960 := (c952.keep K956 (ninS (neB q880.lt sz_b937_0) nin0))
  have c961 := ((((f937_5.other W941 (Or.inr (sn22 hw))).other W944 (Or.inr (sn8 hw))).other W948 (Or.inr (sn23 hw))).keep K956 (ninS (neB q880.lt sz_b937_0) nin0))
  have c962 := (F948.keep K956 (ninS (neB q880.lt sz_b937_0) nin0))
  have K_963 := (Keep.refl h [ro0]).trans K937 (allS (Or.inl (List.mem_of_getElem? (i := 0) rfl)) all0)
  have K_964 := K_963.wr W941 (Or.inl (List.mem_of_getElem? (i := 0) rfl))
  have K_965 := K_964.wr W944 (Or.inl (List.mem_of_getElem? (i := 0) rfl))
  have K_966 := K_965.wr W948 (Or.inl (List.mem_of_getElem? (i := 0) rfl))
  have K_967 := K_966.trans K956 (allS (Or.inr sz_b937_0) all0)
  exact gRetV X956 H hlk hret d20_45 rfl ⟨b937_0, k937_0, rfl, N956, K_967, sz_b937_0, c957, c958, c959, c960, c961, c962, f956_0, f937_7⟩
theorem rm991_15 (B : Bg Z a0 wE0 w_cacheI k_wE0 cl_cacheI) (ro0 ro1 : Addr) (ck2 : ClassId) (ro3 : Addr) (h : Heap) (O : Ext Z.heap h) (q878 : Exa Z h ro0 cs3) (q969 : Fld Z h ro0 cs3 "size" "I" (.int 1)) (q971 : Fld Z h ro0 cs3 "buffer" cs2 (.ref ro1)) (q973 : Arl Z h ro1 (1 : Int32)) (q975 : Fld Z h ro0 cs3 "head" "I" (.int 0)) (q977 : Arv Z h ro1 ck2 (.object "java/lang/Object") (1 : Int32) [(.ref ro3)] .null) (q979 : Exa Z h ro3 cs4) (q981 : Z.heap.size ≤ ro0) (q982 : Fld Z h ro0 cs3 "serial" "I" (.int 1)) (q984 : Fld Z h ro0 cs3 "firstNumber" "J" (.long 0)) :
    Con l Z yM15 method_2_code 2 none ({ frames := 4, cells := 1, slots := 2, locals := 58 } : Room) #[(.ref ro0), (.int 0)] h (fun v h' L => ∃ (b877_0 b986_0 : Addr) (k986_0 : ClassId), v = none ∧ Fr Z.heap.size L ∧ Keep h h' [ro0] ∧ h.size ≤ b986_0 ∧ Exa Z h' b877_0 cs4 ∧ Exa Z h' ro0 cs3 ∧ Fld Z h' ro0 cs3 "size" "I" (.int 2) ∧ Fld Z h' ro0 cs3 "buffer" cs2 (.ref b986_0) ∧ Fld Z h' ro0 cs3 "head" "I" (.int 1) ∧ Fld Z h' ro0 cs3 "serial" "I" (.int 1) ∧ Fld Z h' ro0 cs3 "firstNumber" "J" (.long (-1)) ∧ Arv Z h' b986_0 k986_0 (.object "java/lang/Object") (2 : Int32) [(.ref ro3), (.ref b877_0)] .null ∧ b877_0 ≠ b986_0 ∧ Ovr Z k986_0 "java/lang/Object") := by
  have hw := B.1
  refine Con.of (plainFor_of_name pn15) (Ls := #[vR ro0, vI 0]) (fun _ => rfl) ?_
  intro p e s m below meth c T0 X0 H hml hZ hown hnm hret hlk e0
  have M0 := Nat.le_refl h.size
  have N0 := Fr.nil Z.heap.size
  refine gIloadN X0 H d15_0 rfl 1 rfl ?_
  refine gIfY X0 H d15_1 (by decide) (by decide) 12 rfl ?_
  refine gAloadN X0 H d15_12 rfl rfl 13 rfl ?_
  refine gBipush X0 H d15_13 (z := 20) rfl 15 rfl ?_
  refine gStatic X0 H hZ hown (hw _ wd26) (hw _ wd27) (by decide) (hw _ wd29) (hw _ wd28) (rm110_5 B _ O) e0 hml rfl pd5 rfl (W := 1) (argsL := [(.int 20)]) (rest := [(.ref ro0)]) rfl rfl d15_15 18 rfl ?_
  intro v877 T877 L877 hq877 X877
  obtain ⟨b877_0, rfl, N877q, K877, f877_0⟩ := hq877
  have O877 := extK O K877 all0
  have N877 := Fr.app N0 N877q
  show Go _ _ _ _ (State.setTop _ (mkF _ 18 _ [(.ref b877_0), (.ref ro0)]))
  have c879 := (q878.keep K877)
  have c970 := (q969.keep K877 nin0)
  have c972 := (q971.keep K877 nin0)
  have c974 := (q973.keep K877 nin0)
  have c976 := (q975.keep K877 nin0)
  have c978 := (q977.keep K877 nin0)
  have c980 := (q979.keep K877)
  have c983 := (q982.keep K877 nin0)
  have c985 := (q984.keep K877 nin0)
  refine gVirt X877 H hZ hown (hw _ wd130) (hw _ wd131) (hw _ wd133) (hw _ wd132) (by decide) c879 (hw _ wd134) (hw _ wd66) (rm968_20 B ro0 b877_0 ro1 ck2 ro3 _ O877 c879 c970 c972 c974 c976 c978 c980 q981 c983 c985 f877_0) rfl hml rfl pd8 rfl (W := 0) (argsL := [(.ref b877_0)]) (rest := []) rfl rfl d15_18 21 rfl ?_
  intro v986 T986 L986 hq986 X986
  obtain ⟨b986_0, k986_0, rfl, N986q, K986, s986_0, f986_0, f986_1, f986_2, f986_3, f986_4, f986_5, f986_6, f986_7⟩ := hq986
  have M987 := (Nat.le_trans M0 K877.1)
  have G_b986_0 := Nat.le_trans O877.1 s986_0
  have sz_b986_0 := Nat.le_trans M987 s986_0
  have ne_b877_0_b986_0 : b877_0 ≠ b986_0 := neB f877_0.lt s986_0
  have O986 := extK O877 K986 (allS q981 all0)
  have N986 := Fr.app N877 N986q
  show Go _ _ _ _ (State.setTop _ (mkF _ 21 _ []))
  have c988 := (f877_0.keep K986)
  have K_989 := (Keep.refl h [ro0]).trans K877 all0
  have K_990 := K_989.trans K986 (allS (Or.inl (List.mem_of_getElem? (i := 0) rfl)) all0)
  exact gRetV X986 H hlk hret d15_21 rfl ⟨b877_0, b986_0, k986_0, rfl, N986, K_990, sz_b986_0, c988, f986_0, f986_1, f986_2, f986_3, f986_4, f986_5, f986_6, ne_b877_0_b986_0, f986_7⟩
theorem rm1059_21 (B : Bg Z a0 wE0 w_cacheI k_wE0 cl_cacheI) (ro0 ro1 : Addr) (ck2 : ClassId) (ro3 ro4 : Addr) (h : Heap) (O : Ext Z.heap h) (q1002 : Fld Z h ro0 cs3 "size" "I" (.int 2)) (q1004 : Fld Z h ro0 cs3 "buffer" cs2 (.ref ro1)) (q1007 : Arl Z h ro1 (2 : Int32)) (q1015 : Exa Z h ro0 cs3) (q1018 : Fld Z h ro0 cs3 "head" "I" (.int 1)) (q1021 : Arv Z h ro1 ck2 (.object "java/lang/Object") (2 : Int32) [(.ref ro3), (.ref ro4)] .null) (q1025 : Exa Z h ro4 cs4) (q1035 : Exa Z h ro3 cs4) (q1042 : Z.heap.size ≤ ro0) (q1049 : Fld Z h ro0 cs3 "serial" "I" (.int 1)) (q1051 : Fld Z h ro0 cs3 "firstNumber" "J" (.long (-1))) :
    Con l Z yM21 prog_50_method_13_code 4 none ({ frames := 2, cells := 1, slots := 4, locals := 30 } : Room) #[(.ref ro0)] h (fun v h' L => ∃ (b1012 : Addr) (k1012 : ClassId), v = none ∧ Fr Z.heap.size L ∧ Keep h h' [ro0] ∧ h.size ≤ b1012 ∧ Fld Z h' ro0 cs3 "size" "I" (.int 2) ∧ Fld Z h' ro0 cs3 "buffer" cs2 (.ref b1012) ∧ Arv Z h' b1012 k1012 (.object "java/lang/Object") (4 : Int32) [(.ref ro4), (.ref ro3), .null, .null] .null ∧ Exa Z h' ro0 cs3 ∧ Fld Z h' ro0 cs3 "head" "I" (.int 0) ∧ Fld Z h' ro0 cs3 "serial" "I" (.int 1) ∧ Fld Z h' ro0 cs3 "firstNumber" "J" (.long (-1)) ∧ Ovr Z k1012 "java/lang/Object") := by
  have hw := B.1
  refine Con.of (plainFor_of_name pn21) (Ls := #[vR ro0, .unset, .unset, .unset]) (fun _ => rfl) ?_
  intro p e s m below meth c T0 X0 H hml hZ hown hnm hret hlk e0
  have M0 := Nat.le_refl h.size
  have N0 := Fr.nil Z.heap.size
  refine gAloadN X0 H d21_0 rfl rfl 1 rfl ?_
  refine gGetF X0 H hZ hown (hw _ wd98) Via.refl e0 q1002 d21_1 4 rfl ?_
  intro T1003 X1003 e1003
  refine gAloadN X1003 H d21_4 rfl rfl 5 rfl ?_
  refine gGetF X1003 H hZ hown (hw _ wd96) Via.refl e1003 q1004 d21_5 8 rfl ?_
  intro T1005 X1005 e1005
  refine gLen X1005 H hZ e1005 q1007 d21_8 9 rfl ?_
  refine gCmpY X1005 H d21_9 (by decide) (by decide) 13 rfl ?_
  refine gLdc2 X1005 H hZ hown (hw _ wd139) d21_13 16 rfl ?_
  refine gAloadN X1005 H d21_16 rfl rfl 17 rfl ?_
  refine gGetF X1005 H hZ hown (hw _ wd96) Via.refl e1005 q1004 d21_17 20 rfl ?_
  intro T1008 X1008 e1008
  refine gLen X1008 H hZ e1008 q1007 d21_20 21 rfl ?_
  refine g_i2l X1008 H d21_21 (z := 2) (by decide) 22 rfl ?_
  refine g_lmul X1008 H d21_22 (z := 4) (by decide) 23 rfl ?_
  refine gLdc2 X1008 H hZ hown (hw _ wd140) d21_23 26 rfl ?_
  refine gStatic X1008 H hZ hown (hw _ wd141) (hw _ wd142) (by decide) (hw _ wd143) (hw _ wd59) (rm378_22 B _ O) e1008 hml rfl pd10 rfl (W := 0) (argsL := [(.long 4), (.long 2147483639)]) (rest := []) rfl rfl d21_26 29 rfl ?_
  intro v1010 T1010 L1010 hq1010 X1010
  obtain ⟨rfl, e1010, rfl⟩ := hq1010
  have N1010 := Fr.app N0 (Fr.nil _)
  show Go _ _ _ _ (State.setTop _ (mkF _ 29 _ [(.long 4)]))
  refine g_l2i X1010 H d21_29 (z := 4) (by decide) 30 rfl ?_
  refine gIstoreN X1010 H d21_30 (Ls' := #[vR ro0, vI 4, .unset, .unset]) rfl 31 rfl ?_
  refine gIloadN X1010 H d21_31 rfl 32 rfl ?_
  refine gAloadN X1010 H d21_32 rfl rfl 33 rfl ?_
  refine gGetF X1010 H hZ hown (hw _ wd98) Via.refl e1010 q1002 d21_33 36 rfl ?_
  intro T1011 X1011 e1011
  refine gCmpY X1011 H d21_36 (by decide) (by decide) 49 rfl ?_
  refine gIloadN X1011 H d21_49 rfl 50 rfl ?_
  refine gNewR X1011 H hZ hown (hw _ wd83) (hw _ wd62) e1011 (by decide) (cap := 4) (by decide) (by decide) (vs := [.null, .null, .null, .null]) rfl (by decide) (by decide) d21_50 53 rfl ?_
  intro T1012 h1012 b1012 k1012 X1012 e1012 z1012 E1012 V1012 Q1012
  have G_b1012 := Nat.le_trans O.1 (Nat.le_of_eq z1012)
  have sz_b1012 := Nat.le_trans M0 (Nat.le_of_eq z1012)
  have O1012 := extT O E1012
  refine gAstoreN X1012 H d21_53 rfl (Ls' := #[vR ro0, vI 4, vR b1012, .unset]) rfl 54 rfl ?_
  refine gIconst X1012 H d21_54 (z := 0) rfl 55 rfl ?_
  refine gIstoreN X1012 H d21_55 (Ls' := #[vR ro0, vI 4, vR b1012, vI 0]) rfl 56 rfl ?_
  refine gIloadN X1012 H d21_56 rfl 57 rfl ?_
  refine gAloadN X1012 H d21_57 rfl rfl 58 rfl ?_
  have c1013 := (q1002.ext E1012)
  refine gGetF X1012 H hZ hown (hw _ wd98) Via.refl e1012 c1013 d21_58 61 rfl ?_
  intro T1014 X1014 e1014
  refine gCmpN X1014 H d21_61 (by decide) 64 rfl ?_
  refine gAloadN X1014 H d21_64 rfl rfl 65 rfl ?_
  refine gIloadN X1014 H d21_65 rfl 66 rfl ?_
  refine gAloadN X1014 H d21_66 rfl rfl 67 rfl ?_
  refine gIloadN X1014 H d21_67 rfl 68 rfl ?_
  have c1016 := (q1015.ext E1012)
  have c1017 := (q1004.ext E1012)
  have c1019 := (q1018.ext E1012)
  have c1020 := (q1007.ext E1012)
  have c1022 := (q1021.ext E1012)
  refine gVirt X1014 H hZ hown (hw _ wd116) (hw _ wd117) (hw _ wd119) (hw _ wd118) (by decide) c1016 (hw _ wd120) (hw _ wd66) (rm394_17 B ro0 ro1 ck2 ro3 ro4 _ O1012 c1017 c1016 c1019 c1020 c1022) e1014 hml rfl pd11 rfl (W := 2) (argsL := [(.int 0)]) (rest := [(.int 0), (.ref b1012)]) rfl rfl d21_68 71 rfl ?_
  intro v1023 T1023 L1023 hq1023 X1023
  obtain ⟨rfl, e1023, rfl⟩ := hq1023
  have N1023 := Fr.app N1010 (Fr.nil _)
  show Go _ _ _ _ (State.setTop _ (mkF _ 71 _ [(.ref ro4), (.int 0), (.ref b1012)]))
  have c1026 := (q1025.ext E1012)
  refine gAastore X1023 H hZ e1023 rfl (stoV V1012 Q1012 (Ins.of_exa c1026 (hw _ wd63))) V1012 ⟨by decide, by decide⟩ (i := 0) rfl (Nat.le_of_ble_eq_true rfl) (vs' := [(.ref ro4), .null, .null, .null]) rfl d21_71 72 rfl ?_
  intro T1024 h1024 X1024 e1024 W1024 V1024
  have O1024 := extW O1012 W1024 G_b1012
  have N1024 := Fr.snoc X1024 N1023 G_b1012
  refine gIinc X1024 H d21_72 rfl (Ls' := #[vR ro0, vI 4, vR b1012, vI 1]) rfl 75 rfl ?_
  refine gGoto X1024 H d21_75 (by decide) 56 rfl ?_
  refine gIloadN X1024 H d21_56 rfl 57 rfl ?_
  refine gAloadN X1024 H d21_57 rfl rfl 58 rfl ?_
  have c1027 := (c1013.other W1024 (Or.inl (neB q1002.lt sz_b1012)))
  refine gGetF X1024 H hZ hown (hw _ wd98) Via.refl e1024 c1027 d21_58 61 rfl ?_
  intro T1028 X1028 e1028
  refine gCmpN X1028 H d21_61 (by decide) 64 rfl ?_
  refine gAloadN X1028 H d21_64 rfl rfl 65 rfl ?_
  refine gIloadN X1028 H d21_65 rfl 66 rfl ?_
  refine gAloadN X1028 H d21_66 rfl rfl 67 rfl ?_
  refine gIloadN X1028 H d21_67 rfl 68 rfl ?_
  have c1029 := (c1016.wr W1024)
  have c1030 := (c1017.other W1024 (Or.inl (neB q1002.lt sz_b1012)))
  have c1031 := (c1019.other W1024 (Or.inl (neB q1002.lt sz_b1012)))
  have c1032 := (c1022.other W1024 (neB q1007.lt sz_b1012))
  refine gVirt X1028 H hZ hown (hw _ wd116) (hw _ wd117) (hw _ wd119) (hw _ wd118) (by decide) c1029 (hw _ wd120) (hw _ wd66) (rm425_17 B ro0 ro1 ck2 ro3 ro4 _ O1024 c1030 c1029 c1031 (Arv.arl c1032) c1032) e1028 hml rfl pd11 rfl (W := 2) (argsL := [(.int 1)]) (rest := [(.int 1), (.ref b1012)]) rfl rfl d21_68 71 rfl ?_
  intro v1033 T1033 L1033 hq1033 X1033
  obtain ⟨rfl, e1033, rfl⟩ := hq1033
  have N1033 := Fr.app N1024 (Fr.nil _)
  show Go _ _ _ _ (State.setTop _ (mkF _ 71 _ [(.ref ro3), (.int 1), (.ref b1012)]))
  have c1036 := ((q1035.ext E1012).wr W1024)
  refine gAastore X1033 H hZ e1033 rfl (stoV V1024 Q1012 (Ins.of_exa c1036 (hw _ wd63))) V1024 ⟨by decide, by decide⟩ (i := 1) rfl (Nat.le_of_ble_eq_true rfl) (vs' := [(.ref ro4), (.ref ro3), .null, .null]) rfl d21_71 72 rfl ?_
  intro T1034 h1034 X1034 e1034 W1034 V1034
  have O1034 := extW O1024 W1034 G_b1012
  have N1034 := Fr.snoc X1034 N1033 G_b1012
  refine gIinc X1034 H d21_72 rfl (Ls' := #[vR ro0, vI 4, vR b1012, vI 2]) rfl 75 rfl ?_
  refine gGoto X1034 H d21_75 (by decide) 56 rfl ?_
  refine gIloadN X1034 H d21_56 rfl 57 rfl ?_
  refine gAloadN X1034 H d21_57 rfl rfl 58 rfl ?_
  have c1037 := (c1027.other W1034 (Or.inl (neB q1002.lt sz_b1012)))
  refine gGetF X1034 H hZ hown (hw _ wd98) Via.refl e1034 c1037 d21_58 61 rfl ?_
  intro T1038 X1038 e1038
  refine gCmpY X1038 H d21_61 (by decide) (by decide) 78 rfl ?_
  refine gAloadN X1038 H d21_78 rfl rfl 79 rfl ?_
  refine gAloadN X1038 H d21_79 rfl rfl 80 rfl ?_
  have c1040 := (c1029.wr W1034)
  have c1041 := (c1030.other W1034 (Or.inl (neB q1002.lt sz_b1012)))
  refine gPutF X1038 H hZ hown (hw _ wd96) Via.refl e1038 c1041 c1040 (Or.inl (hw _ wd97)) (hw _ wd65) (ty := (.array (.object "java/lang/Object"))) (by decide) (v' := (.ref b1012)) rfl rfl d21_80 83 rfl ?_
  intro T1039 h1039 X1039 e1039 W1039 F1039
  have O1039 := extW O1034 W1039 q1042
  have N1039 := Fr.snoc X1039 N1034 q1042
  refine gAloadN X1039 H d21_83 rfl rfl 84 rfl ?_
  refine gIconst X1039 H d21_84 (z := 0) rfl 85 rfl ?_
  have c1044 := (c1040.wr W1039)
  have c1045 := ((c1031.other W1034 (Or.inl (neB q1002.lt sz_b1012))).other W1039 (Or.inr (sn14 hw)))
  refine gPutF X1039 H hZ hown (hw _ wd125) Via.refl e1039 c1045 c1044 (Or.inl (hw _ wd126)) (hw _ wd65) (ty := .int) (by decide) (v' := (.int 0)) rfl rfl d21_85 88 rfl ?_
  intro T1043 h1043 X1043 e1043 W1043 F1043
  have O1043 := extW O1039 W1043 q1042
  have N1043 := Fr.snoc X1043 N1039 q1042
  have c1046 := ((c1037.other W1039 (Or.inr (sn6 hw))).other W1043 (Or.inr (sn16 hw)))
  have c1047 := (F1039.other W1043 (Or.inr (sn18 hw)))
  have c1048 := (c1044.wr W1043)
  have c1050 := (((((q1049.ext E1012).other W1024 (Or.inl (neB q1002.lt sz_b1012))).other W1034 (Or.inl (neB q1002.lt sz_b1012))).other W1039 (Or.inr (sn7 hw))).other W1043 (Or.inr (sn22 hw)))
  have c1052 := (((((q1051.ext E1012).other W1024 (Or.inl (neB q1002.lt sz_b1012))).other W1034 (Or.inl (neB q1002.lt sz_b1012))).other W1039 (Or.inr (sn11 hw))).other W1043 (Or.inr (sn17 hw)))
  have c1053 := ((V1034.other W1039 (Ne.symm (neB q1002.lt sz_b1012))).other W1043 (Ne.symm (neB q1002.lt sz_b1012)))
  have K_1054 := (Keep.refl h [ro0]).ext E1012
  have K_1055 := K_1054.wr W1024 (Or.inr sz_b1012)
  have K_1056 := K_1055.wr W1034 (Or.inr sz_b1012)
  have K_1057 := K_1056.wr W1039 (Or.inl (List.mem_of_getElem? (i := 0) rfl))
  have K_1058 := K_1057.wr W1043 (Or.inl (List.mem_of_getElem? (i := 0) rfl))
  exact gRetV X1043 H hlk hret d21_88 e1043 ⟨b1012, k1012, rfl, N1043, K_1058, sz_b1012, c1046, c1047, c1053, c1048, F1043, c1050, c1052, Q1012⟩
theorem rm1101_20 (B : Bg Z a0 wE0 w_cacheI k_wE0 cl_cacheI) (ro0 ro1 ro2 : Addr) (ck3 : ClassId) (ro4 ro5 : Addr) (h : Heap) (O : Ext Z.heap h) (q1001 : Exa Z h ro0 cs3) (q1060 : Fld Z h ro0 cs3 "size" "I" (.int 2)) (q1061 : Fld Z h ro0 cs3 "buffer" cs2 (.ref ro2)) (q1062 : Arl Z h ro2 (2 : Int32)) (q1063 : Fld Z h ro0 cs3 "head" "I" (.int 1)) (q1064 : Arv Z h ro2 ck3 (.object "java/lang/Object") (2 : Int32) [(.ref ro4), (.ref ro5)] .null) (q1065 : Exa Z h ro5 cs4) (q1066 : Exa Z h ro4 cs4) (q1067 : Z.heap.size ≤ ro0) (q1068 : Fld Z h ro0 cs3 "serial" "I" (.int 1)) (q1069 : Fld Z h ro0 cs3 "firstNumber" "J" (.long (-1))) (q1087 : Exa Z h ro1 cs4) :
    Con l Z yM20 prog_50_method_9_code 2 none ({ frames := 3, cells := 1, slots := 4, locals := 45 } : Room) #[(.ref ro0), (.ref ro1)] h (fun v h' L => ∃ (b1070_0 : Addr) (k1070_0 : ClassId), v = none ∧ Fr Z.heap.size L ∧ Keep h h' [ro0] ∧ h.size ≤ b1070_0 ∧ Exa Z h' ro0 cs3 ∧ Fld Z h' ro0 cs3 "size" "I" (.int 3) ∧ Fld Z h' ro0 cs3 "buffer" cs2 (.ref b1070_0) ∧ Fld Z h' ro0 cs3 "head" "I" (.int 3) ∧ Fld Z h' ro0 cs3 "serial" "I" (.int 1) ∧ Fld Z h' ro0 cs3 "firstNumber" "J" (.long (-2)) ∧ Arv Z h' b1070_0 k1070_0 (.object "java/lang/Object") (4 : Int32) [(.ref ro5), (.ref ro4), .null, (.ref ro1)] .null ∧ Ovr Z k1070_0 "java/lang/Object") := by
  have hw := B.1
  refine Con.of (plainFor_of_name pn20) (Ls := #[vR ro0, vR ro1]) (fun _ => rfl) ?_
  intro p e s m below meth c T0 X0 H hml hZ hown hnm hret hlk e0
  have M0 := Nat.le_refl h.size
  have N0 := Fr.nil Z.heap.size
  refine gAloadN X0 H d20_0 rfl rfl 1 rfl ?_
  refine gPrivate X0 H hZ hown (hw _ wd135) (hw _ wd136) (hw _ wd137) (hw _ wd65) (by decide) q1001 (hw _ wd138) (hw _ wd66) (rm1059_21 B ro0 ro2 ck3 ro4 ro5 _ O q1060 q1061 q1062 q1001 q1063 q1064 q1065 q1066 q1067 q1068 q1069) e0 hml rfl pd0 rfl (W := 0) (argsL := []) (rest := []) rfl rfl d20_1 4 rfl ?_
  intro v1070 T1070 L1070 hq1070 X1070
  obtain ⟨b1070_0, k1070_0, rfl, N1070q, K1070, s1070_0, f1070_0, f1070_1, f1070_2, f1070_3, f1070_4, f1070_5, f1070_6, f1070_7⟩ := hq1070
  have G_b1070_0 := Nat.le_trans O.1 s1070_0
  have sz_b1070_0 := Nat.le_trans M0 s1070_0
  have O1070 := extK O K1070 (allS q1067 all0)
  have N1070 := Fr.app N0 N1070q
  show Go _ _ _ _ (State.setTop _ (mkF _ 4 _ []))
  refine gAloadN X1070 H d20_4 rfl rfl 5 rfl ?_
  refine gAloadN X1070 H d20_5 rfl rfl 6 rfl ?_
  refine gAloadN X1070 H d20_6 rfl rfl 7 rfl ?_
  refine gGetF X1070 H hZ hown (hw _ wd96) Via.refl rfl f1070_1 d20_7 10 rfl ?_
  intro T1071 X1071 e1071
  refine gLen X1071 H hZ e1071 (Arv.arl f1070_2) d20_10 11 rfl ?_
  refine gIconst X1071 H d20_11 (z := 1) rfl 12 rfl ?_
  refine g_isub X1071 H d20_12 (z := 3) (by decide) 13 rfl ?_
  refine gPrivate X1071 H hZ hown (hw _ wd121) (hw _ wd122) (hw _ wd123) (hw _ wd65) (by decide) f1070_3 (hw _ wd124) (hw _ wd66) (rm475_18 B ro0 b1070_0 _ O1070 f1070_4 f1070_1 (Arv.arl f1070_2)) e1071 hml rfl pd6 rfl (W := 1) (argsL := [(.int 3)]) (rest := [(.ref ro0)]) rfl rfl d20_13 16 rfl ?_
  intro v1073 T1073 L1073 hq1073 X1073
  obtain ⟨rfl, e1073, rfl⟩ := hq1073
  have N1073 := Fr.app N1070 (Fr.nil _)
  show Go _ _ _ _ (State.setTop _ (mkF _ 16 _ [(.int 3), (.ref ro0)]))
  refine gPutF X1073 H hZ hown (hw _ wd125) Via.refl e1073 f1070_4 f1070_3 (Or.inl (hw _ wd126)) (hw _ wd65) (ty := .int) (by decide) (v' := (.int 3)) rfl rfl d20_16 19 rfl ?_
  intro T1074 h1074 X1074 e1074 W1074 F1074
  have O1074 := extW O1070 W1074 q1067
  have N1074 := Fr.snoc X1074 N1073 q1067
  refine gAloadN X1074 H d20_19 rfl rfl 20 rfl ?_
  refine gDup X1074 H d20_20 rfl 21 rfl ?_
  have c1075 := (f1070_0.other W1074 (Or.inr (sn16 hw)))
  refine gGetF X1074 H hZ hown (hw _ wd98) Via.refl e1074 c1075 d20_21 24 rfl ?_
  intro T1076 X1076 e1076
  refine gIconst X1076 H d20_24 (z := 1) rfl 25 rfl ?_
  refine g_iadd X1076 H d20_25 (z := 3) (by decide) 26 rfl ?_
  have c1078 := (f1070_3.wr W1074)
  refine gPutF X1076 H hZ hown (hw _ wd98) Via.refl e1076 c1075 c1078 (Or.inl (hw _ wd99)) (hw _ wd65) (ty := .int) (by decide) (v' := (.int 3)) rfl rfl d20_26 29 rfl ?_
  intro T1077 h1077 X1077 e1077 W1077 F1077
  have O1077 := extW O1074 W1077 q1067
  have N1077 := Fr.snoc X1077 N1074 q1067
  refine gAloadN X1077 H d20_29 rfl rfl 30 rfl ?_
  refine gDup X1077 H d20_30 rfl 31 rfl ?_
  have c1079 := ((f1070_6.other W1074 (Or.inr (sn17 hw))).other W1077 (Or.inr (sn12 hw)))
  refine gGetF X1077 H hZ hown (hw _ wd105) Via.refl e1077 c1079 d20_31 34 rfl ?_
  intro T1080 X1080 e1080
  refine gLconst X1080 H d20_34 (z := 1) rfl 35 rfl ?_
  refine g_lsub X1080 H d20_35 (z := (-2)) (by decide) 36 rfl ?_
  have c1082 := (c1078.wr W1077)
  refine gPutF X1080 H hZ hown (hw _ wd105) Via.refl e1080 c1079 c1082 (Or.inl (hw _ wd106)) (hw _ wd65) (ty := .long) (by decide) (v' := (.long (-2))) rfl rfl d20_36 39 rfl ?_
  intro T1081 h1081 X1081 e1081 W1081 F1081
  have O1081 := extW O1077 W1081 q1067
  have N1081 := Fr.snoc X1081 N1077 q1067
  refine gAloadN X1081 H d20_39 rfl rfl 40 rfl ?_
  refine gIconst X1081 H d20_40 (z := 0) rfl 41 rfl ?_
  refine gAloadN X1081 H d20_41 rfl rfl 42 rfl ?_
  have c1083 := (c1082.wr W1081)
  have c1084 := (((f1070_1.other W1074 (Or.inr (sn18 hw))).other W1077 (Or.inr (sn9 hw))).other W1081 (Or.inr (sn19 hw)))
  have c1085 := ((F1074.other W1077 (Or.inr (sn15 hw))).other W1081 (Or.inr (sn20 hw)))
  have c1086 := (((f1070_2.other W1074 (Ne.symm (neB q1001.lt sz_b1070_0))).other W1077 (Ne.symm (neB q1001.lt sz_b1070_0))).other W1081 (Ne.symm (neB q1001.lt sz_b1070_0)))
  have c1088 := ((((q1087.keep K1070).wr W1074).wr W1077).wr W1081)
  refine gVirt X1081 H hZ hown (hw _ wd144) (hw _ wd145) (hw _ wd147) (hw _ wd146) (by decide) c1083 (hw _ wd148) (hw _ wd66) (rm506_23 B ro0 ro1 b1070_0 k1070_0 ro5 ro4 _ O1081 c1084 c1083 c1085 (Arv.arl c1086) c1086 c1088 f1070_7 G_b1070_0) e1081 hml rfl pd7 rfl (W := 0) (argsL := [(.int 0), (.ref ro1)]) (rest := []) rfl rfl d20_42 45 rfl ?_
  intro v1089 T1089 L1089 hq1089 X1089
  obtain ⟨rfl, N1089q, K1089, f1089_0⟩ := hq1089
  have O1089 := extK O1081 K1089 (allS G_b1070_0 all0)
  have N1089 := Fr.app N1081 N1089q
  show Go _ _ _ _ (State.setTop _ (mkF _ 45 _ []))
  have c1090 := (c1083.keep K1089)
  have c1091 := ((F1077.other W1081 (Or.inr (sn21 hw))).keep K1089 (ninS (neB q1001.lt sz_b1070_0) nin0))
  have c1092 := (c1084.keep K1089 (ninS (neB q1001.lt sz_b1070_0) nin0))
  have c1093 := (c1085.keep K1089 (ninS (neB q1001.lt sz_b1070_0) nin0))
  have c1094 := ((((f1070_5.other W1074 (Or.inr (sn22 hw))).other W1077 (Or.inr (sn8 hw))).other W1081 (Or.inr (sn23 hw))).keep K1089 (ninS (neB q1001.lt sz_b1070_0) nin0))
  have c1095 := (F1081.keep K1089 (ninS (neB q1001.lt sz_b1070_0) nin0))
  have K_1096 := (Keep.refl h [ro0]).trans K1070 (allS (Or.inl (List.mem_of_getElem? (i := 0) rfl)) all0)
  have K_1097 := K_1096.wr W1074 (Or.inl (List.mem_of_getElem? (i := 0) rfl))
  have K_1098 := K_1097.wr W1077 (Or.inl (List.mem_of_getElem? (i := 0) rfl))
  have K_1099 := K_1098.wr W1081 (Or.inl (List.mem_of_getElem? (i := 0) rfl))
  have K_1100 := K_1099.trans K1089 (allS (Or.inr sz_b1070_0) all0)
  exact gRetV X1089 H hlk hret d20_45 rfl ⟨b1070_0, k1070_0, rfl, N1089, K_1100, sz_b1070_0, c1090, c1091, c1092, c1093, c1094, c1095, f1089_0, f1070_7⟩
theorem rm1126_15 (B : Bg Z a0 wE0 w_cacheI k_wE0 cl_cacheI) (ro0 ro1 : Addr) (ck2 : ClassId) (ro3 ro4 : Addr) (h : Heap) (O : Ext Z.heap h) (q999 : Exa Z h ro0 cs3) (q1102 : Fld Z h ro0 cs3 "size" "I" (.int 2)) (q1104 : Fld Z h ro0 cs3 "buffer" cs2 (.ref ro1)) (q1106 : Arl Z h ro1 (2 : Int32)) (q1108 : Fld Z h ro0 cs3 "head" "I" (.int 1)) (q1110 : Arv Z h ro1 ck2 (.object "java/lang/Object") (2 : Int32) [(.ref ro3), (.ref ro4)] .null) (q1112 : Exa Z h ro4 cs4) (q1114 : Exa Z h ro3 cs4) (q1116 : Z.heap.size ≤ ro0) (q1117 : Fld Z h ro0 cs3 "serial" "I" (.int 1)) (q1119 : Fld Z h ro0 cs3 "firstNumber" "J" (.long (-1))) :
    Con l Z yM15 method_2_code 2 none ({ frames := 4, cells := 1, slots := 4, locals := 58 } : Room) #[(.ref ro0), (.int 0)] h (fun v h' L => ∃ (b998_0 b1121_0 : Addr) (k1121_0 : ClassId), v = none ∧ Fr Z.heap.size L ∧ Keep h h' [ro0] ∧ h.size ≤ b1121_0 ∧ Exa Z h' b998_0 cs4 ∧ Exa Z h' ro0 cs3 ∧ Fld Z h' ro0 cs3 "size" "I" (.int 3) ∧ Fld Z h' ro0 cs3 "buffer" cs2 (.ref b1121_0) ∧ Fld Z h' ro0 cs3 "head" "I" (.int 3) ∧ Fld Z h' ro0 cs3 "serial" "I" (.int 1) ∧ Fld Z h' ro0 cs3 "firstNumber" "J" (.long (-2)) ∧ Arv Z h' b1121_0 k1121_0 (.object "java/lang/Object") (4 : Int32) [(.ref ro4), (.ref ro3), .null, (.ref b998_0)] .null ∧ b998_0 ≠ b1121_0 ∧ Ovr Z k1121_0 "java/lang/Object") := by
  have hw := B.1
  refine Con.of (plainFor_of_name pn15) (Ls := #[vR ro0, vI 0]) (fun _ => rfl) ?_
  intro p e s m below meth c T0 X0 H hml hZ hown hnm hret hlk e0
  have M0 := Nat.le_refl h.size
  have N0 := Fr.nil Z.heap.size
  refine gIloadN X0 H d15_0 rfl 1 rfl ?_
  refine gIfY X0 H d15_1 (by decide) (by decide) 12 rfl ?_
  refine gAloadN X0 H d15_12 rfl rfl 13 rfl ?_
  refine gBipush X0 H d15_13 (z := 20) rfl 15 rfl ?_
  refine gStatic X0 H hZ hown (hw _ wd26) (hw _ wd27) (by decide) (hw _ wd29) (hw _ wd28) (rm110_5 B _ O) e0 hml rfl pd5 rfl (W := 1) (argsL := [(.int 20)]) (rest := [(.ref ro0)]) rfl rfl d15_15 18 rfl ?_
  intro v998 T998 L998 hq998 X998
  obtain ⟨b998_0, rfl, N998q, K998, f998_0⟩ := hq998
  have O998 := extK O K998 all0
  have N998 := Fr.app N0 N998q
  show Go _ _ _ _ (State.setTop _ (mkF _ 18 _ [(.ref b998_0), (.ref ro0)]))
  have c1000 := (q999.keep K998)
  have c1103 := (q1102.keep K998 nin0)
  have c1105 := (q1104.keep K998 nin0)
  have c1107 := (q1106.keep K998 nin0)
  have c1109 := (q1108.keep K998 nin0)
  have c1111 := (q1110.keep K998 nin0)
  have c1113 := (q1112.keep K998)
  have c1115 := (q1114.keep K998)
  have c1118 := (q1117.keep K998 nin0)
  have c1120 := (q1119.keep K998 nin0)
  refine gVirt X998 H hZ hown (hw _ wd130) (hw _ wd131) (hw _ wd133) (hw _ wd132) (by decide) c1000 (hw _ wd134) (hw _ wd66) (rm1101_20 B ro0 b998_0 ro1 ck2 ro3 ro4 _ O998 c1000 c1103 c1105 c1107 c1109 c1111 c1113 c1115 q1116 c1118 c1120 f998_0) rfl hml rfl pd8 rfl (W := 0) (argsL := [(.ref b998_0)]) (rest := []) rfl rfl d15_18 21 rfl ?_
  intro v1121 T1121 L1121 hq1121 X1121
  obtain ⟨b1121_0, k1121_0, rfl, N1121q, K1121, s1121_0, f1121_0, f1121_1, f1121_2, f1121_3, f1121_4, f1121_5, f1121_6, f1121_7⟩ := hq1121
  have M1122 := (Nat.le_trans M0 K998.1)
  have G_b1121_0 := Nat.le_trans O998.1 s1121_0
  have sz_b1121_0 := Nat.le_trans M1122 s1121_0
  have ne_b998_0_b1121_0 : b998_0 ≠ b1121_0 := neB f998_0.lt s1121_0
  have O1121 := extK O998 K1121 (allS q1116 all0)
  have N1121 := Fr.app N998 N1121q
  show Go _ _ _ _ (State.setTop _ (mkF _ 21 _ []))
  have c1123 := (f998_0.keep K1121)
  have K_1124 := (Keep.refl h [ro0]).trans K998 all0
  have K_1125 := K_1124.trans K1121 (allS (Or.inl (List.mem_of_getElem? (i := 0) rfl)) all0)
  exact gRetV X1121 H hlk hret d15_21 rfl ⟨b998_0, b1121_0, k1121_0, rfl, N1121, K_1125, sz_b1121_0, c1123, f1121_0, f1121_1, f1121_2, f1121_3, f1121_4, f1121_5, f1121_6, ne_b998_0_b1121_0, f1121_7⟩
theorem rm1144_21 (B : Bg Z a0 wE0 w_cacheI k_wE0 cl_cacheI) (ro0 ro1 : Addr) (h : Heap) (O : Ext Z.heap h) (q1138 : Fld Z h ro0 cs3 "size" "I" (.int 3)) (q1140 : Fld Z h ro0 cs3 "buffer" cs2 (.ref ro1)) (q1143 : Arl Z h ro1 (4 : Int32)) :
    Con l Z yM21 prog_50_method_13_code 4 none ({ frames := 0, cells := 0, slots := 0, locals := 0 } : Room) #[(.ref ro0)] h (fun v h' L => v = none ∧ h' = h ∧ L = []) := by
  have hw := B.1
  refine Con.of (plainFor_of_name pn21) (Ls := #[vR ro0, .unset, .unset, .unset]) (fun _ => rfl) ?_
  intro p e s m below meth c T0 X0 H hml hZ hown hnm hret hlk e0
  refine gAloadN X0 H d21_0 rfl rfl 1 rfl ?_
  refine gGetF X0 H hZ hown (hw _ wd98) Via.refl e0 q1138 d21_1 4 rfl ?_
  intro T1139 X1139 e1139
  refine gAloadN X1139 H d21_4 rfl rfl 5 rfl ?_
  refine gGetF X1139 H hZ hown (hw _ wd96) Via.refl e1139 q1140 d21_5 8 rfl ?_
  intro T1141 X1141 e1141
  refine gLen X1141 H hZ e1141 q1143 d21_8 9 rfl ?_
  refine gCmpN X1141 H d21_9 (by decide) 12 rfl ?_
  exact gRetV X1141 H hlk hret d21_12 e1141 ⟨rfl, rfl, rfl⟩
theorem rm1159_18 (B : Bg Z a0 wE0 w_cacheI k_wE0 cl_cacheI) (ro0 ro1 : Addr) (h : Heap) (O : Ext Z.heap h) (q1151 : Fld Z h ro0 cs3 "head" "I" (.int 3)) (q1153 : Fld Z h ro0 cs3 "buffer" cs2 (.ref ro1)) (q1156 : Arl Z h ro1 (4 : Int32)) :
    Con l Z yM18 prog_50_method_12_code 3 (some .int) ({ frames := 0, cells := 0, slots := 0, locals := 0 } : Room) #[(.ref ro0), (.int 3)] h (fun v h' L => v = some (.int 2) ∧ h' = h ∧ L = []) := by
  have hw := B.1
  refine Con.of (plainFor_of_name pn18) (Ls := #[vR ro0, vI 3, .unset]) (fun _ => rfl) ?_
  intro p e s m below meth c T0 X0 H hml hZ hown hnm hret hlk e0
  refine gAloadN X0 H d18_0 rfl rfl 1 rfl ?_
  refine gGetF X0 H hZ hown (hw _ wd125) Via.refl e0 q1151 d18_1 4 rfl ?_
  intro T1152 X1152 e1152
  refine gIloadN X1152 H d18_4 rfl 5 rfl ?_
  refine g_iadd X1152 H d18_5 (z := 6) (by decide) 6 rfl ?_
  refine gIstoreN X1152 H d18_6 (Ls' := #[vR ro0, vI 3, vI 6]) rfl 7 rfl ?_
  refine gIloadN X1152 H d18_7 rfl 8 rfl ?_
  refine gAloadN X1152 H d18_8 rfl rfl 9 rfl ?_
  refine gGetF X1152 H hZ hown (hw _ wd96) Via.refl e1152 q1153 d18_9 12 rfl ?_
  intro T1154 X1154 e1154
  refine gLen X1154 H hZ e1154 q1156 d18_12 13 rfl ?_
  refine gCmpY X1154 H d18_13 (by decide) (by decide) 20 rfl ?_
  refine gIloadN X1154 H d18_20 rfl 21 rfl ?_
  refine gAloadN X1154 H d18_21 rfl rfl 22 rfl ?_
  refine gGetF X1154 H hZ hown (hw _ wd96) Via.refl e1154 q1153 d18_22 25 rfl ?_
  intro T1157 X1157 e1157
  refine gLen X1157 H hZ e1157 q1156 d18_25 26 rfl ?_
  refine g_isub X1157 H d18_26 (z := 2) (by decide) 27 rfl ?_
  exact gRetI X1157 H hlk hret d18_27 e1157 ⟨rfl, rfl, rfl⟩
theorem rm1183_18 (B : Bg Z a0 wE0 w_cacheI k_wE0 cl_cacheI) (ro0 ro1 : Addr) (h : Heap) (O : Ext Z.heap h) (q1177 : Fld Z h ro0 cs3 "head" "I" (.int 2)) (q1179 : Fld Z h ro0 cs3 "buffer" cs2 (.ref ro1)) (q1182 : Arl Z h ro1 (4 : Int32)) :
    Con l Z yM18 prog_50_method_12_code 3 (some .int) ({ frames := 0, cells := 0, slots := 0, locals := 0 } : Room) #[(.ref ro0), (.int 0)] h (fun v h' L => v = some (.int 2) ∧ h' = h ∧ L = []) := by
  have hw := B.1
  refine Con.of (plainFor_of_name pn18) (Ls := #[vR ro0, vI 0, .unset]) (fun _ => rfl) ?_
  intro p e s m below meth c T0 X0 H hml hZ hown hnm hret hlk e0
  refine gAloadN X0 H d18_0 rfl rfl 1 rfl ?_
  refine gGetF X0 H hZ hown (hw _ wd125) Via.refl e0 q1177 d18_1 4 rfl ?_
  intro T1178 X1178 e1178
  refine gIloadN X1178 H d18_4 rfl 5 rfl ?_
  refine g_iadd X1178 H d18_5 (z := 2) (by decide) 6 rfl ?_
  refine gIstoreN X1178 H d18_6 (Ls' := #[vR ro0, vI 0, vI 2]) rfl 7 rfl ?_
  refine gIloadN X1178 H d18_7 rfl 8 rfl ?_
  refine gAloadN X1178 H d18_8 rfl rfl 9 rfl ?_
  refine gGetF X1178 H hZ hown (hw _ wd96) Via.refl e1178 q1179 d18_9 12 rfl ?_
  intro T1180 X1180 e1180
  refine gLen X1180 H hZ e1180 q1182 d18_12 13 rfl ?_
  refine gCmpN X1180 H d18_13 (by decide) 16 rfl ?_
  refine gIloadN X1180 H d18_16 rfl 17 rfl ?_
  refine gGoto X1180 H d18_17 (by decide) 27 rfl ?_
  exact gRetI X1180 H hlk hret d18_27 e1180 ⟨rfl, rfl, rfl⟩
theorem rm1193_23 (B : Bg Z a0 wE0 w_cacheI k_wE0 cl_cacheI) (ro0 ro1 ro2 : Addr) (ck3 : ClassId) (ro4 ro5 ro6 : Addr) (h : Heap) (O : Ext Z.heap h) (q1174 : Fld Z h ro0 cs3 "buffer" cs2 (.ref ro2)) (q1176 : Exa Z h ro0 cs3) (q1184 : Fld Z h ro0 cs3 "head" "I" (.int 2)) (q1185 : Arl Z h ro2 (4 : Int32)) (q1188 : Arv Z h ro2 ck3 (.object "java/lang/Object") (4 : Int32) [(.ref ro4), (.ref ro5), .null, (.ref ro6)] .null) (q1189 : Exa Z h ro1 cs4) (q1190 : Ovr Z ck3 "java/lang/Object") (q1191 : Z.heap.size ≤ ro2) :
    Con l Z yM23 prog_50_method_5_code 3 none ({ frames := 1, cells := 0, slots := 0, locals := 15 } : Room) #[(.ref ro0), (.int 0), (.ref ro1)] h (fun v h' L => v = none ∧ Fr Z.heap.size L ∧ Keep h h' [ro2] ∧ Arv Z h' ro2 ck3 (.object "java/lang/Object") (4 : Int32) [(.ref ro4), (.ref ro5), (.ref ro1), (.ref ro6)] .null) := by
  have hw := B.1
  refine Con.of (plainFor_of_name pn23) (Ls := #[vR ro0, vI 0, vR ro1]) (fun _ => rfl) ?_
  intro p e s m below meth c T0 X0 H hml hZ hown hnm hret hlk e0
  have N0 := Fr.nil Z.heap.size
  refine gAloadN X0 H d23_0 rfl rfl 1 rfl ?_
  refine gGetF X0 H hZ hown (hw _ wd96) Via.refl e0 q1174 d23_1 4 rfl ?_
  intro T1175 X1175 e1175
  refine gAloadN X1175 H d23_4 rfl rfl 5 rfl ?_
  refine gIloadN X1175 H d23_5 rfl 6 rfl ?_
  refine gPrivate X1175 H hZ hown (hw _ wd121) (hw _ wd122) (hw _ wd123) (hw _ wd65) (by decide) q1176 (hw _ wd124) (hw _ wd66) (rm1183_18 B ro0 ro2 _ O q1184 q1174 q1185) e1175 hml rfl pd6 rfl (W := 1) (argsL := [(.int 0)]) (rest := [(.ref ro2)]) rfl rfl d23_6 9 rfl ?_
  intro v1186 T1186 L1186 hq1186 X1186
  obtain ⟨rfl, e1186, rfl⟩ := hq1186
  have N1186 := Fr.app N0 (Fr.nil _)
  show Go _ _ _ _ (State.setTop _ (mkF _ 9 _ [(.int 2), (.ref ro2)]))
  refine gAloadN X1186 H d23_9 rfl rfl 10 rfl ?_
  refine gAastore X1186 H hZ e1186 rfl (stoV q1188 q1190 (Ins.of_exa q1189 (hw _ wd63))) q1188 ⟨by decide, by decide⟩ (i := 2) rfl (Nat.le_of_ble_eq_true rfl) (vs' := [(.ref ro4), (.ref ro5), (.ref ro1), (.ref ro6)]) rfl d23_10 11 rfl ?_
  intro T1187 h1187 X1187 e1187 W1187 V1187
  have O1187 := extW O W1187 q1191
  have N1187 := Fr.snoc X1187 N1186 q1191
  have K_1192 := (Keep.refl h [ro2]).wr W1187 (Or.inl (List.mem_of_getElem? (i := 0) rfl))
  exact gRetV X1187 H hlk hret d23_11 e1187 ⟨rfl, N1187, K_1192, V1187⟩
theorem rm1217_20 (B : Bg Z a0 wE0 w_cacheI k_wE0 cl_cacheI) (ro0 ro1 ro2 : Addr) (ck3 : ClassId) (ro4 ro5 ro6 : Addr) (h : Heap) (O : Ext Z.heap h) (q1137 : Exa Z h ro0 cs3) (q1145 : Fld Z h ro0 cs3 "size" "I" (.int 3)) (q1146 : Fld Z h ro0 cs3 "buffer" cs2 (.ref ro2)) (q1147 : Arl Z h ro2 (4 : Int32)) (q1160 : Fld Z h ro0 cs3 "head" "I" (.int 3)) (q1163 : Z.heap.size ≤ ro0) (q1168 : Fld Z h ro0 cs3 "firstNumber" "J" (.long (-2))) (q1197 : ro2 ≠ ro0) (q1199 : Arv Z h ro2 ck3 (.object "java/lang/Object") (4 : Int32) [(.ref ro4), (.ref ro5), .null, (.ref ro6)] .null) (q1201 : Exa Z h ro1 cs4) (q1203 : Ovr Z ck3 "java/lang/Object") (q1204 : Z.heap.size ≤ ro2) (q1211 : Fld Z h ro0 cs3 "serial" "I" (.int 1)) :
    Con l Z yM20 prog_50_method_9_code 2 none ({ frames := 2, cells := 0, slots := 0, locals := 29 } : Room) #[(.ref ro0), (.ref ro1)] h (fun v h' L => v = none ∧ Fr Z.heap.size L ∧ Keep h h' [ro0, ro2] ∧ Exa Z h' ro0 cs3 ∧ Fld Z h' ro0 cs3 "size" "I" (.int 4) ∧ Fld Z h' ro0 cs3 "buffer" cs2 (.ref ro2) ∧ Fld Z h' ro0 cs3 "head" "I" (.int 2) ∧ Fld Z h' ro0 cs3 "firstNumber" "J" (.long (-3)) ∧ Arv Z h' ro2 ck3 (.object "java/lang/Object") (4 : Int32) [(.ref ro4), (.ref ro5), (.ref ro1), (.ref ro6)] .null ∧ Fld Z h' ro0 cs3 "serial" "I" (.int 1)) := by
  have hw := B.1
  refine Con.of (plainFor_of_name pn20) (Ls := #[vR ro0, vR ro1]) (fun _ => rfl) ?_
  intro p e s m below meth c T0 X0 H hml hZ hown hnm hret hlk e0
  have N0 := Fr.nil Z.heap.size
  refine gAloadN X0 H d20_0 rfl rfl 1 rfl ?_
  refine gPrivate X0 H hZ hown (hw _ wd135) (hw _ wd136) (hw _ wd137) (hw _ wd65) (by decide) q1137 (hw _ wd138) (hw _ wd66) (rm1144_21 B ro0 ro2 _ O q1145 q1146 q1147) e0 hml rfl pd0 rfl (W := 0) (argsL := []) (rest := []) rfl rfl d20_1 4 rfl ?_
  intro v1148 T1148 L1148 hq1148 X1148
  obtain ⟨rfl, e1148, rfl⟩ := hq1148
  have N1148 := Fr.app N0 (Fr.nil _)
  show Go _ _ _ _ (State.setTop _ (mkF _ 4 _ []))
  refine gAloadN X1148 H d20_4 rfl rfl 5 rfl ?_
  refine gAloadN X1148 H d20_5 rfl rfl 6 rfl ?_
  refine gAloadN X1148 H d20_6 rfl rfl 7 rfl ?_
  refine gGetF X1148 H hZ hown (hw _ wd96) Via.refl e1148 q1146 d20_7 10 rfl ?_
  intro T1149 X1149 e1149
  refine gLen X1149 H hZ e1149 q1147 d20_10 11 rfl ?_
  refine gIconst X1149 H d20_11 (z := 1) rfl 12 rfl ?_
  refine g_isub X1149 H d20_12 (z := 3) (by decide) 13 rfl ?_
  refine gPrivate X1149 H hZ hown (hw _ wd121) (hw _ wd122) (hw _ wd123) (hw _ wd65) (by decide) q1137 (hw _ wd124) (hw _ wd66) (rm1159_18 B ro0 ro2 _ O q1160 q1146 q1147) e1149 hml rfl pd6 rfl (W := 1) (argsL := [(.int 3)]) (rest := [(.ref ro0)]) rfl rfl d20_13 16 rfl ?_
  intro v1161 T1161 L1161 hq1161 X1161
  obtain ⟨rfl, e1161, rfl⟩ := hq1161
  have N1161 := Fr.app N1148 (Fr.nil _)
  show Go _ _ _ _ (State.setTop _ (mkF _ 16 _ [(.int 2), (.ref ro0)]))
  refine gPutF X1161 H hZ hown (hw _ wd125) Via.refl e1161 q1160 q1137 (Or.inl (hw _ wd126)) (hw _ wd65) (ty := .int) (by decide) (v' := (.int 2)) rfl rfl d20_16 19 rfl ?_
  intro T1162 h1162 X1162 e1162 W1162 F1162
  have O1162 := extW O W1162 q1163
  have N1162 := Fr.snoc X1162 N1161 q1163
  refine gAloadN X1162 H d20_19 rfl rfl 20 rfl ?_
  refine gDup X1162 H d20_20 rfl 21 rfl ?_
  have c1164 := (q1145.other W1162 (Or.inr (sn16 hw)))
  refine gGetF X1162 H hZ hown (hw _ wd98) Via.refl e1162 c1164 d20_21 24 rfl ?_
  intro T1165 X1165 e1165
  refine gIconst X1165 H d20_24 (z := 1) rfl 25 rfl ?_
  refine g_iadd X1165 H d20_25 (z := 4) (by decide) 26 rfl ?_
  have c1167 := (q1137.wr W1162)
  refine gPutF X1165 H hZ hown (hw _ wd98) Via.refl e1165 c1164 c1167 (Or.inl (hw _ wd99)) (hw _ wd65) (ty := .int) (by decide) (v' := (.int 4)) rfl rfl d20_26 29 rfl ?_
  intro T1166 h1166 X1166 e1166 W1166 F1166
  have O1166 := extW O1162 W1166 q1163
  have N1166 := Fr.snoc X1166 N1162 q1163
  refine gAloadN X1166 H d20_29 rfl rfl 30 rfl ?_
  refine gDup X1166 H d20_30 rfl 31 rfl ?_
  have c1169 := ((q1168.other W1162 (Or.inr (sn17 hw))).other W1166 (Or.inr (sn12 hw)))
  refine gGetF X1166 H hZ hown (hw _ wd105) Via.refl e1166 c1169 d20_31 34 rfl ?_
  intro T1170 X1170 e1170
  refine gLconst X1170 H d20_34 (z := 1) rfl 35 rfl ?_
  refine g_lsub X1170 H d20_35 (z := (-3)) (by decide) 36 rfl ?_
  have c1172 := (c1167.wr W1166)
  refine gPutF X1170 H hZ hown (hw _ wd105) Via.refl e1170 c1169 c1172 (Or.inl (hw _ wd106)) (hw _ wd65) (ty := .long) (by decide) (v' := (.long (-3))) rfl rfl d20_36 39 rfl ?_
  intro T1171 h1171 X1171 e1171 W1171 F1171
  have O1171 := extW O1166 W1171 q1163
  have N1171 := Fr.snoc X1171 N1166 q1163
  refine gAloadN X1171 H d20_39 rfl rfl 40 rfl ?_
  refine gIconst X1171 H d20_40 (z := 0) rfl 41 rfl ?_
  refine gAloadN X1171 H d20_41 rfl rfl 42 rfl ?_
  have c1173 := (c1172.wr W1171)
  have c1194 := (((q1146.other W1162 (Or.inr (sn18 hw))).other W1166 (Or.inr (sn9 hw))).other W1171 (Or.inr (sn19 hw)))
  have c1195 := ((F1162.other W1166 (Or.inr (sn15 hw))).other W1171 (Or.inr (sn20 hw)))
  have c1198 := (((q1147.other W1162 q1197).other W1166 q1197).other W1171 q1197)
  have c1200 := (((q1199.other W1162 q1197).other W1166 q1197).other W1171 q1197)
  have c1202 := (((q1201.wr W1162).wr W1166).wr W1171)
  refine gVirt X1171 H hZ hown (hw _ wd144) (hw _ wd145) (hw _ wd147) (hw _ wd146) (by decide) c1173 (hw _ wd148) (hw _ wd66) (rm1193_23 B ro0 ro1 ro2 ck3 ro4 ro5 ro6 _ O1171 c1194 c1173 c1195 c1198 c1200 c1202 q1203 q1204) e1171 hml rfl pd7 rfl (W := 0) (argsL := [(.int 0), (.ref ro1)]) (rest := []) rfl rfl d20_42 45 rfl ?_
  intro v1205 T1205 L1205 hq1205 X1205
  obtain ⟨rfl, N1205q, K1205, f1205_0⟩ := hq1205
  have O1205 := extK O1171 K1205 (allS q1204 all0)
  have N1205 := Fr.app N1171 N1205q
  show Go _ _ _ _ (State.setTop _ (mkF _ 45 _ []))
  have c1206 := (c1173.keep K1205)
  have c1207 := ((F1166.other W1171 (Or.inr (sn21 hw))).keep K1205 (ninS (Ne.symm q1197) nin0))
  have c1208 := (c1194.keep K1205 (ninS (Ne.symm q1197) nin0))
  have c1209 := (c1195.keep K1205 (ninS (Ne.symm q1197) nin0))
  have c1210 := (F1171.keep K1205 (ninS (Ne.symm q1197) nin0))
  have c1212 := ((((q1211.other W1162 (Or.inr (sn22 hw))).other W1166 (Or.inr (sn8 hw))).other W1171 (Or.inr (sn23 hw))).keep K1205 (ninS (Ne.symm q1197) nin0))
  have K_1213 := (Keep.refl h [ro0, ro2]).wr W1162 (Or.inl (List.mem_of_getElem? (i := 0) rfl))
  have K_1214 := K_1213.wr W1166 (Or.inl (List.mem_of_getElem? (i := 0) rfl))
  have K_1215 := K_1214.wr W1171 (Or.inl (List.mem_of_getElem? (i := 0) rfl))
  have K_1216 := K_1215.trans K1205 (allS (Or.inl (List.mem_of_getElem? (i := 1) rfl)) all0)
  exact gRetV X1205 H hlk hret d20_45 rfl ⟨rfl, N1205, K_1216, c1206, c1207, c1208, c1209, c1210, f1205_0, c1212⟩
theorem rm1239_15 (B : Bg Z a0 wE0 w_cacheI k_wE0 cl_cacheI) (ro0 ro1 : Addr) (ck2 : ClassId) (ro3 ro4 ro5 : Addr) (h : Heap) (O : Ext Z.heap h) (q1135 : Exa Z h ro0 cs3) (q1196 : ro1 ≠ ro0) (q1218 : Fld Z h ro0 cs3 "size" "I" (.int 3)) (q1220 : Fld Z h ro0 cs3 "buffer" cs2 (.ref ro1)) (q1222 : Arl Z h ro1 (4 : Int32)) (q1224 : Fld Z h ro0 cs3 "head" "I" (.int 3)) (q1226 : Z.heap.size ≤ ro0) (q1227 : Fld Z h ro0 cs3 "firstNumber" "J" (.long (-2))) (q1229 : Arv Z h ro1 ck2 (.object "java/lang/Object") (4 : Int32) [(.ref ro3), (.ref ro4), .null, (.ref ro5)] .null) (q1231 : Ovr Z ck2 "java/lang/Object") (q1232 : Z.heap.size ≤ ro1) (q1233 : Fld Z h ro0 cs3 "serial" "I" (.int 1)) :
    Con l Z yM15 method_2_code 2 none ({ frames := 3, cells := 0, slots := 0, locals := 42 } : Room) #[(.ref ro0), (.int 0)] h (fun v h' L => ∃ (b1134_0 : Addr), v = none ∧ Fr Z.heap.size L ∧ Keep h h' [ro0, ro1] ∧ Exa Z h' b1134_0 cs4 ∧ Exa Z h' ro0 cs3 ∧ Fld Z h' ro0 cs3 "size" "I" (.int 4) ∧ Fld Z h' ro0 cs3 "buffer" cs2 (.ref ro1) ∧ Fld Z h' ro0 cs3 "head" "I" (.int 2) ∧ Fld Z h' ro0 cs3 "firstNumber" "J" (.long (-3)) ∧ Arv Z h' ro1 ck2 (.object "java/lang/Object") (4 : Int32) [(.ref ro3), (.ref ro4), (.ref b1134_0), (.ref ro5)] .null ∧ Fld Z h' ro0 cs3 "serial" "I" (.int 1)) := by
  have hw := B.1
  refine Con.of (plainFor_of_name pn15) (Ls := #[vR ro0, vI 0]) (fun _ => rfl) ?_
  intro p e s m below meth c T0 X0 H hml hZ hown hnm hret hlk e0
  have N0 := Fr.nil Z.heap.size
  refine gIloadN X0 H d15_0 rfl 1 rfl ?_
  refine gIfY X0 H d15_1 (by decide) (by decide) 12 rfl ?_
  refine gAloadN X0 H d15_12 rfl rfl 13 rfl ?_
  refine gBipush X0 H d15_13 (z := 20) rfl 15 rfl ?_
  refine gStatic X0 H hZ hown (hw _ wd26) (hw _ wd27) (by decide) (hw _ wd29) (hw _ wd28) (rm110_5 B _ O) e0 hml rfl pd5 rfl (W := 1) (argsL := [(.int 20)]) (rest := [(.ref ro0)]) rfl rfl d15_15 18 rfl ?_
  intro v1134 T1134 L1134 hq1134 X1134
  obtain ⟨b1134_0, rfl, N1134q, K1134, f1134_0⟩ := hq1134
  have O1134 := extK O K1134 all0
  have N1134 := Fr.app N0 N1134q
  show Go _ _ _ _ (State.setTop _ (mkF _ 18 _ [(.ref b1134_0), (.ref ro0)]))
  have c1136 := (q1135.keep K1134)
  have c1219 := (q1218.keep K1134 nin0)
  have c1221 := (q1220.keep K1134 nin0)
  have c1223 := (q1222.keep K1134 nin0)
  have c1225 := (q1224.keep K1134 nin0)
  have c1228 := (q1227.keep K1134 nin0)
  have c1230 := (q1229.keep K1134 nin0)
  have c1234 := (q1233.keep K1134 nin0)
  refine gVirt X1134 H hZ hown (hw _ wd130) (hw _ wd131) (hw _ wd133) (hw _ wd132) (by decide) c1136 (hw _ wd134) (hw _ wd66) (rm1217_20 B ro0 b1134_0 ro1 ck2 ro3 ro4 ro5 _ O1134 c1136 c1219 c1221 c1223 c1225 q1226 c1228 q1196 c1230 f1134_0 q1231 q1232 c1234) rfl hml rfl pd8 rfl (W := 0) (argsL := [(.ref b1134_0)]) (rest := []) rfl rfl d15_18 21 rfl ?_
  intro v1235 T1235 L1235 hq1235 X1235
  obtain ⟨rfl, N1235q, K1235, f1235_0, f1235_1, f1235_2, f1235_3, f1235_4, f1235_5, f1235_6⟩ := hq1235
  have O1235 := extK O1134 K1235 (allS q1226 (allS q1232 all0))
  have N1235 := Fr.app N1134 N1235q
  show Go _ _ _ _ (State.setTop _ (mkF _ 21 _ []))
  have c1236 := (f1134_0.keep K1235)
  have K_1237 := (Keep.refl h [ro0, ro1]).trans K1134 all0
  have K_1238 := K_1237.trans K1235 (allS (Or.inl (List.mem_of_getElem? (i := 0) rfl)) (allS (Or.inl (List.mem_of_getElem? (i := 1) rfl)) all0))
  exact gRetV X1235 H hlk hret d15_21 rfl ⟨b1134_0, rfl, N1235, K_1238, c1236, f1235_0, f1235_1, f1235_2, f1235_3, f1235_4, f1235_5, f1235_6⟩
theorem rm1253_14 (B : Bg Z a0 wE0 w_cacheI k_wE0 cl_cacheI) (ro0 : Addr) (vj1 vj2 : Int64) (h : Heap) (O : Ext Z.heap h) (q1248 : Fld Z h ro0 cs3 "firstNumber" "J" (.long vj2)) (q1251 : Fld Z h ro0 cs3 "size" "I" (.int 4)) (hk1250 : (vj1 - vj2) = (0 : Int64)) :
    Con l Z yM14 prog_50_method_7_code 5 (some .int) ({ frames := 0, cells := 0, slots := 0, locals := 0 } : Room) #[(.ref ro0), (.long vj1)] h (fun v h' L => v = some (.int 0) ∧ h' = h ∧ L = []) := by
  have hw := B.1
  refine Con.of (plainFor_of_name pn14) (Ls := #[vR ro0, vJ vj1, .second, .unset, .unset]) (fun _ => by first | (simp [entryFrame, mkF, argsToLocals, Value.category, maxLocals]; done) | rfl) ?_
  intro p e s m below meth c T0 X0 H hml hZ hown hnm hret hlk e0
  refine gLloadN X0 H d14_0 rfl 1 rfl ?_
  refine gAloadN X0 H d14_1 rfl rfl 2 rfl ?_
  refine gGetF X0 H hZ hown (hw _ wd105) Via.refl e0 q1248 d14_2 5 rfl ?_
  intro T1249 X1249 e1249
  refine g_lsub X1249 H d14_5 (z := 0) hk1250 6 rfl ?_
  refine gLstoreN X1249 H d14_6 (Ls' := #[vR ro0, vJ vj1, .second, vJ 0, .second]) rfl 7 rfl ?_
  refine gLloadN X1249 H d14_7 rfl 8 rfl ?_
  refine gLconst X1249 H d14_8 (z := 0) rfl 9 rfl ?_
  refine g_lcmp X1249 H d14_9 (z := (lcmpW (0 : Int64) (0 : Int64))) rfl 10 rfl ?_
  refine gIfN X1249 H d14_10 (by decide) 13 rfl ?_
  refine gLloadN X1249 H d14_13 rfl 14 rfl ?_
  refine gAloadN X1249 H d14_14 rfl rfl 15 rfl ?_
  refine gGetF X1249 H hZ hown (hw _ wd98) Via.refl e1249 q1251 d14_15 18 rfl ?_
  intro T1252 X1252 e1252
  refine g_i2l X1252 H d14_18 (z := 4) (by decide) 19 rfl ?_
  refine g_lcmp X1252 H d14_19 (z := (lcmpW (0 : Int64) (4 : Int64))) rfl 20 rfl ?_
  refine gIfN X1252 H d14_20 (by decide) 23 rfl ?_
  refine gLloadN X1252 H d14_23 rfl 24 rfl ?_
  refine g_l2i X1252 H d14_24 (z := 0) (by decide) 25 rfl ?_
  refine gGoto X1252 H d14_25 (by decide) 29 rfl ?_
  exact gRetI X1252 H hlk hret d14_29 e1252 ⟨rfl, rfl, rfl⟩
theorem rm1263_14 (B : Bg Z a0 wE0 w_cacheI k_wE0 cl_cacheI) (ro0 : Addr) (vj1 vj2 : Int64) (h : Heap) (O : Ext Z.heap h) (q1258 : Fld Z h ro0 cs3 "firstNumber" "J" (.long vj2)) (q1261 : Fld Z h ro0 cs3 "size" "I" (.int 4)) (hk1260 : (vj1 - vj2) = (1 : Int64)) :
    Con l Z yM14 prog_50_method_7_code 5 (some .int) ({ frames := 0, cells := 0, slots := 0, locals := 0 } : Room) #[(.ref ro0), (.long vj1)] h (fun v h' L => v = some (.int 1) ∧ h' = h ∧ L = []) := by
  have hw := B.1
  refine Con.of (plainFor_of_name pn14) (Ls := #[vR ro0, vJ vj1, .second, .unset, .unset]) (fun _ => by first | (simp [entryFrame, mkF, argsToLocals, Value.category, maxLocals]; done) | rfl) ?_
  intro p e s m below meth c T0 X0 H hml hZ hown hnm hret hlk e0
  refine gLloadN X0 H d14_0 rfl 1 rfl ?_
  refine gAloadN X0 H d14_1 rfl rfl 2 rfl ?_
  refine gGetF X0 H hZ hown (hw _ wd105) Via.refl e0 q1258 d14_2 5 rfl ?_
  intro T1259 X1259 e1259
  refine g_lsub X1259 H d14_5 (z := 1) hk1260 6 rfl ?_
  refine gLstoreN X1259 H d14_6 (Ls' := #[vR ro0, vJ vj1, .second, vJ 1, .second]) rfl 7 rfl ?_
  refine gLloadN X1259 H d14_7 rfl 8 rfl ?_
  refine gLconst X1259 H d14_8 (z := 0) rfl 9 rfl ?_
  refine g_lcmp X1259 H d14_9 (z := (lcmpW (1 : Int64) (0 : Int64))) rfl 10 rfl ?_
  refine gIfN X1259 H d14_10 (by decide) 13 rfl ?_
  refine gLloadN X1259 H d14_13 rfl 14 rfl ?_
  refine gAloadN X1259 H d14_14 rfl rfl 15 rfl ?_
  refine gGetF X1259 H hZ hown (hw _ wd98) Via.refl e1259 q1261 d14_15 18 rfl ?_
  intro T1262 X1262 e1262
  refine g_i2l X1262 H d14_18 (z := 4) (by decide) 19 rfl ?_
  refine g_lcmp X1262 H d14_19 (z := (lcmpW (1 : Int64) (4 : Int64))) rfl 20 rfl ?_
  refine gIfN X1262 H d14_20 (by decide) 23 rfl ?_
  refine gLloadN X1262 H d14_23 rfl 24 rfl ?_
  refine g_l2i X1262 H d14_24 (z := 1) (by decide) 25 rfl ?_
  refine gGoto X1262 H d14_25 (by decide) 29 rfl ?_
  exact gRetI X1262 H hlk hret d14_29 e1262 ⟨rfl, rfl, rfl⟩
theorem rm1273_14 (B : Bg Z a0 wE0 w_cacheI k_wE0 cl_cacheI) (ro0 : Addr) (vj1 vj2 : Int64) (h : Heap) (O : Ext Z.heap h) (q1268 : Fld Z h ro0 cs3 "firstNumber" "J" (.long vj2)) (q1271 : Fld Z h ro0 cs3 "size" "I" (.int 4)) (hk1270 : (vj1 - vj2) = (2 : Int64)) :
    Con l Z yM14 prog_50_method_7_code 5 (some .int) ({ frames := 0, cells := 0, slots := 0, locals := 0 } : Room) #[(.ref ro0), (.long vj1)] h (fun v h' L => v = some (.int 2) ∧ h' = h ∧ L = []) := by
  have hw := B.1
  refine Con.of (plainFor_of_name pn14) (Ls := #[vR ro0, vJ vj1, .second, .unset, .unset]) (fun _ => by first | (simp [entryFrame, mkF, argsToLocals, Value.category, maxLocals]; done) | rfl) ?_
  intro p e s m below meth c T0 X0 H hml hZ hown hnm hret hlk e0
  refine gLloadN X0 H d14_0 rfl 1 rfl ?_
  refine gAloadN X0 H d14_1 rfl rfl 2 rfl ?_
  refine gGetF X0 H hZ hown (hw _ wd105) Via.refl e0 q1268 d14_2 5 rfl ?_
  intro T1269 X1269 e1269
  refine g_lsub X1269 H d14_5 (z := 2) hk1270 6 rfl ?_
  refine gLstoreN X1269 H d14_6 (Ls' := #[vR ro0, vJ vj1, .second, vJ 2, .second]) rfl 7 rfl ?_
  refine gLloadN X1269 H d14_7 rfl 8 rfl ?_
  refine gLconst X1269 H d14_8 (z := 0) rfl 9 rfl ?_
  refine g_lcmp X1269 H d14_9 (z := (lcmpW (2 : Int64) (0 : Int64))) rfl 10 rfl ?_
  refine gIfN X1269 H d14_10 (by decide) 13 rfl ?_
  refine gLloadN X1269 H d14_13 rfl 14 rfl ?_
  refine gAloadN X1269 H d14_14 rfl rfl 15 rfl ?_
  refine gGetF X1269 H hZ hown (hw _ wd98) Via.refl e1269 q1271 d14_15 18 rfl ?_
  intro T1272 X1272 e1272
  refine g_i2l X1272 H d14_18 (z := 4) (by decide) 19 rfl ?_
  refine g_lcmp X1272 H d14_19 (z := (lcmpW (2 : Int64) (4 : Int64))) rfl 20 rfl ?_
  refine gIfN X1272 H d14_20 (by decide) 23 rfl ?_
  refine gLloadN X1272 H d14_23 rfl 24 rfl ?_
  refine g_l2i X1272 H d14_24 (z := 2) (by decide) 25 rfl ?_
  refine gGoto X1272 H d14_25 (by decide) 29 rfl ?_
  exact gRetI X1272 H hlk hret d14_29 e1272 ⟨rfl, rfl, rfl⟩
theorem rm1283_14 (B : Bg Z a0 wE0 w_cacheI k_wE0 cl_cacheI) (ro0 : Addr) (vj1 vj2 : Int64) (h : Heap) (O : Ext Z.heap h) (q1278 : Fld Z h ro0 cs3 "firstNumber" "J" (.long vj2)) (q1281 : Fld Z h ro0 cs3 "size" "I" (.int 4)) (hk1280 : (vj1 - vj2) = (3 : Int64)) :
    Con l Z yM14 prog_50_method_7_code 5 (some .int) ({ frames := 0, cells := 0, slots := 0, locals := 0 } : Room) #[(.ref ro0), (.long vj1)] h (fun v h' L => v = some (.int 3) ∧ h' = h ∧ L = []) := by
  have hw := B.1
  refine Con.of (plainFor_of_name pn14) (Ls := #[vR ro0, vJ vj1, .second, .unset, .unset]) (fun _ => by first | (simp [entryFrame, mkF, argsToLocals, Value.category, maxLocals]; done) | rfl) ?_
  intro p e s m below meth c T0 X0 H hml hZ hown hnm hret hlk e0
  refine gLloadN X0 H d14_0 rfl 1 rfl ?_
  refine gAloadN X0 H d14_1 rfl rfl 2 rfl ?_
  refine gGetF X0 H hZ hown (hw _ wd105) Via.refl e0 q1278 d14_2 5 rfl ?_
  intro T1279 X1279 e1279
  refine g_lsub X1279 H d14_5 (z := 3) hk1280 6 rfl ?_
  refine gLstoreN X1279 H d14_6 (Ls' := #[vR ro0, vJ vj1, .second, vJ 3, .second]) rfl 7 rfl ?_
  refine gLloadN X1279 H d14_7 rfl 8 rfl ?_
  refine gLconst X1279 H d14_8 (z := 0) rfl 9 rfl ?_
  refine g_lcmp X1279 H d14_9 (z := (lcmpW (3 : Int64) (0 : Int64))) rfl 10 rfl ?_
  refine gIfN X1279 H d14_10 (by decide) 13 rfl ?_
  refine gLloadN X1279 H d14_13 rfl 14 rfl ?_
  refine gAloadN X1279 H d14_14 rfl rfl 15 rfl ?_
  refine gGetF X1279 H hZ hown (hw _ wd98) Via.refl e1279 q1281 d14_15 18 rfl ?_
  intro T1282 X1282 e1282
  refine g_i2l X1282 H d14_18 (z := 4) (by decide) 19 rfl ?_
  refine g_lcmp X1282 H d14_19 (z := (lcmpW (3 : Int64) (4 : Int64))) rfl 20 rfl ?_
  refine gIfN X1282 H d14_20 (by decide) 23 rfl ?_
  refine gLloadN X1282 H d14_23 rfl 24 rfl ?_
  refine g_l2i X1282 H d14_24 (z := 3) (by decide) 25 rfl ?_
  refine gGoto X1282 H d14_25 (by decide) 29 rfl ?_
  exact gRetI X1282 H hlk hret d14_29 e1282 ⟨rfl, rfl, rfl⟩
theorem rm1295_14 (B : Bg Z a0 wE0 w_cacheI k_wE0 cl_cacheI) (ro0 : Addr) (vj1 vj2 : Int64) (h : Heap) (O : Ext Z.heap h) (q1289 : Fld Z h ro0 cs3 "firstNumber" "J" (.long vj2)) (q1292 : Fld Z h ro0 cs3 "size" "I" (.int 4)) (hk1291 : ¬ ((vj1 - vj2) < (0 : Int64))) (hk1294 : ¬ ((vj1 - vj2) < (4 : Int64))) :
    Con l Z yM14 prog_50_method_7_code 5 (some .int) ({ frames := 0, cells := 0, slots := 0, locals := 0 } : Room) #[(.ref ro0), (.long vj1)] h (fun v h' L => v = some (.int (-1)) ∧ h' = h ∧ L = []) := by
  have hw := B.1
  refine Con.of (plainFor_of_name pn14) (Ls := #[vR ro0, vJ vj1, .second, .unset, .unset]) (fun _ => by first | (simp [entryFrame, mkF, argsToLocals, Value.category, maxLocals]; done) | rfl) ?_
  intro p e s m below meth c T0 X0 H hml hZ hown hnm hret hlk e0
  refine gLloadN X0 H d14_0 rfl 1 rfl ?_
  refine gAloadN X0 H d14_1 rfl rfl 2 rfl ?_
  refine gGetF X0 H hZ hown (hw _ wd105) Via.refl e0 q1289 d14_2 5 rfl ?_
  intro T1290 X1290 e1290
  refine g_lsub X1290 H d14_5 (z := (vj1 - vj2)) rfl 6 rfl ?_
  refine gLstoreN X1290 H d14_6 (Ls' := #[vR ro0, vJ vj1, .second, vJ (vj1 - vj2), .second]) rfl 7 rfl ?_
  refine gLloadN X1290 H d14_7 rfl 8 rfl ?_
  refine gLconst X1290 H d14_8 (z := 0) rfl 9 rfl ?_
  refine g_lcmp X1290 H d14_9 (z := (lcmpW (vj1 - vj2) (0 : Int64))) rfl 10 rfl ?_
  refine gIfN X1290 H d14_10 ((if0 _ _).trans (flt (fun q => hk1291 ((lw_lt _ _).mp q))).1) 13 rfl ?_
  refine gLloadN X1290 H d14_13 rfl 14 rfl ?_
  refine gAloadN X1290 H d14_14 rfl rfl 15 rfl ?_
  refine gGetF X1290 H hZ hown (hw _ wd98) Via.refl e1290 q1292 d14_15 18 rfl ?_
  intro T1293 X1293 e1293
  refine g_i2l X1293 H d14_18 (z := 4) (by decide) 19 rfl ?_
  refine g_lcmp X1293 H d14_19 (z := (lcmpW (vj1 - vj2) (4 : Int64))) rfl 20 rfl ?_
  refine gIfY X1293 H d14_20 ((if0 _ _).trans (flt (fun q => hk1294 ((lw_lt _ _).mp q))).2.1) (by decide) 28 rfl ?_
  refine gIconst X1293 H d14_28 (z := (-1)) rfl 29 rfl ?_
  exact gRetI X1293 H hlk hret d14_29 e1293 ⟨rfl, rfl, rfl⟩
theorem tail1244_203 (B : Bg Z a0 wE0 w_cacheI k_wE0 cl_cacheI) (p0 : Int64) (p1 : Int32) (p2 : Int32) (p3 : Int32) (o6 : Addr) (o7 : Addr) (u8 : Int32) (u9 : Int32) (u10 : Int64) (u12 : Int64) {p : Program} {e : Env} {s : State} {m : MethodId} {below : List Frame} {meth : Method} {c : Code} {T0 : State} {locs : List Loc} {cells slots : Nat} {h : Heap} (X0 : Stand p l e room_1 s m #[(.long p0), (.int p1), (.int p2), (.int p3)] below meth c T0 locs cells slots) (H : p.tables.exec = Jvm.exec ∧ c.code = code) (hml : c.maxLocals = maxLocals) (hZ : Z.Warmed39 s.vm) (hown : s.vm.findClass x.cls = some m.cls) (hnm : meth.name = x.name) (hret : meth.sig.returnType = ret) (hlk : meth.locks = false) (N0 : Fr Z.heap.size locs) (hC : cells ≤ room_1.cells) (hS : slots ≤ room_1.slots) (e0 : T0.heap = h) (O : Ext Z.heap h) (qq0 : Exa Z h o7 cs3) (qq1 : Fld Z h o7 cs3 "size" "I" (.int 4)) (qq2 : Fld Z h o7 cs3 "firstNumber" "J" (.long u10)) :
    Go p e below (EndK s below (fun v h' L => v = some (.int 1) ∧ Fr Z.heap.size L) room_1.cells room_1.slots) (T0.setTop (mkF m 203 #[vJ p0, .second, vI p1, vI p2, vI p3, vI 4, vR o6, vR o7, vI u8, vI u9, vJ u10, .second, vJ u12, .second, .unset, .unset] [])) := by
  have hw := B.1
  obtain ⟨S_wE0, V_wE0, S_high, S_cacheI, B_cacheI⟩ := B.2
  have M0 := Nat.le_refl h.size
  refine gAload X0 H at_203 rfl rfl 205 rfl ?_
  refine gLload X0 H at_205 rfl 207 rfl ?_
  by_cases hc1247 : (u12 - u10) = (0 : Int64)
  · refine gVirt X0 H hZ hown (hw _ wd100) (hw _ wd101) (hw _ wd103) (hw _ wd102) (by decide) qq0 (hw _ wd104) (hw _ wd66) (rm1253_14 B o7 u12 u10 _ O qq2 qq1 hc1247) e0 hml rfl pd12 rfl (W := 0) (argsL := [(.long u12)]) (rest := []) rfl rfl at_207 210 rfl ?_ (hc := hC) (hsl := hS)
    intro v1254 T1254 L1254 hq1254 X1254
    obtain ⟨rfl, e1254, rfl⟩ := hq1254
    have N1254 := Fr.app N0 (Fr.nil _)
    show Go _ _ _ _ (State.setTop _ (mkF _ 210 _ [(.int 0)]))
    refine gIstore X1254 H at_210 (Ls' := #[vJ p0, .second, vI p1, vI p2, vI p3, vI 4, vR o6, vR o7, vI u8, vI u9, vJ u10, .second, vJ u12, .second, vI 0, .unset]) rfl 212 rfl ?_
    refine gIconst X1254 H at_212 (z := (-1)) rfl 213 rfl ?_
    refine gIstore X1254 H at_213 (Ls' := #[vJ p0, .second, vI p1, vI p2, vI p3, vI 4, vR o6, vR o7, vI u8, vI u9, vJ u10, .second, vJ u12, .second, vI 0, vI (-1)]) rfl 215 rfl ?_
    refine gIload X1254 H at_215 rfl 217 rfl ?_
    refine gIfN X1254 H at_217 (by decide) 220 rfl ?_
    refine gLload X1254 H at_220 rfl 222 rfl ?_
    refine gLload X1254 H at_222 rfl 224 rfl ?_
    refine g_lcmp X1254 H at_224 (z := (lcmpW u12 u10)) rfl 225 rfl ?_
    refine gIfN X1254 H at_225 ((if0 _ _).trans (teq ((lw_eq _ _).mpr (off_eq0 hc1247))).2) 228 rfl ?_
    refine gIconst X1254 H at_228 (z := 0) rfl 229 rfl ?_
    refine gIstore X1254 H at_229 (Ls' := #[vJ p0, .second, vI p1, vI p2, vI p3, vI 4, vR o6, vR o7, vI u8, vI u9, vJ u10, .second, vJ u12, .second, vI 0, vI 0]) rfl 231 rfl ?_
    refine gGoto X1254 H at_231 (by decide) 349 rfl ?_
    refine gIload X1254 H at_349 rfl 351 rfl ?_
    refine gIload X1254 H at_351 rfl 353 rfl ?_
    refine gCmpN X1254 H at_353 (by decide) 356 rfl ?_
    refine gIconst X1254 H at_356 (z := 1) rfl 357 rfl ?_
    refine gGoto X1254 H at_357 (by decide) 361 rfl ?_
    exact gRetN X1254 H hlk hret (t := .boolean) (by simp) at_361 e1254 ⟨rfl, N1254⟩ hC hS
  · by_cases hc1257 : (u12 - u10) = (1 : Int64)
    · refine gVirt X0 H hZ hown (hw _ wd100) (hw _ wd101) (hw _ wd103) (hw _ wd102) (by decide) qq0 (hw _ wd104) (hw _ wd66) (rm1263_14 B o7 u12 u10 _ O qq2 qq1 hc1257) e0 hml rfl pd12 rfl (W := 0) (argsL := [(.long u12)]) (rest := []) rfl rfl at_207 210 rfl ?_ (hc := hC) (hsl := hS)
      intro v1264 T1264 L1264 hq1264 X1264
      obtain ⟨rfl, e1264, rfl⟩ := hq1264
      have N1264 := Fr.app N0 (Fr.nil _)
      show Go _ _ _ _ (State.setTop _ (mkF _ 210 _ [(.int 1)]))
      refine gIstore X1264 H at_210 (Ls' := #[vJ p0, .second, vI p1, vI p2, vI p3, vI 4, vR o6, vR o7, vI u8, vI u9, vJ u10, .second, vJ u12, .second, vI 1, .unset]) rfl 212 rfl ?_
      refine gIconst X1264 H at_212 (z := (-1)) rfl 213 rfl ?_
      refine gIstore X1264 H at_213 (Ls' := #[vJ p0, .second, vI p1, vI p2, vI p3, vI 4, vR o6, vR o7, vI u8, vI u9, vJ u10, .second, vJ u12, .second, vI 1, vI (-1)]) rfl 215 rfl ?_
      refine gIload X1264 H at_215 rfl 217 rfl ?_
      refine gIfN X1264 H at_217 (by decide) 220 rfl ?_
      refine gLload X1264 H at_220 rfl 222 rfl ?_
      refine gLload X1264 H at_222 rfl 224 rfl ?_
      refine g_lcmp X1264 H at_224 (z := (lcmpW u12 u10)) rfl 225 rfl ?_
      refine gIfY X1264 H at_225 ((if0 _ _).trans (feq (fun q => (off_ne0 (off_two hc1257 (by decide))) ((lw_eq _ _).mp q))).2) (by decide) 234 rfl ?_
      refine gIload X1264 H at_234 rfl 236 rfl ?_
      refine gIconst X1264 H at_236 (z := 1) rfl 237 rfl ?_
      refine gCmpN X1264 H at_237 (by decide) 240 rfl ?_
      refine gLload X1264 H at_240 rfl 242 rfl ?_
      refine gLload X1264 H at_242 rfl 244 rfl ?_
      refine gLconst X1264 H at_244 (z := 1) rfl 245 rfl ?_
      refine g_ladd X1264 H at_245 (z := (u10 + (1 : Int64))) rfl 246 rfl ?_
      refine g_lcmp X1264 H at_246 (z := (lcmpW u12 (u10 + (1 : Int64)))) rfl 247 rfl ?_
      refine gIfN X1264 H at_247 ((if0 _ _).trans (teq ((lw_eq _ _).mpr (off_eq hc1257))).2) 250 rfl ?_
      refine gIconst X1264 H at_250 (z := 1) rfl 251 rfl ?_
      refine gIstore X1264 H at_251 (Ls' := #[vJ p0, .second, vI p1, vI p2, vI p3, vI 4, vR o6, vR o7, vI u8, vI u9, vJ u10, .second, vJ u12, .second, vI 1, vI 1]) rfl 253 rfl ?_
      refine gGoto X1264 H at_253 (by decide) 349 rfl ?_
      refine gIload X1264 H at_349 rfl 351 rfl ?_
      refine gIload X1264 H at_351 rfl 353 rfl ?_
      refine gCmpN X1264 H at_353 (by decide) 356 rfl ?_
      refine gIconst X1264 H at_356 (z := 1) rfl 357 rfl ?_
      refine gGoto X1264 H at_357 (by decide) 361 rfl ?_
      exact gRetN X1264 H hlk hret (t := .boolean) (by simp) at_361 e1264 ⟨rfl, N1264⟩ hC hS
    · by_cases hc1267 : (u12 - u10) = (2 : Int64)
      · refine gVirt X0 H hZ hown (hw _ wd100) (hw _ wd101) (hw _ wd103) (hw _ wd102) (by decide) qq0 (hw _ wd104) (hw _ wd66) (rm1273_14 B o7 u12 u10 _ O qq2 qq1 hc1267) e0 hml rfl pd12 rfl (W := 0) (argsL := [(.long u12)]) (rest := []) rfl rfl at_207 210 rfl ?_ (hc := hC) (hsl := hS)
        intro v1274 T1274 L1274 hq1274 X1274
        obtain ⟨rfl, e1274, rfl⟩ := hq1274
        have N1274 := Fr.app N0 (Fr.nil _)
        show Go _ _ _ _ (State.setTop _ (mkF _ 210 _ [(.int 2)]))
        refine gIstore X1274 H at_210 (Ls' := #[vJ p0, .second, vI p1, vI p2, vI p3, vI 4, vR o6, vR o7, vI u8, vI u9, vJ u10, .second, vJ u12, .second, vI 2, .unset]) rfl 212 rfl ?_
        refine gIconst X1274 H at_212 (z := (-1)) rfl 213 rfl ?_
        refine gIstore X1274 H at_213 (Ls' := #[vJ p0, .second, vI p1, vI p2, vI p3, vI 4, vR o6, vR o7, vI u8, vI u9, vJ u10, .second, vJ u12, .second, vI 2, vI (-1)]) rfl 215 rfl ?_
        refine gIload X1274 H at_215 rfl 217 rfl ?_
        refine gIfN X1274 H at_217 (by decide) 220 rfl ?_
        refine gLload X1274 H at_220 rfl 222 rfl ?_
        refine gLload X1274 H at_222 rfl 224 rfl ?_
        refine g_lcmp X1274 H at_224 (z := (lcmpW u12 u10)) rfl 225 rfl ?_
        refine gIfY X1274 H at_225 ((if0 _ _).trans (feq (fun q => (off_ne0 (off_two hc1267 (by decide))) ((lw_eq _ _).mp q))).2) (by decide) 234 rfl ?_
        refine gIload X1274 H at_234 rfl 236 rfl ?_
        refine gIconst X1274 H at_236 (z := 1) rfl 237 rfl ?_
        refine gCmpN X1274 H at_237 (by decide) 240 rfl ?_
        refine gLload X1274 H at_240 rfl 242 rfl ?_
        refine gLload X1274 H at_242 rfl 244 rfl ?_
        refine gLconst X1274 H at_244 (z := 1) rfl 245 rfl ?_
        refine g_ladd X1274 H at_245 (z := (u10 + (1 : Int64))) rfl 246 rfl ?_
        refine g_lcmp X1274 H at_246 (z := (lcmpW u12 (u10 + (1 : Int64)))) rfl 247 rfl ?_
        refine gIfY X1274 H at_247 ((if0 _ _).trans (feq (fun q => (off_ne (off_two hc1267 (by decide))) ((lw_eq _ _).mp q))).2) (by decide) 256 rfl ?_
        refine gIload X1274 H at_256 rfl 258 rfl ?_
        refine gIconst X1274 H at_258 (z := 2) rfl 259 rfl ?_
        refine gCmpN X1274 H at_259 (by decide) 262 rfl ?_
        refine gLload X1274 H at_262 rfl 264 rfl ?_
        refine gLload X1274 H at_264 rfl 266 rfl ?_
        refine gLdc2 X1274 H hZ hown (hw _ wd149) at_266 269 rfl ?_
        refine g_ladd X1274 H at_269 (z := (u10 + (2 : Int64))) rfl 270 rfl ?_
        refine g_lcmp X1274 H at_270 (z := (lcmpW u12 (u10 + (2 : Int64)))) rfl 271 rfl ?_
        refine gIfN X1274 H at_271 ((if0 _ _).trans (teq ((lw_eq _ _).mpr (off_eq hc1267))).2) 274 rfl ?_
        refine gIconst X1274 H at_274 (z := 2) rfl 275 rfl ?_
        refine gIstore X1274 H at_275 (Ls' := #[vJ p0, .second, vI p1, vI p2, vI p3, vI 4, vR o6, vR o7, vI u8, vI u9, vJ u10, .second, vJ u12, .second, vI 2, vI 2]) rfl 277 rfl ?_
        refine gGoto X1274 H at_277 (by decide) 349 rfl ?_
        refine gIload X1274 H at_349 rfl 351 rfl ?_
        refine gIload X1274 H at_351 rfl 353 rfl ?_
        refine gCmpN X1274 H at_353 (by decide) 356 rfl ?_
        refine gIconst X1274 H at_356 (z := 1) rfl 357 rfl ?_
        refine gGoto X1274 H at_357 (by decide) 361 rfl ?_
        exact gRetN X1274 H hlk hret (t := .boolean) (by simp) at_361 e1274 ⟨rfl, N1274⟩ hC hS
      · by_cases hc1277 : (u12 - u10) = (3 : Int64)
        · refine gVirt X0 H hZ hown (hw _ wd100) (hw _ wd101) (hw _ wd103) (hw _ wd102) (by decide) qq0 (hw _ wd104) (hw _ wd66) (rm1283_14 B o7 u12 u10 _ O qq2 qq1 hc1277) e0 hml rfl pd12 rfl (W := 0) (argsL := [(.long u12)]) (rest := []) rfl rfl at_207 210 rfl ?_ (hc := hC) (hsl := hS)
          intro v1284 T1284 L1284 hq1284 X1284
          obtain ⟨rfl, e1284, rfl⟩ := hq1284
          have N1284 := Fr.app N0 (Fr.nil _)
          show Go _ _ _ _ (State.setTop _ (mkF _ 210 _ [(.int 3)]))
          refine gIstore X1284 H at_210 (Ls' := #[vJ p0, .second, vI p1, vI p2, vI p3, vI 4, vR o6, vR o7, vI u8, vI u9, vJ u10, .second, vJ u12, .second, vI 3, .unset]) rfl 212 rfl ?_
          refine gIconst X1284 H at_212 (z := (-1)) rfl 213 rfl ?_
          refine gIstore X1284 H at_213 (Ls' := #[vJ p0, .second, vI p1, vI p2, vI p3, vI 4, vR o6, vR o7, vI u8, vI u9, vJ u10, .second, vJ u12, .second, vI 3, vI (-1)]) rfl 215 rfl ?_
          refine gIload X1284 H at_215 rfl 217 rfl ?_
          refine gIfN X1284 H at_217 (by decide) 220 rfl ?_
          refine gLload X1284 H at_220 rfl 222 rfl ?_
          refine gLload X1284 H at_222 rfl 224 rfl ?_
          refine g_lcmp X1284 H at_224 (z := (lcmpW u12 u10)) rfl 225 rfl ?_
          refine gIfY X1284 H at_225 ((if0 _ _).trans (feq (fun q => (off_ne0 (off_two hc1277 (by decide))) ((lw_eq _ _).mp q))).2) (by decide) 234 rfl ?_
          refine gIload X1284 H at_234 rfl 236 rfl ?_
          refine gIconst X1284 H at_236 (z := 1) rfl 237 rfl ?_
          refine gCmpN X1284 H at_237 (by decide) 240 rfl ?_
          refine gLload X1284 H at_240 rfl 242 rfl ?_
          refine gLload X1284 H at_242 rfl 244 rfl ?_
          refine gLconst X1284 H at_244 (z := 1) rfl 245 rfl ?_
          refine g_ladd X1284 H at_245 (z := (u10 + (1 : Int64))) rfl 246 rfl ?_
          refine g_lcmp X1284 H at_246 (z := (lcmpW u12 (u10 + (1 : Int64)))) rfl 247 rfl ?_
          refine gIfY X1284 H at_247 ((if0 _ _).trans (feq (fun q => (off_ne (off_two hc1277 (by decide))) ((lw_eq _ _).mp q))).2) (by decide) 256 rfl ?_
          refine gIload X1284 H at_256 rfl 258 rfl ?_
          refine gIconst X1284 H at_258 (z := 2) rfl 259 rfl ?_
          refine gCmpN X1284 H at_259 (by decide) 262 rfl ?_
          refine gLload X1284 H at_262 rfl 264 rfl ?_
          refine gLload X1284 H at_264 rfl 266 rfl ?_
          refine gLdc2 X1284 H hZ hown (hw _ wd149) at_266 269 rfl ?_
          refine g_ladd X1284 H at_269 (z := (u10 + (2 : Int64))) rfl 270 rfl ?_
          refine g_lcmp X1284 H at_270 (z := (lcmpW u12 (u10 + (2 : Int64)))) rfl 271 rfl ?_
          refine gIfY X1284 H at_271 ((if0 _ _).trans (feq (fun q => (off_ne (off_two hc1277 (by decide))) ((lw_eq _ _).mp q))).2) (by decide) 280 rfl ?_
          refine gIload X1284 H at_280 rfl 282 rfl ?_
          refine gIconst X1284 H at_282 (z := 3) rfl 283 rfl ?_
          refine gCmpN X1284 H at_283 (by decide) 286 rfl ?_
          refine gLload X1284 H at_286 rfl 288 rfl ?_
          refine gLload X1284 H at_288 rfl 290 rfl ?_
          refine gLdc2 X1284 H hZ hown (hw _ wd150) at_290 293 rfl ?_
          refine g_ladd X1284 H at_293 (z := (u10 + (3 : Int64))) rfl 294 rfl ?_
          refine g_lcmp X1284 H at_294 (z := (lcmpW u12 (u10 + (3 : Int64)))) rfl 295 rfl ?_
          refine gIfN X1284 H at_295 ((if0 _ _).trans (teq ((lw_eq _ _).mpr (off_eq hc1277))).2) 298 rfl ?_
          refine gIconst X1284 H at_298 (z := 3) rfl 299 rfl ?_
          refine gIstore X1284 H at_299 (Ls' := #[vJ p0, .second, vI p1, vI p2, vI p3, vI 4, vR o6, vR o7, vI u8, vI u9, vJ u10, .second, vJ u12, .second, vI 3, vI 3]) rfl 301 rfl ?_
          refine gGoto X1284 H at_301 (by decide) 349 rfl ?_
          refine gIload X1284 H at_349 rfl 351 rfl ?_
          refine gIload X1284 H at_351 rfl 353 rfl ?_
          refine gCmpN X1284 H at_353 (by decide) 356 rfl ?_
          refine gIconst X1284 H at_356 (z := 1) rfl 357 rfl ?_
          refine gGoto X1284 H at_357 (by decide) 361 rfl ?_
          exact gRetN X1284 H hlk hret (t := .boolean) (by simp) at_361 e1284 ⟨rfl, N1284⟩ hC hS
        · by_cases hc1287 : (u12 - u10) < (0 : Int64)
          · refine gVirt X0 H hZ hown (hw _ wd100) (hw _ wd101) (hw _ wd103) (hw _ wd102) (by decide) qq0 (hw _ wd104) (hw _ wd66) (rm595_14 B o7 u12 u10 _ O qq2 hc1287) e0 hml rfl pd12 rfl (W := 0) (argsL := [(.long u12)]) (rest := []) rfl rfl at_207 210 rfl ?_ (hc := hC) (hsl := hS)
            intro v1288 T1288 L1288 hq1288 X1288
            obtain ⟨rfl, e1288, rfl⟩ := hq1288
            have N1288 := Fr.app N0 (Fr.nil _)
            show Go _ _ _ _ (State.setTop _ (mkF _ 210 _ [(.int (-1))]))
            refine gIstore X1288 H at_210 (Ls' := #[vJ p0, .second, vI p1, vI p2, vI p3, vI 4, vR o6, vR o7, vI u8, vI u9, vJ u10, .second, vJ u12, .second, vI (-1), .unset]) rfl 212 rfl ?_
            refine gIconst X1288 H at_212 (z := (-1)) rfl 213 rfl ?_
            refine gIstore X1288 H at_213 (Ls' := #[vJ p0, .second, vI p1, vI p2, vI p3, vI 4, vR o6, vR o7, vI u8, vI u9, vJ u10, .second, vJ u12, .second, vI (-1), vI (-1)]) rfl 215 rfl ?_
            refine gIload X1288 H at_215 rfl 217 rfl ?_
            refine gIfN X1288 H at_217 (by decide) 220 rfl ?_
            refine gLload X1288 H at_220 rfl 222 rfl ?_
            refine gLload X1288 H at_222 rfl 224 rfl ?_
            refine g_lcmp X1288 H at_224 (z := (lcmpW u12 u10)) rfl 225 rfl ?_
            refine gIfY X1288 H at_225 ((if0 _ _).trans (feq (fun q => (off_ne0 hc1247) ((lw_eq _ _).mp q))).2) (by decide) 234 rfl ?_
            refine gIload X1288 H at_234 rfl 236 rfl ?_
            refine gIconst X1288 H at_236 (z := 1) rfl 237 rfl ?_
            refine gCmpN X1288 H at_237 (by decide) 240 rfl ?_
            refine gLload X1288 H at_240 rfl 242 rfl ?_
            refine gLload X1288 H at_242 rfl 244 rfl ?_
            refine gLconst X1288 H at_244 (z := 1) rfl 245 rfl ?_
            refine g_ladd X1288 H at_245 (z := (u10 + (1 : Int64))) rfl 246 rfl ?_
            refine g_lcmp X1288 H at_246 (z := (lcmpW u12 (u10 + (1 : Int64)))) rfl 247 rfl ?_
            refine gIfY X1288 H at_247 ((if0 _ _).trans (feq (fun q => (off_ne hc1257) ((lw_eq _ _).mp q))).2) (by decide) 256 rfl ?_
            refine gIload X1288 H at_256 rfl 258 rfl ?_
            refine gIconst X1288 H at_258 (z := 2) rfl 259 rfl ?_
            refine gCmpN X1288 H at_259 (by decide) 262 rfl ?_
            refine gLload X1288 H at_262 rfl 264 rfl ?_
            refine gLload X1288 H at_264 rfl 266 rfl ?_
            refine gLdc2 X1288 H hZ hown (hw _ wd149) at_266 269 rfl ?_
            refine g_ladd X1288 H at_269 (z := (u10 + (2 : Int64))) rfl 270 rfl ?_
            refine g_lcmp X1288 H at_270 (z := (lcmpW u12 (u10 + (2 : Int64)))) rfl 271 rfl ?_
            refine gIfY X1288 H at_271 ((if0 _ _).trans (feq (fun q => (off_ne hc1267) ((lw_eq _ _).mp q))).2) (by decide) 280 rfl ?_
            refine gIload X1288 H at_280 rfl 282 rfl ?_
            refine gIconst X1288 H at_282 (z := 3) rfl 283 rfl ?_
            refine gCmpN X1288 H at_283 (by decide) 286 rfl ?_
            refine gLload X1288 H at_286 rfl 288 rfl ?_
            refine gLload X1288 H at_288 rfl 290 rfl ?_
            refine gLdc2 X1288 H hZ hown (hw _ wd150) at_290 293 rfl ?_
            refine g_ladd X1288 H at_293 (z := (u10 + (3 : Int64))) rfl 294 rfl ?_
            refine g_lcmp X1288 H at_294 (z := (lcmpW u12 (u10 + (3 : Int64)))) rfl 295 rfl ?_
            refine gIfY X1288 H at_295 ((if0 _ _).trans (feq (fun q => (off_ne hc1277) ((lw_eq _ _).mp q))).2) (by decide) 304 rfl ?_
            refine gIload X1288 H at_304 rfl 306 rfl ?_
            refine gIconst X1288 H at_306 (z := 4) rfl 307 rfl ?_
            refine gCmpY X1288 H at_307 (by decide) (by decide) 328 rfl ?_
            refine gIload X1288 H at_328 rfl 330 rfl ?_
            refine gIconst X1288 H at_330 (z := 5) rfl 331 rfl ?_
            refine gCmpY X1288 H at_331 (by decide) (by decide) 349 rfl ?_
            refine gIload X1288 H at_349 rfl 351 rfl ?_
            refine gIload X1288 H at_351 rfl 353 rfl ?_
            refine gCmpN X1288 H at_353 (by decide) 356 rfl ?_
            refine gIconst X1288 H at_356 (z := 1) rfl 357 rfl ?_
            refine gGoto X1288 H at_357 (by decide) 361 rfl ?_
            exact gRetN X1288 H hlk hret (t := .boolean) (by simp) at_361 e1288 ⟨rfl, N1288⟩ hC hS
          · refine gVirt X0 H hZ hown (hw _ wd100) (hw _ wd101) (hw _ wd103) (hw _ wd102) (by decide) qq0 (hw _ wd104) (hw _ wd66) (rm1295_14 B o7 u12 u10 _ O qq2 qq1 hc1287 (off_no (k := 4) hc1287 (by decide) (of4 (fun q => hc1247 (Int64.toInt_inj.mp (q.trans (by decide)))) (fun q => hc1257 (Int64.toInt_inj.mp (q.trans (by decide)))) (fun q => hc1267 (Int64.toInt_inj.mp (q.trans (by decide)))) (fun q => hc1277 (Int64.toInt_inj.mp (q.trans (by decide))))))) e0 hml rfl pd12 rfl (W := 0) (argsL := [(.long u12)]) (rest := []) rfl rfl at_207 210 rfl ?_ (hc := hC) (hsl := hS)
            intro v1296 T1296 L1296 hq1296 X1296
            obtain ⟨rfl, e1296, rfl⟩ := hq1296
            have N1296 := Fr.app N0 (Fr.nil _)
            show Go _ _ _ _ (State.setTop _ (mkF _ 210 _ [(.int (-1))]))
            refine gIstore X1296 H at_210 (Ls' := #[vJ p0, .second, vI p1, vI p2, vI p3, vI 4, vR o6, vR o7, vI u8, vI u9, vJ u10, .second, vJ u12, .second, vI (-1), .unset]) rfl 212 rfl ?_
            refine gIconst X1296 H at_212 (z := (-1)) rfl 213 rfl ?_
            refine gIstore X1296 H at_213 (Ls' := #[vJ p0, .second, vI p1, vI p2, vI p3, vI 4, vR o6, vR o7, vI u8, vI u9, vJ u10, .second, vJ u12, .second, vI (-1), vI (-1)]) rfl 215 rfl ?_
            refine gIload X1296 H at_215 rfl 217 rfl ?_
            refine gIfN X1296 H at_217 (by decide) 220 rfl ?_
            refine gLload X1296 H at_220 rfl 222 rfl ?_
            refine gLload X1296 H at_222 rfl 224 rfl ?_
            refine g_lcmp X1296 H at_224 (z := (lcmpW u12 u10)) rfl 225 rfl ?_
            refine gIfY X1296 H at_225 ((if0 _ _).trans (feq (fun q => (off_ne0 hc1247) ((lw_eq _ _).mp q))).2) (by decide) 234 rfl ?_
            refine gIload X1296 H at_234 rfl 236 rfl ?_
            refine gIconst X1296 H at_236 (z := 1) rfl 237 rfl ?_
            refine gCmpN X1296 H at_237 (by decide) 240 rfl ?_
            refine gLload X1296 H at_240 rfl 242 rfl ?_
            refine gLload X1296 H at_242 rfl 244 rfl ?_
            refine gLconst X1296 H at_244 (z := 1) rfl 245 rfl ?_
            refine g_ladd X1296 H at_245 (z := (u10 + (1 : Int64))) rfl 246 rfl ?_
            refine g_lcmp X1296 H at_246 (z := (lcmpW u12 (u10 + (1 : Int64)))) rfl 247 rfl ?_
            refine gIfY X1296 H at_247 ((if0 _ _).trans (feq (fun q => (off_ne hc1257) ((lw_eq _ _).mp q))).2) (by decide) 256 rfl ?_
            refine gIload X1296 H at_256 rfl 258 rfl ?_
            refine gIconst X1296 H at_258 (z := 2) rfl 259 rfl ?_
            refine gCmpN X1296 H at_259 (by decide) 262 rfl ?_
            refine gLload X1296 H at_262 rfl 264 rfl ?_
            refine gLload X1296 H at_264 rfl 266 rfl ?_
            refine gLdc2 X1296 H hZ hown (hw _ wd149) at_266 269 rfl ?_
            refine g_ladd X1296 H at_269 (z := (u10 + (2 : Int64))) rfl 270 rfl ?_
            refine g_lcmp X1296 H at_270 (z := (lcmpW u12 (u10 + (2 : Int64)))) rfl 271 rfl ?_
            refine gIfY X1296 H at_271 ((if0 _ _).trans (feq (fun q => (off_ne hc1267) ((lw_eq _ _).mp q))).2) (by decide) 280 rfl ?_
            refine gIload X1296 H at_280 rfl 282 rfl ?_
            refine gIconst X1296 H at_282 (z := 3) rfl 283 rfl ?_
            refine gCmpN X1296 H at_283 (by decide) 286 rfl ?_
            refine gLload X1296 H at_286 rfl 288 rfl ?_
            refine gLload X1296 H at_288 rfl 290 rfl ?_
            refine gLdc2 X1296 H hZ hown (hw _ wd150) at_290 293 rfl ?_
            refine g_ladd X1296 H at_293 (z := (u10 + (3 : Int64))) rfl 294 rfl ?_
            refine g_lcmp X1296 H at_294 (z := (lcmpW u12 (u10 + (3 : Int64)))) rfl 295 rfl ?_
            refine gIfY X1296 H at_295 ((if0 _ _).trans (feq (fun q => (off_ne hc1277) ((lw_eq _ _).mp q))).2) (by decide) 304 rfl ?_
            refine gIload X1296 H at_304 rfl 306 rfl ?_
            refine gIconst X1296 H at_306 (z := 4) rfl 307 rfl ?_
            refine gCmpY X1296 H at_307 (by decide) (by decide) 328 rfl ?_
            refine gIload X1296 H at_328 rfl 330 rfl ?_
            refine gIconst X1296 H at_330 (z := 5) rfl 331 rfl ?_
            refine gCmpY X1296 H at_331 (by decide) (by decide) 349 rfl ?_
            refine gIload X1296 H at_349 rfl 351 rfl ?_
            refine gIload X1296 H at_351 rfl 353 rfl ?_
            refine gCmpN X1296 H at_353 (by decide) 356 rfl ?_
            refine gIconst X1296 H at_356 (z := 1) rfl 357 rfl ?_
            refine gGoto X1296 H at_357 (by decide) 361 rfl ?_
            exact gRetN X1296 H hlk hret (t := .boolean) (by simp) at_361 e1296 ⟨rfl, N1296⟩ hC hS
theorem tail1242_176 (B : Bg Z a0 wE0 w_cacheI k_wE0 cl_cacheI) (p0 : Int64) (p1 : Int32) (p2 : Int32) (p3 : Int32) (o6 : Addr) (o7 : Addr) (u8 : Int32) (u9 : Int32) (u10 : Int64) {p : Program} {e : Env} {s : State} {m : MethodId} {below : List Frame} {meth : Method} {c : Code} {T0 : State} {locs : List Loc} {cells slots : Nat} {h : Heap} (X0 : Stand p l e room_1 s m #[(.long p0), (.int p1), (.int p2), (.int p3)] below meth c T0 locs cells slots) (H : p.tables.exec = Jvm.exec ∧ c.code = code) (hml : c.maxLocals = maxLocals) (hZ : Z.Warmed39 s.vm) (hown : s.vm.findClass x.cls = some m.cls) (hnm : meth.name = x.name) (hret : meth.sig.returnType = ret) (hlk : meth.locks = false) (N0 : Fr Z.heap.size locs) (hC : cells ≤ room_1.cells) (hS : slots ≤ room_1.slots) (e0 : T0.heap = h) (O : Ext Z.heap h) (qq0 : Exa Z h o7 cs3) (qq1 : Fld Z h o7 cs3 "size" "I" (.int 4)) (qq2 : Fld Z h o7 cs3 "firstNumber" "J" (.long u10)) :
    Go p e below (EndK s below (fun v h' L => v = some (.int 1) ∧ Fr Z.heap.size L) room_1.cells room_1.slots) (T0.setTop (mkF m 176 #[vJ p0, .second, vI p1, vI p2, vI p3, vI 4, vR o6, vR o7, vI u8, vI u9, vJ u10, .second, .unset, .unset, .unset, .unset] [])) := by
  have hw := B.1
  obtain ⟨S_wE0, V_wE0, S_high, S_cacheI, B_cacheI⟩ := B.2
  have M0 := Nat.le_refl h.size
  refine gIloadN X0 H at_176 rfl 177 rfl ?_
  refine gBipush X0 H at_177 (z := 8) rfl 179 rfl ?_
  refine g_iand X0 H at_179 (z := (p1 &&& (8 : Int32))) rfl 180 rfl ?_
  by_cases hc1243 : (p1 &&& (8 : Int32)) = (0 : Int32)
  · refine gIfY X0 H at_180 ((if0 _ _).trans (teq hc1243).1) (by decide) 189 rfl ?_
    refine gLload X0 H at_189 rfl 191 rfl ?_
    refine gIloadN X0 H at_191 rfl 192 rfl ?_
    refine gIconst X0 H at_192 (z := 4) rfl 193 rfl ?_
    refine g_iushr X0 H at_193 (z := ((p1.toUInt32 >>> ((4 : Int32) &&& 31).toUInt32).toInt32)) rfl 194 rfl ?_
    refine gBipush X0 H at_194 (z := 15) rfl 196 rfl ?_
    refine g_iand X0 H at_196 (z := (((p1.toUInt32 >>> ((4 : Int32) &&& 31).toUInt32).toInt32) &&& (15 : Int32))) rfl 197 rfl ?_
    refine gIconst X0 H at_197 (z := 4) rfl 198 rfl ?_
    refine g_isub X0 H at_198 (z := ((((p1.toUInt32 >>> ((4 : Int32) &&& 31).toUInt32).toInt32) &&& (15 : Int32)) - (4 : Int32))) rfl 199 rfl ?_
    refine g_i2l X0 H at_199 (z := (((((p1.toUInt32 >>> ((4 : Int32) &&& 31).toUInt32).toInt32) &&& (15 : Int32)) - (4 : Int32)).toInt64)) rfl 200 rfl ?_
    refine g_ladd X0 H at_200 (z := (u10 + (((((p1.toUInt32 >>> ((4 : Int32) &&& 31).toUInt32).toInt32) &&& (15 : Int32)) - (4 : Int32)).toInt64))) rfl 201 rfl ?_
    refine gLstore X0 H at_201 (Ls' := #[vJ p0, .second, vI p1, vI p2, vI p3, vI 4, vR o6, vR o7, vI u8, vI u9, vJ u10, .second, vJ (u10 + (((((p1.toUInt32 >>> ((4 : Int32) &&& 31).toUInt32).toInt32) &&& (15 : Int32)) - (4 : Int32)).toInt64)), .second, .unset, .unset]) rfl 203 rfl ?_
    exact tail1244_203 B p0 p1 p2 p3 o6 o7 u8 u9 u10 ((u10 + (((((p1.toUInt32 >>> ((4 : Int32) &&& 31).toUInt32).toInt32) &&& (15 : Int32)) - (4 : Int32)).toInt64))) X0 H hml hZ hown hnm hret hlk N0 hC hS e0 O qq0 qq1 qq2
  · refine gIfN X0 H at_180 ((if0 _ _).trans (feq hc1243).1) 183 rfl ?_
    refine gLloadN X0 H at_183 rfl 184 rfl ?_
    refine gLstore X0 H at_184 (Ls' := #[vJ p0, .second, vI p1, vI p2, vI p3, vI 4, vR o6, vR o7, vI u8, vI u9, vJ u10, .second, vJ p0, .second, .unset, .unset]) rfl 186 rfl ?_
    refine gGoto X0 H at_186 (by decide) 203 rfl ?_
    exact tail1244_203 B p0 p1 p2 p3 o6 o7 u8 u9 u10 p0 X0 H hml hZ hown hnm hret hlk N0 hC hS e0 O qq0 qq1 qq2
theorem rm1323_18 (B : Bg Z a0 wE0 w_cacheI k_wE0 cl_cacheI) (ro0 ro1 : Addr) (h : Heap) (O : Ext Z.heap h) (q1315 : Fld Z h ro0 cs3 "head" "I" (.int 0)) (q1317 : Fld Z h ro0 cs3 "buffer" cs2 (.ref ro1)) (q1320 : Arl Z h ro1 (1 : Int32)) :
    Con l Z yM18 prog_50_method_12_code 3 (some .int) ({ frames := 0, cells := 0, slots := 0, locals := 0 } : Room) #[(.ref ro0), (.int 1)] h (fun v h' L => v = some (.int 0) ∧ h' = h ∧ L = []) := by
  have hw := B.1
  refine Con.of (plainFor_of_name pn18) (Ls := #[vR ro0, vI 1, .unset]) (fun _ => rfl) ?_
  intro p e s m below meth c T0 X0 H hml hZ hown hnm hret hlk e0
  refine gAloadN X0 H d18_0 rfl rfl 1 rfl ?_
  refine gGetF X0 H hZ hown (hw _ wd125) Via.refl e0 q1315 d18_1 4 rfl ?_
  intro T1316 X1316 e1316
  refine gIloadN X1316 H d18_4 rfl 5 rfl ?_
  refine g_iadd X1316 H d18_5 (z := 1) (by decide) 6 rfl ?_
  refine gIstoreN X1316 H d18_6 (Ls' := #[vR ro0, vI 1, vI 1]) rfl 7 rfl ?_
  refine gIloadN X1316 H d18_7 rfl 8 rfl ?_
  refine gAloadN X1316 H d18_8 rfl rfl 9 rfl ?_
  refine gGetF X1316 H hZ hown (hw _ wd96) Via.refl e1316 q1317 d18_9 12 rfl ?_
  intro T1318 X1318 e1318
  refine gLen X1318 H hZ e1318 q1320 d18_12 13 rfl ?_
  refine gCmpY X1318 H d18_13 (by decide) (by decide) 20 rfl ?_
  refine gIloadN X1318 H d18_20 rfl 21 rfl ?_
  refine gAloadN X1318 H d18_21 rfl rfl 22 rfl ?_
  refine gGetF X1318 H hZ hown (hw _ wd96) Via.refl e1318 q1317 d18_22 25 rfl ?_
  intro T1321 X1321 e1321
  refine gLen X1321 H hZ e1321 q1320 d18_25 26 rfl ?_
  refine g_isub X1321 H d18_26 (z := 0) (by decide) 27 rfl ?_
  exact gRetI X1321 H hlk hret d18_27 e1321 ⟨rfl, rfl, rfl⟩
theorem rm1351_16 (B : Bg Z a0 wE0 w_cacheI k_wE0 cl_cacheI) (ro0 ro1 : Addr) (ck2 : ClassId) (ro3 : Addr) (h : Heap) (O : Ext Z.heap h) (q1302 : Fld Z h ro0 cs3 "size" "I" (.int 1)) (q1304 : Exa Z h ro0 cs3) (q1305 : Fld Z h ro0 cs3 "buffer" cs2 (.ref ro1)) (q1306 : Fld Z h ro0 cs3 "head" "I" (.int 0)) (q1307 : Arl Z h ro1 (1 : Int32)) (q1308 : Arv Z h ro1 ck2 (.object "java/lang/Object") (1 : Int32) [(.ref ro3)] .null) (q1313 : Z.heap.size ≤ ro1) (q1325 : ro0 ≠ ro1) (q1330 : Z.heap.size ≤ ro0) (q1335 : Fld Z h ro0 cs3 "firstNumber" "J" (.long 0)) (q1345 : Fld Z h ro0 cs3 "serial" "I" (.int 1)) :
    Con l Z yM16 prog_50_method_10_code 2 (some (.object "java/lang/Object")) ({ frames := 2, cells := 0, slots := 0, locals := 28 } : Room) #[(.ref ro0)] h (fun v h' L => v = some (.ref ro3) ∧ Fr Z.heap.size L ∧ Keep h h' [ro1, ro0] ∧ Fld Z h' ro0 cs3 "size" "I" (.int 0) ∧ Exa Z h' ro0 cs3 ∧ Fld Z h' ro0 cs3 "buffer" cs2 (.ref ro1) ∧ Fld Z h' ro0 cs3 "head" "I" (.int 0) ∧ Arv Z h' ro1 ck2 (.object "java/lang/Object") (1 : Int32) [.null] .null ∧ Fld Z h' ro0 cs3 "firstNumber" "J" (.long 1) ∧ Fld Z h' ro0 cs3 "serial" "I" (.int 1)) := by
  have hw := B.1
  refine Con.of (plainFor_of_name pn16) (Ls := #[vR ro0, .unset]) (fun _ => rfl) ?_
  intro p e s m below meth c T0 X0 H hml hZ hown hnm hret hlk e0
  have N0 := Fr.nil Z.heap.size
  refine gAloadN X0 H d16_0 rfl rfl 1 rfl ?_
  refine gGetF X0 H hZ hown (hw _ wd98) Via.refl e0 q1302 d16_1 4 rfl ?_
  intro T1303 X1303 e1303
  refine gIfY X1303 H d16_4 (by decide) (by decide) 9 rfl ?_
  refine gAloadN X1303 H d16_9 rfl rfl 10 rfl ?_
  refine gIconst X1303 H d16_10 (z := 0) rfl 11 rfl ?_
  refine gVirt X1303 H hZ hown (hw _ wd116) (hw _ wd117) (hw _ wd119) (hw _ wd118) (by decide) q1304 (hw _ wd120) (hw _ wd66) (rm238_17 B ro0 ro1 ck2 ro3 _ O q1305 q1304 q1306 q1307 q1308) e1303 hml rfl pd11 rfl (W := 0) (argsL := [(.int 0)]) (rest := []) rfl rfl d16_11 14 rfl ?_
  intro v1309 T1309 L1309 hq1309 X1309
  obtain ⟨rfl, e1309, rfl⟩ := hq1309
  have N1309 := Fr.app N0 (Fr.nil _)
  show Go _ _ _ _ (State.setTop _ (mkF _ 14 _ [(.ref ro3)]))
  refine gAstoreN X1309 H d16_14 rfl (Ls' := #[vR ro0, vR ro3]) rfl 15 rfl ?_
  refine gAloadN X1309 H d16_15 rfl rfl 16 rfl ?_
  refine gGetF X1309 H hZ hown (hw _ wd96) Via.refl e1309 q1305 d16_16 19 rfl ?_
  intro T1310 X1310 e1310
  refine gAloadN X1310 H d16_19 rfl rfl 20 rfl ?_
  refine gGetF X1310 H hZ hown (hw _ wd125) Via.refl e1310 q1306 d16_20 23 rfl ?_
  intro T1311 X1311 e1311
  refine gNull X1311 H d16_23 24 rfl ?_
  refine gAastore X1311 H hZ e1311 rfl (Or.inl rfl) q1308 ⟨by decide, by decide⟩ (i := 0) rfl (Nat.le_of_ble_eq_true rfl) (vs' := [.null]) rfl d16_24 25 rfl ?_
  intro T1312 h1312 X1312 e1312 W1312 V1312
  have O1312 := extW O W1312 q1313
  have N1312 := Fr.snoc X1312 N1309 q1313
  refine gAloadN X1312 H d16_25 rfl rfl 26 rfl ?_
  refine gAloadN X1312 H d16_26 rfl rfl 27 rfl ?_
  refine gIconst X1312 H d16_27 (z := 1) rfl 28 rfl ?_
  have c1314 := (q1304.wr W1312)
  have c1326 := (q1306.other W1312 (Or.inl q1325))
  have c1327 := (q1305.other W1312 (Or.inl q1325))
  refine gPrivate X1312 H hZ hown (hw _ wd121) (hw _ wd122) (hw _ wd123) (hw _ wd65) (by decide) c1314 (hw _ wd124) (hw _ wd66) (rm1323_18 B ro0 ro1 _ O1312 c1326 c1327 (Arv.arl V1312)) e1312 hml rfl pd6 rfl (W := 1) (argsL := [(.int 1)]) (rest := [(.ref ro0)]) rfl rfl d16_28 31 rfl ?_
  intro v1328 T1328 L1328 hq1328 X1328
  obtain ⟨rfl, e1328, rfl⟩ := hq1328
  have N1328 := Fr.app N1312 (Fr.nil _)
  show Go _ _ _ _ (State.setTop _ (mkF _ 31 _ [(.int 0), (.ref ro0)]))
  refine gPutF X1328 H hZ hown (hw _ wd125) Via.refl e1328 c1326 c1314 (Or.inl (hw _ wd126)) (hw _ wd65) (ty := .int) (by decide) (v' := (.int 0)) rfl rfl d16_31 34 rfl ?_
  intro T1329 h1329 X1329 e1329 W1329 F1329
  have O1329 := extW O1312 W1329 q1330
  have N1329 := Fr.snoc X1329 N1328 q1330
  refine gAloadN X1329 H d16_34 rfl rfl 35 rfl ?_
  refine gDup X1329 H d16_35 rfl 36 rfl ?_
  have c1331 := ((q1302.other W1312 (Or.inl q1325)).other W1329 (Or.inr (sn16 hw)))
  refine gGetF X1329 H hZ hown (hw _ wd98) Via.refl e1329 c1331 d16_36 39 rfl ?_
  intro T1332 X1332 e1332
  refine gIconst X1332 H d16_39 (z := 1) rfl 40 rfl ?_
  refine g_isub X1332 H d16_40 (z := 0) (by decide) 41 rfl ?_
  have c1334 := (c1314.wr W1329)
  refine gPutF X1332 H hZ hown (hw _ wd98) Via.refl e1332 c1331 c1334 (Or.inl (hw _ wd99)) (hw _ wd65) (ty := .int) (by decide) (v' := (.int 0)) rfl rfl d16_41 44 rfl ?_
  intro T1333 h1333 X1333 e1333 W1333 F1333
  have O1333 := extW O1329 W1333 q1330
  have N1333 := Fr.snoc X1333 N1329 q1330
  refine gAloadN X1333 H d16_44 rfl rfl 45 rfl ?_
  refine gDup X1333 H d16_45 rfl 46 rfl ?_
  have c1336 := (((q1335.other W1312 (Or.inl q1325)).other W1329 (Or.inr (sn17 hw))).other W1333 (Or.inr (sn12 hw)))
  refine gGetF X1333 H hZ hown (hw _ wd105) Via.refl e1333 c1336 d16_46 49 rfl ?_
  intro T1337 X1337 e1337
  refine gLconst X1337 H d16_49 (z := 1) rfl 50 rfl ?_
  refine g_ladd X1337 H d16_50 (z := 1) (by decide) 51 rfl ?_
  have c1339 := (c1334.wr W1333)
  refine gPutF X1337 H hZ hown (hw _ wd105) Via.refl e1337 c1336 c1339 (Or.inl (hw _ wd106)) (hw _ wd65) (ty := .long) (by decide) (v' := (.long 1)) rfl rfl d16_51 54 rfl ?_
  intro T1338 h1338 X1338 e1338 W1338 F1338
  have O1338 := extW O1333 W1338 q1330
  have N1338 := Fr.snoc X1338 N1333 q1330
  refine gAloadN X1338 H d16_54 rfl rfl 55 rfl ?_
  have c1340 := (((V1312.other W1329 (Ne.symm q1325)).other W1333 (Ne.symm q1325)).other W1338 (Ne.symm q1325))
  have c1341 := (F1333.other W1338 (Or.inr (sn21 hw)))
  have c1342 := (c1339.wr W1338)
  have c1343 := (((c1327.other W1329 (Or.inr (sn18 hw))).other W1333 (Or.inr (sn9 hw))).other W1338 (Or.inr (sn19 hw)))
  have c1344 := ((F1329.other W1333 (Or.inr (sn15 hw))).other W1338 (Or.inr (sn20 hw)))
  have c1346 := ((((q1345.other W1312 (Or.inl q1325)).other W1329 (Or.inr (sn22 hw))).other W1333 (Or.inr (sn8 hw))).other W1338 (Or.inr (sn23 hw)))
  have K_1347 := (Keep.refl h [ro1, ro0]).wr W1312 (Or.inl (List.mem_of_getElem? (i := 0) rfl))
  have K_1348 := K_1347.wr W1329 (Or.inl (List.mem_of_getElem? (i := 1) rfl))
  have K_1349 := K_1348.wr W1333 (Or.inl (List.mem_of_getElem? (i := 1) rfl))
  have K_1350 := K_1349.wr W1338 (Or.inl (List.mem_of_getElem? (i := 1) rfl))
  exact gRetA X1338 H hlk hret rfl rfl rfl d16_55 e1338 ⟨rfl, N1338, K_1350, c1341, c1342, c1343, c1344, c1340, F1338, c1346⟩
theorem rm1363_15 (B : Bg Z a0 wE0 w_cacheI k_wE0 cl_cacheI) (ro0 ro1 : Addr) (ck2 : ClassId) (ro3 : Addr) (h : Heap) (O : Ext Z.heap h) (q1301 : Exa Z h ro0 cs3) (q1324 : ro0 ≠ ro1) (q1352 : Fld Z h ro0 cs3 "size" "I" (.int 1)) (q1353 : Fld Z h ro0 cs3 "buffer" cs2 (.ref ro1)) (q1354 : Fld Z h ro0 cs3 "head" "I" (.int 0)) (q1355 : Arl Z h ro1 (1 : Int32)) (q1356 : Arv Z h ro1 ck2 (.object "java/lang/Object") (1 : Int32) [(.ref ro3)] .null) (q1357 : Z.heap.size ≤ ro1) (q1358 : Z.heap.size ≤ ro0) (q1359 : Fld Z h ro0 cs3 "firstNumber" "J" (.long 0)) (q1360 : Fld Z h ro0 cs3 "serial" "I" (.int 1)) :
    Con l Z yM15 method_2_code 2 none ({ frames := 3, cells := 0, slots := 0, locals := 41 } : Room) #[(.ref ro0), (.int 1)] h (fun v h' L => v = none ∧ Fr Z.heap.size L ∧ Keep h h' [ro1, ro0] ∧ Exa Z h' ro0 cs3 ∧ Fld Z h' ro0 cs3 "size" "I" (.int 0) ∧ Fld Z h' ro0 cs3 "buffer" cs2 (.ref ro1) ∧ Fld Z h' ro0 cs3 "head" "I" (.int 0) ∧ Arv Z h' ro1 ck2 (.object "java/lang/Object") (1 : Int32) [.null] .null ∧ Fld Z h' ro0 cs3 "firstNumber" "J" (.long 1) ∧ Fld Z h' ro0 cs3 "serial" "I" (.int 1)) := by
  have hw := B.1
  refine Con.of (plainFor_of_name pn15) (Ls := #[vR ro0, vI 1]) (fun _ => rfl) ?_
  intro p e s m below meth c T0 X0 H hml hZ hown hnm hret hlk e0
  have N0 := Fr.nil Z.heap.size
  refine gIloadN X0 H d15_0 rfl 1 rfl ?_
  refine gIfN X0 H d15_1 (by decide) 4 rfl ?_
  refine gAloadN X0 H d15_4 rfl rfl 5 rfl ?_
  refine gVirt X0 H hZ hown (hw _ wd111) (hw _ wd112) (hw _ wd114) (hw _ wd113) (by decide) q1301 (hw _ wd115) (hw _ wd66) (rm1351_16 B ro0 ro1 ck2 ro3 _ O q1352 q1301 q1353 q1354 q1355 q1356 q1357 q1324 q1358 q1359 q1360) e0 hml rfl pd13 rfl (W := 0) (argsL := []) (rest := []) rfl rfl d15_5 8 rfl ?_
  intro v1361 T1361 L1361 hq1361 X1361
  obtain ⟨rfl, N1361q, K1361, f1361_0, f1361_1, f1361_2, f1361_3, f1361_4, f1361_5, f1361_6⟩ := hq1361
  have O1361 := extK O K1361 (allS q1357 (allS q1358 all0))
  have N1361 := Fr.app N0 N1361q
  show Go _ _ _ _ (State.setTop _ (mkF _ 8 _ [(.ref ro3)]))
  refine gPop X1361 H d15_8 rfl 9 rfl ?_
  refine gGoto X1361 H d15_9 (by decide) 21 rfl ?_
  have K_1362 := (Keep.refl h [ro1, ro0]).trans K1361 (allS (Or.inl (List.mem_of_getElem? (i := 0) rfl)) (allS (Or.inl (List.mem_of_getElem? (i := 1) rfl)) all0))
  exact gRetV X1361 H hlk hret d15_21 rfl ⟨rfl, N1361, K_1362, f1361_1, f1361_0, f1361_2, f1361_3, f1361_4, f1361_5, f1361_6⟩
theorem rm1370_19 (B : Bg Z a0 wE0 w_cacheI k_wE0 cl_cacheI) (h : Heap) (O : Ext Z.heap h) :
    Con l Z yM19 jdk_29_method_69_code 2 (some .int) ({ frames := 0, cells := 0, slots := 0, locals := 0 } : Room) #[(.int 3), (.int 1)] h (fun v h' L => v = some (.int 1) ∧ h' = h ∧ L = []) := by
  refine Con.of (Jvm.Free.JP.mathPlain rfl (by decide +kernel)) (Ls := #[vI 3, vI 1]) (fun _ => rfl) ?_
  intro p e s m below meth c T0 X0 H hml hZ hown hnm hret hlk e0
  refine gIloadN X0 H d19_0 rfl 1 rfl ?_
  refine gIloadN X0 H d19_1 rfl 2 rfl ?_
  refine gCmpY X0 H d19_2 (by decide) (by decide) 9 rfl ?_
  refine gIloadN X0 H d19_9 rfl 10 rfl ?_
  exact gRetI X0 H hlk hret d19_10 e0 ⟨rfl, rfl, rfl⟩
theorem rm1373_19 (B : Bg Z a0 wE0 w_cacheI k_wE0 cl_cacheI) (h : Heap) (O : Ext Z.heap h) :
    Con l Z yM19 jdk_29_method_69_code 2 (some .int) ({ frames := 0, cells := 0, slots := 0, locals := 0 } : Room) #[(.int 2), (.int 1)] h (fun v h' L => v = some (.int 1) ∧ h' = h ∧ L = []) := by
  refine Con.of (Jvm.Free.JP.mathPlain rfl (by decide +kernel)) (Ls := #[vI 2, vI 1]) (fun _ => rfl) ?_
  intro p e s m below meth c T0 X0 H hml hZ hown hnm hret hlk e0
  refine gIloadN X0 H d19_0 rfl 1 rfl ?_
  refine gIloadN X0 H d19_1 rfl 2 rfl ?_
  refine gCmpY X0 H d19_2 (by decide) (by decide) 9 rfl ?_
  refine gIloadN X0 H d19_9 rfl 10 rfl ?_
  exact gRetI X0 H hlk hret d19_10 e0 ⟨rfl, rfl, rfl⟩
theorem rm1376_19 (B : Bg Z a0 wE0 w_cacheI k_wE0 cl_cacheI) (h : Heap) (O : Ext Z.heap h) :
    Con l Z yM19 jdk_29_method_69_code 2 (some .int) ({ frames := 0, cells := 0, slots := 0, locals := 0 } : Room) #[(.int 1), (.int 1)] h (fun v h' L => v = some (.int 1) ∧ h' = h ∧ L = []) := by
  refine Con.of (Jvm.Free.JP.mathPlain rfl (by decide +kernel)) (Ls := #[vI 1, vI 1]) (fun _ => rfl) ?_
  intro p e s m below meth c T0 X0 H hml hZ hown hnm hret hlk e0
  refine gIloadN X0 H d19_0 rfl 1 rfl ?_
  refine gIloadN X0 H d19_1 rfl 2 rfl ?_
  refine gCmpN X0 H d19_2 (by decide) 5 rfl ?_
  refine gIloadN X0 H d19_5 rfl 6 rfl ?_
  refine gGoto X0 H d19_6 (by decide) 10 rfl ?_
  exact gRetI X0 H hlk hret d19_10 e0 ⟨rfl, rfl, rfl⟩
theorem rm1379_19 (B : Bg Z a0 wE0 w_cacheI k_wE0 cl_cacheI) (h : Heap) (O : Ext Z.heap h) :
    Con l Z yM19 jdk_29_method_69_code 2 (some .int) ({ frames := 0, cells := 0, slots := 0, locals := 0 } : Room) #[(.int 0), (.int 1)] h (fun v h' L => v = some (.int 0) ∧ h' = h ∧ L = []) := by
  refine Con.of (Jvm.Free.JP.mathPlain rfl (by decide +kernel)) (Ls := #[vI 0, vI 1]) (fun _ => rfl) ?_
  intro p e s m below meth c T0 X0 H hml hZ hown hnm hret hlk e0
  refine gIloadN X0 H d19_0 rfl 1 rfl ?_
  refine gIloadN X0 H d19_1 rfl 2 rfl ?_
  refine gCmpN X0 H d19_2 (by decide) 5 rfl ?_
  refine gIloadN X0 H d19_5 rfl 6 rfl ?_
  refine gGoto X0 H d19_6 (by decide) 10 rfl ?_
  exact gRetI X0 H hlk hret d19_10 e0 ⟨rfl, rfl, rfl⟩
theorem tail1381_176 (B : Bg Z a0 wE0 w_cacheI k_wE0 cl_cacheI) (p0 : Int64) (p1 : Int32) (p2 : Int32) (p3 : Int32) (o6 : Addr) (o7 : Addr) (u8 : Int32) (u9 : Int32) (u10 : Int64) (u12 : Int32) {p : Program} {e : Env} {s : State} {m : MethodId} {below : List Frame} {meth : Method} {c : Code} {T0 : State} {locs : List Loc} {cells slots : Nat} {h : Heap} (X0 : Stand p l e room_1 s m #[(.long p0), (.int p1), (.int p2), (.int p3)] below meth c T0 locs cells slots) (H : p.tables.exec = Jvm.exec ∧ c.code = code) (hml : c.maxLocals = maxLocals) (hZ : Z.Warmed39 s.vm) (hown : s.vm.findClass x.cls = some m.cls) (hnm : meth.name = x.name) (hret : meth.sig.returnType = ret) (hlk : meth.locks = false) (N0 : Fr Z.heap.size locs) (hC : cells ≤ room_1.cells) (hS : slots ≤ room_1.slots) (e0 : T0.heap = h) (O : Ext Z.heap h) (qq0 : Exa Z h o7 cs3) (qq1 : Fld Z h o7 cs3 "size" "I" (.int 1)) (qq2 : Fld Z h o7 cs3 "firstNumber" "J" (.long u10)) :
    Go p e below (EndK s below (fun v h' L => v = some (.int 1) ∧ Fr Z.heap.size L) room_1.cells room_1.slots) (T0.setTop (mkF m 176 #[vJ p0, .second, vI p1, vI p2, vI p3, vI 1, vR o6, vR o7, vI u8, vI u9, vJ u10, .second, vI u12, .unset, .unset, .unset] [])) := by
  have hw := B.1
  obtain ⟨S_wE0, V_wE0, S_high, S_cacheI, B_cacheI⟩ := B.2
  have M0 := Nat.le_refl h.size
  refine gIloadN X0 H at_176 rfl 177 rfl ?_
  refine gBipush X0 H at_177 (z := 8) rfl 179 rfl ?_
  refine g_iand X0 H at_179 (z := (p1 &&& (8 : Int32))) rfl 180 rfl ?_
  by_cases hc1382 : (p1 &&& (8 : Int32)) = (0 : Int32)
  · refine gIfY X0 H at_180 ((if0 _ _).trans (teq hc1382).1) (by decide) 189 rfl ?_
    refine gLload X0 H at_189 rfl 191 rfl ?_
    refine gIloadN X0 H at_191 rfl 192 rfl ?_
    refine gIconst X0 H at_192 (z := 4) rfl 193 rfl ?_
    refine g_iushr X0 H at_193 (z := ((p1.toUInt32 >>> ((4 : Int32) &&& 31).toUInt32).toInt32)) rfl 194 rfl ?_
    refine gBipush X0 H at_194 (z := 15) rfl 196 rfl ?_
    refine g_iand X0 H at_196 (z := (((p1.toUInt32 >>> ((4 : Int32) &&& 31).toUInt32).toInt32) &&& (15 : Int32))) rfl 197 rfl ?_
    refine gIconst X0 H at_197 (z := 4) rfl 198 rfl ?_
    refine g_isub X0 H at_198 (z := ((((p1.toUInt32 >>> ((4 : Int32) &&& 31).toUInt32).toInt32) &&& (15 : Int32)) - (4 : Int32))) rfl 199 rfl ?_
    refine g_i2l X0 H at_199 (z := (((((p1.toUInt32 >>> ((4 : Int32) &&& 31).toUInt32).toInt32) &&& (15 : Int32)) - (4 : Int32)).toInt64)) rfl 200 rfl ?_
    refine g_ladd X0 H at_200 (z := (u10 + (((((p1.toUInt32 >>> ((4 : Int32) &&& 31).toUInt32).toInt32) &&& (15 : Int32)) - (4 : Int32)).toInt64))) rfl 201 rfl ?_
    refine gLstore X0 H at_201 (Ls' := #[vJ p0, .second, vI p1, vI p2, vI p3, vI 1, vR o6, vR o7, vI u8, vI u9, vJ u10, .second, vJ (u10 + (((((p1.toUInt32 >>> ((4 : Int32) &&& 31).toUInt32).toInt32) &&& (15 : Int32)) - (4 : Int32)).toInt64)), .second, .unset, .unset]) rfl 203 rfl ?_
    exact tail644_203 B p0 p1 p2 p3 o6 o7 u8 u9 u10 ((u10 + (((((p1.toUInt32 >>> ((4 : Int32) &&& 31).toUInt32).toInt32) &&& (15 : Int32)) - (4 : Int32)).toInt64))) X0 H hml hZ hown hnm hret hlk N0 hC hS e0 O qq0 qq1 qq2
  · refine gIfN X0 H at_180 ((if0 _ _).trans (feq hc1382).1) 183 rfl ?_
    refine gLloadN X0 H at_183 rfl 184 rfl ?_
    refine gLstore X0 H at_184 (Ls' := #[vJ p0, .second, vI p1, vI p2, vI p3, vI 1, vR o6, vR o7, vI u8, vI u9, vJ u10, .second, vJ p0, .second, .unset, .unset]) rfl 186 rfl ?_
    refine gGoto X0 H at_186 (by decide) 203 rfl ?_
    exact tail644_203 B p0 p1 p2 p3 o6 o7 u8 u9 u10 p0 X0 H hml hZ hown hnm hret hlk N0 hC hS e0 O qq0 qq1 qq2
theorem lawAll_1 (B : Bg Z a0 wE0 w_cacheI k_wE0 cl_cacheI) (p0 : Int64) (p1 : Int32) (p2 : Int32) (p3 : Int32) (ha0 : (p2 &&& (3 : Int32)) = (1 : Int32)) :
    Con l Z x code maxLocals ret room_1 #[(.long p0), (.int p1), (.int p2), (.int p3)] Z.heap (fun v h' L => v = some (.int 1) ∧ Fr Z.heap.size L) := by
  have hw := B.1
  obtain ⟨S_wE0, V_wE0, S_high, S_cacheI, B_cacheI⟩ := B.2
  refine Con.of (plainFor_of_name pn0) (Ls := #[vJ p0, .second, vI p1, vI p2, vI p3, .unset, .unset, .unset, .unset, .unset, .unset, .unset, .unset, .unset, .unset, .unset]) (fun _ => by first | (simp [entryFrame, mkF, argsToLocals, Value.category, maxLocals]; done) | rfl) ?_
  intro p e s m below meth c T0 X0 H hml hZ hown hnm hret hlk e0
  have O0 := extR Z.heap
  have M0 := Nat.le_refl Z.heap.size
  have N0 := Fr.nil Z.heap.size
  refine gIloadN X0 H at_0 rfl 1 rfl ?_
  refine gIconst X0 H at_1 (z := 3) rfl 2 rfl ?_
  refine g_iand X0 H at_2 (z := 1) ha0 3 rfl ?_
  refine gIstore X0 H at_3 (Ls' := #[vJ p0, .second, vI p1, vI p2, vI p3, vI 1, .unset, .unset, .unset, .unset, .unset, .unset, .unset, .unset, .unset, .unset]) rfl 5 rfl ?_
  refine gNew X0 H hZ hown (hw _ wd0) (hw _ wd1) (hw _ wd2) e0 (by decide) (by decide) at_5 8 rfl ?_
  intro T709 h709 b709 X709 e709 z709 E709 A709 D709
  have G_b709 := Nat.le_trans O0.1 (Nat.le_of_eq z709)
  have sz_b709 := Nat.le_trans M0 (Nat.le_of_eq z709)
  have O709 := extT O0 E709
  have F709_modCount : Fld Z h709 b709 cs0 "modCount" "I" (.int 0) := D709 (Or.inl (hw _ wd22)) (ty := .int) (by decide)
  have F709_elementData : Fld Z h709 b709 cs1 "elementData" cs2 .null := D709 (Or.inl (hw _ wd25)) (ty := (.array (.object "java/lang/Object"))) (by decide)
  have F709_size : Fld Z h709 b709 cs1 "size" "I" (.int 0) := D709 (Or.inl (hw _ wd41)) (ty := .int) (by decide)
  refine gDup X709 H at_8 rfl 9 rfl ?_
  refine gSpecial X709 H hZ hown rfl rfl (hw _ wd3) (hw _ wd4) (by decide) (hw _ wd5) (hw _ wd2) (rm29_1 B b709 _ O709 A709 F709_modCount G_b709 F709_elementData F709_size) e709 hml rfl pd0 rfl (W := 1) (argsL := []) (rest := [(.ref b709)]) rfl rfl at_9 12 rfl ?_
  intro v710 T710 L710 hq710 X710
  obtain ⟨rfl, N710q, K710, f710_0, f710_1, f710_2, f710_3⟩ := hq710
  have O710 := extK O709 K710 (allS G_b709 all0)
  have N710 := Fr.app N0 N710q
  show Go _ _ _ _ (State.setTop _ (mkF _ 12 _ [(.ref b709)]))
  refine gAstore X710 H at_12 rfl (Ls' := #[vJ p0, .second, vI p1, vI p2, vI p3, vI 1, vR b709, .unset, .unset, .unset, .unset, .unset, .unset, .unset, .unset, .unset]) rfl 14 rfl ?_
  refine gIload X710 H at_14 rfl 16 rfl ?_
  refine gIfN X710 H at_16 (by decide) 19 rfl ?_
  refine gAload X710 H at_19 rfl rfl 21 rfl ?_
  refine gBipush X710 H at_21 (z := 10) rfl 23 rfl ?_
  refine gStatic X710 H hZ hown (hw _ wd26) (hw _ wd27) (by decide) (hw _ wd29) (hw _ wd28) (rm714_5 B _ O710) rfl hml rfl pd5 rfl (W := 1) (argsL := [(.int 10)]) (rest := [(.ref b709)]) rfl rfl at_23 26 rfl ?_
  intro v715 T715 L715 hq715 X715
  obtain ⟨b715_0, rfl, N715q, K715, f715_0⟩ := hq715
  have O715 := extK O710 K715 all0
  have N715 := Fr.app N710 N715q
  show Go _ _ _ _ (State.setTop _ (mkF _ 26 _ [(.ref b715_0), (.ref b709)]))
  have c716 := (f710_0.keep K715)
  have c788 := (f710_1.keep K715 nin0)
  have c789 := (f710_2.keep K715 nin0)
  have c790 := (f710_3.keep K715 nin0)
  refine gVirt X715 H hZ hown (hw _ wd33) (hw _ wd34) (hw _ wd36) (hw _ wd35) (by decide) c716 (hw _ wd37) (hw _ wd2) (rm787_6 B b709 b715_0 _ O715 c788 c716 G_b709 c789 c790 f715_0) rfl hml rfl pd17 rfl (W := 0) (argsL := [(.ref b715_0)]) (rest := []) rfl rfl at_26 29 rfl ?_
  intro v791 T791 L791 hq791 X791
  obtain ⟨b791_0, k791_0, rfl, N791q, K791, s791_0, f791_0, f791_1, f791_2, f791_3, f791_4, f791_5⟩ := hq791
  have M792 := (Nat.le_trans (Nat.le_trans (Nat.le_trans M0 E709.1) K710.1) K715.1)
  have G_b791_0 := Nat.le_trans O715.1 s791_0
  have sz_b791_0 := Nat.le_trans M792 s791_0
  have ne_b709_b791_0 : b709 ≠ b791_0 := neB c716.lt s791_0
  have ne_b715_0_b791_0 : b715_0 ≠ b791_0 := neB f715_0.lt s791_0
  have O791 := extK O715 K791 (allS G_b709 all0)
  have N791 := Fr.app N715 N791q
  show Go _ _ _ _ (State.setTop _ (mkF _ 29 _ [(.int 1)]))
  refine gPop X791 H at_29 rfl 30 rfl ?_
  refine gIload X791 H at_30 rfl 32 rfl ?_
  refine gIconst X791 H at_32 (z := 1) rfl 33 rfl ?_
  refine gCmpY X791 H at_33 (by decide) (by decide) 47 rfl ?_
  refine gIload X791 H at_47 rfl 49 rfl ?_
  refine gIconst X791 H at_49 (z := 2) rfl 50 rfl ?_
  refine gCmpY X791 H at_50 (by decide) (by decide) 64 rfl ?_
  refine gNew X791 H hZ hown (hw _ wd64) (hw _ wd65) (hw _ wd66) rfl (by decide) (by decide) at_64 67 rfl ?_
  intro T793 h793 b793 X793 e793 z793 E793 A793 D793
  have M794 := (Nat.le_trans M792 K791.1)
  have G_b793 := Nat.le_trans O791.1 (Nat.le_of_eq z793)
  have sz_b793 := Nat.le_trans M794 (Nat.le_of_eq z793)
  have ne_b709_b793 : b709 ≠ b793 := neB f791_1.lt (Nat.le_of_eq z793)
  have c795 := (f715_0.keep K791)
  have ne_b715_0_b793 : b715_0 ≠ b793 := neB c795.lt (Nat.le_of_eq z793)
  have ne_b791_0_b793 : b791_0 ≠ b793 := neB f791_4.lt (Nat.le_of_eq z793)
  have O793 := extT O791 E793
  have F793_serial : Fld Z h793 b793 cs3 "serial" "I" (.int 0) := D793 (Or.inr (hw _ wd72)) (ty := .int) (by decide)
  have F793_buffer : Fld Z h793 b793 cs3 "buffer" cs2 .null := D793 (Or.inl (hw _ wd97)) (ty := (.array (.object "java/lang/Object"))) (by decide)
  have F793_size : Fld Z h793 b793 cs3 "size" "I" (.int 0) := D793 (Or.inl (hw _ wd99)) (ty := .int) (by decide)
  have F793_firstNumber : Fld Z h793 b793 cs3 "firstNumber" "J" (.long 0) := D793 (Or.inl (hw _ wd106)) (ty := .long) (by decide)
  have F793_head : Fld Z h793 b793 cs3 "head" "I" (.int 0) := D793 (Or.inl (hw _ wd126)) (ty := .int) (by decide)
  refine gDup X793 H at_67 rfl 68 rfl ?_
  refine gIconst X793 H at_68 (z := 1) rfl 69 rfl ?_
  refine gAload X793 H at_69 rfl rfl 71 rfl ?_
  have c868 := (f791_1.ext E793)
  have c869 := (f791_3.ext E793)
  have c870 := (f791_2.ext E793)
  have c871 := (f791_4.ext E793)
  have c872 := (c795.ext E793)
  refine gSpecial X793 H hZ hown rfl rfl (hw _ wd67) (hw _ wd68) (by decide) (hw _ wd69) (hw _ wd66) (rm867_11 B b793 b709 b791_0 k791_0 b715_0 _ O793 A793 F793_serial G_b793 c868 c869 ne_b709_b793 c870 c871 ne_b791_0_b793 c872 F793_buffer F793_size F793_firstNumber F793_head) e793 hml rfl pd4 rfl (W := 1) (argsL := [(.int 1), (.ref b709)]) (rest := [(.ref b793)]) rfl rfl at_71 74 rfl ?_
  intro v873 T873 L873 hq873 X873
  obtain ⟨b873_0, k873_0, rfl, N873q, K873, s873_0, f873_0, f873_1, f873_2, f873_3, f873_4, f873_5, f873_6, f873_7⟩ := hq873
  have M874 := (Nat.le_trans M794 E793.1)
  have G_b873_0 := Nat.le_trans O793.1 s873_0
  have sz_b873_0 := Nat.le_trans M874 s873_0
  have ne_b709_b873_0 : b709 ≠ b873_0 := neB c868.lt s873_0
  have ne_b715_0_b873_0 : b715_0 ≠ b873_0 := neB c872.lt s873_0
  have ne_b791_0_b873_0 : b791_0 ≠ b873_0 := neB c871.lt s873_0
  have ne_b793_b873_0 : b793 ≠ b873_0 := neB A793.lt s873_0
  have O873 := extK O793 K873 (allS G_b793 all0)
  have N873 := Fr.app N791 N873q
  show Go _ _ _ _ (State.setTop _ (mkF _ 74 _ [(.ref b793)]))
  refine gAstore X873 H at_74 rfl (Ls' := #[vJ p0, .second, vI p1, vI p2, vI p3, vI 1, vR b709, vR b793, .unset, .unset, .unset, .unset, .unset, .unset, .unset, .unset]) rfl 76 rfl ?_
  refine gIload X873 H at_76 rfl 78 rfl ?_
  refine gIconst X873 H at_78 (z := 3) rfl 79 rfl ?_
  refine g_iand X873 H at_79 (z := (p3 &&& (3 : Int32))) rfl 80 rfl ?_
  refine gIstore X873 H at_80 (Ls' := #[vJ p0, .second, vI p1, vI p2, vI p3, vI 1, vR b709, vR b793, vI (p3 &&& (3 : Int32)), .unset, .unset, .unset, .unset, .unset, .unset, .unset]) rfl 82 rfl ?_
  refine gIload X873 H at_82 rfl 84 rfl ?_
  refine gIconst X873 H at_84 (z := 4) rfl 85 rfl ?_
  refine g_iand X873 H at_85 (z := (p3 &&& (4 : Int32))) rfl 86 rfl ?_
  by_cases hc875 : (p3 &&& (4 : Int32)) = (0 : Int32)
  · refine gIfY X873 H at_86 ((if0 _ _).trans (teq hc875).1) (by decide) 93 rfl ?_
    refine gIconst X873 H at_93 (z := 0) rfl 94 rfl ?_
    refine gIstore X873 H at_94 (Ls' := #[vJ p0, .second, vI p1, vI p2, vI p3, vI 1, vR b709, vR b793, vI (p3 &&& (3 : Int32)), vI 0, .unset, .unset, .unset, .unset, .unset, .unset]) rfl 96 rfl ?_
    refine gIload X873 H at_96 rfl 98 rfl ?_
    by_cases hc876 : (0 : Int32) < (p3 &&& (3 : Int32))
    · refine gIfN X873 H at_98 ((if0 _ _).trans (tlt hc876).2.2.2) 101 rfl ?_
      refine gAload X873 H at_101 rfl rfl 103 rfl ?_
      refine gIload X873 H at_103 rfl 105 rfl ?_
      have c992 := (c872.keep K873)
      refine gStatic X873 H hZ hown (hw _ wd107) (hw _ wd108) (by decide) (hw _ wd110) (hw _ wd109) (rm991_15 B b793 b873_0 k873_0 b715_0 _ O873 f873_0 f873_4 f873_3 (Arv.arl f873_2) f873_6 f873_2 c992 G_b793 f873_1 f873_5) rfl hml rfl pd9 rfl (W := 0) (argsL := [(.ref b793), (.int 0)]) (rest := []) rfl rfl at_105 108 rfl ?_
      intro v993 T993 L993 hq993 X993
      obtain ⟨b993_0, b993_1, k993_0, rfl, N993q, K993, s993_1, f993_0, f993_1, f993_2, f993_3, f993_4, f993_5, f993_6, f993_7, f993_8, f993_9⟩ := hq993
      have M994 := (Nat.le_trans M874 K873.1)
      have G_b993_1 := Nat.le_trans O873.1 s993_1
      have sz_b993_1 := Nat.le_trans M994 s993_1
      have c995 := (c868.keep K873)
      have ne_b709_b993_1 : b709 ≠ b993_1 := neB c995.lt s993_1
      have ne_b715_0_b993_1 : b715_0 ≠ b993_1 := neB c992.lt s993_1
      have c996 := (c871.keep K873 (ninS ne_b791_0_b793 nin0))
      have ne_b791_0_b993_1 : b791_0 ≠ b993_1 := neB c996.lt s993_1
      have ne_b793_b993_1 : b793 ≠ b993_1 := neB f873_0.lt s993_1
      have ne_b873_0_b993_1 : b873_0 ≠ b993_1 := neB f873_2.lt s993_1
      have O993 := extK O873 K993 (allS G_b793 all0)
      have N993 := Fr.app N873 N993q
      show Go _ _ _ _ (State.setTop _ (mkF _ 108 _ []))
      refine gIload X993 H at_108 rfl 110 rfl ?_
      refine gIconst X993 H at_110 (z := 1) rfl 111 rfl ?_
      by_cases hc997 : (1 : Int32) < (p3 &&& (3 : Int32))
      · refine gCmpN X993 H at_111 (tlt hc997).2.2.2 114 rfl ?_
        refine gAload X993 H at_114 rfl rfl 116 rfl ?_
        refine gIload X993 H at_116 rfl 118 rfl ?_
        have c1127 := (c992.keep K993)
        refine gStatic X993 H hZ hown (hw _ wd107) (hw _ wd108) (by decide) (hw _ wd110) (hw _ wd109) (rm1126_15 B b793 b993_1 k993_0 b715_0 b993_0 _ O993 f993_1 f993_2 f993_3 (Arv.arl f993_7) f993_4 f993_7 f993_0 c1127 G_b793 f993_5 f993_6) rfl hml rfl pd9 rfl (W := 0) (argsL := [(.ref b793), (.int 0)]) (rest := []) rfl rfl at_118 121 rfl ?_
        intro v1128 T1128 L1128 hq1128 X1128
        obtain ⟨b1128_0, b1128_1, k1128_0, rfl, N1128q, K1128, s1128_1, f1128_0, f1128_1, f1128_2, f1128_3, f1128_4, f1128_5, f1128_6, f1128_7, f1128_8, f1128_9⟩ := hq1128
        have M1129 := (Nat.le_trans M994 K993.1)
        have G_b1128_1 := Nat.le_trans O993.1 s1128_1
        have sz_b1128_1 := Nat.le_trans M1129 s1128_1
        have c1130 := (c995.keep K993)
        have ne_b709_b1128_1 : b709 ≠ b1128_1 := neB c1130.lt s1128_1
        have ne_b715_0_b1128_1 : b715_0 ≠ b1128_1 := neB c1127.lt s1128_1
        have c1131 := (c996.keep K993 (ninS ne_b791_0_b793 nin0))
        have ne_b791_0_b1128_1 : b791_0 ≠ b1128_1 := neB c1131.lt s1128_1
        have ne_b793_b1128_1 : b793 ≠ b1128_1 := neB f993_1.lt s1128_1
        have c1132 := (f873_2.keep K993 (ninS (Ne.symm ne_b793_b873_0) nin0))
        have ne_b873_0_b1128_1 : b873_0 ≠ b1128_1 := neB c1132.lt s1128_1
        have ne_b993_0_b1128_1 : b993_0 ≠ b1128_1 := neB f993_0.lt s1128_1
        have ne_b993_1_b1128_1 : b993_1 ≠ b1128_1 := neB f993_7.lt s1128_1
        have O1128 := extK O993 K1128 (allS G_b793 all0)
        have N1128 := Fr.app N993 N1128q
        show Go _ _ _ _ (State.setTop _ (mkF _ 121 _ []))
        refine gIload X1128 H at_121 rfl 123 rfl ?_
        refine gIconst X1128 H at_123 (z := 2) rfl 124 rfl ?_
        by_cases hc1133 : (2 : Int32) < (p3 &&& (3 : Int32))
        · refine gCmpN X1128 H at_124 (tlt hc1133).2.2.2 127 rfl ?_
          refine gAload X1128 H at_127 rfl rfl 129 rfl ?_
          refine gIload X1128 H at_129 rfl 131 rfl ?_
          refine gStatic X1128 H hZ hown (hw _ wd107) (hw _ wd108) (by decide) (hw _ wd110) (hw _ wd109) (rm1239_15 B b793 b1128_1 k1128_0 b993_0 b715_0 b1128_0 _ O1128 f1128_1 (Ne.symm ne_b793_b1128_1) f1128_2 f1128_3 (Arv.arl f1128_7) f1128_4 G_b793 f1128_6 f1128_7 f1128_9 G_b1128_1 f1128_5) rfl hml rfl pd9 rfl (W := 0) (argsL := [(.ref b793), (.int 0)]) (rest := []) rfl rfl at_131 134 rfl ?_
          intro v1240 T1240 L1240 hq1240 X1240
          obtain ⟨b1240_0, rfl, N1240q, K1240, f1240_0, f1240_1, f1240_2, f1240_3, f1240_4, f1240_5, f1240_6, f1240_7⟩ := hq1240
          have O1240 := extK O1128 K1240 (allS G_b793 (allS G_b1128_1 all0))
          have N1240 := Fr.app N1128 N1240q
          show Go _ _ _ _ (State.setTop _ (mkF _ 134 _ []))
          have hP1241 : (p3 &&& (3 : Int32)) = (3 : Int32) := pk3 hc1133
          rw [hP1241]
          refine gIload X1240 H at_134 rfl 136 rfl ?_
          refine gIfY X1240 H at_136 (by decide) (by decide) 163 rfl ?_
          refine gIload X1240 H at_163 rfl 165 rfl ?_
          refine gIload X1240 H at_165 rfl 167 rfl ?_
          refine g_iadd X1240 H at_167 (z := 4) (by decide) 168 rfl ?_
          refine gIstore X1240 H at_168 (Ls' := #[vJ p0, .second, vI p1, vI p2, vI p3, vI 4, vR b709, vR b793, vI 3, vI 0, .unset, .unset, .unset, .unset, .unset, .unset]) rfl 170 rfl ?_
          refine gIload X1240 H at_170 rfl 172 rfl ?_
          refine g_ineg X1240 H at_172 (z := (-3)) (by decide) 173 rfl ?_
          refine g_i2l X1240 H at_173 (z := (-3)) (by decide) 174 rfl ?_
          refine gLstore X1240 H at_174 (Ls' := #[vJ p0, .second, vI p1, vI p2, vI p3, vI 4, vR b709, vR b793, vI 3, vI 0, vJ (-3), .second, .unset, .unset, .unset, .unset]) rfl 176 rfl ?_
          exact tail1242_176 B p0 p1 p2 p3 b709 b793 ((3 : Int32)) ((0 : Int32)) ((-3 : Int64)) X1240 H hml hZ hown hnm hret hlk N1240 (by decide) (by decide) rfl O1240 f1240_1 f1240_2 f1240_5
        · refine gCmpY X1128 H at_124 (flt hc1133).2.2.2 (by decide) 134 rfl ?_
          have hP1297 : (p3 &&& (3 : Int32)) = (2 : Int32) := pk2 hc997 hc1133
          rw [hP1297]
          refine gIload X1128 H at_134 rfl 136 rfl ?_
          refine gIfY X1128 H at_136 (by decide) (by decide) 163 rfl ?_
          refine gIload X1128 H at_163 rfl 165 rfl ?_
          refine gIload X1128 H at_165 rfl 167 rfl ?_
          refine g_iadd X1128 H at_167 (z := 3) (by decide) 168 rfl ?_
          refine gIstore X1128 H at_168 (Ls' := #[vJ p0, .second, vI p1, vI p2, vI p3, vI 3, vR b709, vR b793, vI 2, vI 0, .unset, .unset, .unset, .unset, .unset, .unset]) rfl 170 rfl ?_
          refine gIload X1128 H at_170 rfl 172 rfl ?_
          refine g_ineg X1128 H at_172 (z := (-2)) (by decide) 173 rfl ?_
          refine g_i2l X1128 H at_173 (z := (-2)) (by decide) 174 rfl ?_
          refine gLstore X1128 H at_174 (Ls' := #[vJ p0, .second, vI p1, vI p2, vI p3, vI 3, vR b709, vR b793, vI 2, vI 0, vJ (-2), .second, .unset, .unset, .unset, .unset]) rfl 176 rfl ?_
          exact tail556_176 B p0 p1 p2 p3 b709 b793 ((2 : Int32)) ((0 : Int32)) ((-2 : Int64)) X1128 H hml hZ hown hnm hret hlk N1128 (by decide) (by decide) rfl O1128 f1128_1 f1128_2 f1128_6
      · refine gCmpY X993 H at_111 (flt hc997).2.2.2 (by decide) 121 rfl ?_
        refine gIload X993 H at_121 rfl 123 rfl ?_
        refine gIconst X993 H at_123 (z := 2) rfl 124 rfl ?_
        refine gCmpY X993 H at_124 (flt (fun q => hc997 (Int32.lt_trans (by decide) q))).2.2.2 (by decide) 134 rfl ?_
        have hP1298 : (p3 &&& (3 : Int32)) = (1 : Int32) := pk1 hc876 hc997
        rw [hP1298]
        refine gIload X993 H at_134 rfl 136 rfl ?_
        refine gIfY X993 H at_136 (by decide) (by decide) 163 rfl ?_
        refine gIload X993 H at_163 rfl 165 rfl ?_
        refine gIload X993 H at_165 rfl 167 rfl ?_
        refine g_iadd X993 H at_167 (z := 2) (by decide) 168 rfl ?_
        refine gIstore X993 H at_168 (Ls' := #[vJ p0, .second, vI p1, vI p2, vI p3, vI 2, vR b709, vR b793, vI 1, vI 0, .unset, .unset, .unset, .unset, .unset, .unset]) rfl 170 rfl ?_
        refine gIload X993 H at_170 rfl 172 rfl ?_
        refine g_ineg X993 H at_172 (z := (-1)) (by decide) 173 rfl ?_
        refine g_i2l X993 H at_173 (z := (-1)) (by decide) 174 rfl ?_
        refine gLstore X993 H at_174 (Ls' := #[vJ p0, .second, vI p1, vI p2, vI p3, vI 2, vR b709, vR b793, vI 1, vI 0, vJ (-1), .second, .unset, .unset, .unset, .unset]) rfl 176 rfl ?_
        exact tail606_176 B p0 p1 p2 p3 b709 b793 ((1 : Int32)) ((0 : Int32)) ((-1 : Int64)) X993 H hml hZ hown hnm hret hlk N993 (by decide) (by decide) rfl O993 f993_1 f993_2 f993_6
    · refine gIfY X873 H at_98 ((if0 _ _).trans (flt hc876).2.2.2) (by decide) 108 rfl ?_
      refine gIload X873 H at_108 rfl 110 rfl ?_
      refine gIconst X873 H at_110 (z := 1) rfl 111 rfl ?_
      refine gCmpY X873 H at_111 (flt (fun q => hc876 (Int32.lt_trans (by decide) q))).2.2.2 (by decide) 121 rfl ?_
      refine gIload X873 H at_121 rfl 123 rfl ?_
      refine gIconst X873 H at_123 (z := 2) rfl 124 rfl ?_
      refine gCmpY X873 H at_124 (flt (fun q => hc876 (Int32.lt_trans (by decide) q))).2.2.2 (by decide) 134 rfl ?_
      have hP1299 : (p3 &&& (3 : Int32)) = (0 : Int32) := pk0 hc876
      rw [hP1299]
      refine gIload X873 H at_134 rfl 136 rfl ?_
      refine gIfY X873 H at_136 (by decide) (by decide) 163 rfl ?_
      refine gIload X873 H at_163 rfl 165 rfl ?_
      refine gIload X873 H at_165 rfl 167 rfl ?_
      refine g_iadd X873 H at_167 (z := 1) (by decide) 168 rfl ?_
      refine gIstore X873 H at_168 (Ls' := #[vJ p0, .second, vI p1, vI p2, vI p3, vI 1, vR b709, vR b793, vI 0, vI 0, .unset, .unset, .unset, .unset, .unset, .unset]) rfl 170 rfl ?_
      refine gIload X873 H at_170 rfl 172 rfl ?_
      refine g_ineg X873 H at_172 (z := 0) (by decide) 173 rfl ?_
      refine g_i2l X873 H at_173 (z := 0) (by decide) 174 rfl ?_
      refine gLstore X873 H at_174 (Ls' := #[vJ p0, .second, vI p1, vI p2, vI p3, vI 1, vR b709, vR b793, vI 0, vI 0, vJ 0, .second, .unset, .unset, .unset, .unset]) rfl 176 rfl ?_
      exact tail642_176 B p0 p1 p2 p3 b709 b793 ((0 : Int32)) ((0 : Int32)) ((0 : Int64)) X873 H hml hZ hown hnm hret hlk N873 (by decide) (by decide) rfl O873 f873_0 f873_4 f873_5
  · refine gIfN X873 H at_86 ((if0 _ _).trans (feq hc875).1) 89 rfl ?_
    refine gIconst X873 H at_89 (z := 1) rfl 90 rfl ?_
    refine gGoto X873 H at_90 (by decide) 94 rfl ?_
    refine gIstore X873 H at_94 (Ls' := #[vJ p0, .second, vI p1, vI p2, vI p3, vI 1, vR b709, vR b793, vI (p3 &&& (3 : Int32)), vI 1, .unset, .unset, .unset, .unset, .unset, .unset]) rfl 96 rfl ?_
    refine gIload X873 H at_96 rfl 98 rfl ?_
    by_cases hc1300 : (0 : Int32) < (p3 &&& (3 : Int32))
    · refine gIfN X873 H at_98 ((if0 _ _).trans (tlt hc1300).2.2.2) 101 rfl ?_
      refine gAload X873 H at_101 rfl rfl 103 rfl ?_
      refine gIload X873 H at_103 rfl 105 rfl ?_
      refine gStatic X873 H hZ hown (hw _ wd107) (hw _ wd108) (by decide) (hw _ wd110) (hw _ wd109) (rm1363_15 B b793 b873_0 k873_0 b715_0 _ O873 f873_0 ne_b793_b873_0 f873_4 f873_3 f873_6 (Arv.arl f873_2) f873_2 G_b873_0 G_b793 f873_5 f873_1) rfl hml rfl pd9 rfl (W := 0) (argsL := [(.ref b793), (.int 1)]) (rest := []) rfl rfl at_105 108 rfl ?_
      intro v1364 T1364 L1364 hq1364 X1364
      obtain ⟨rfl, N1364q, K1364, f1364_0, f1364_1, f1364_2, f1364_3, f1364_4, f1364_5, f1364_6⟩ := hq1364
      have O1364 := extK O873 K1364 (allS G_b873_0 (allS G_b793 all0))
      have N1364 := Fr.app N873 N1364q
      show Go _ _ _ _ (State.setTop _ (mkF _ 108 _ []))
      refine gIload X1364 H at_108 rfl 110 rfl ?_
      refine gIconst X1364 H at_110 (z := 1) rfl 111 rfl ?_
      by_cases hc1365 : (1 : Int32) < (p3 &&& (3 : Int32))
      · refine gCmpN X1364 H at_111 (tlt hc1365).2.2.2 114 rfl ?_
        refine gAload X1364 H at_114 rfl rfl 116 rfl ?_
        refine gIload X1364 H at_116 rfl 118 rfl ?_
        refine gStatic X1364 H hZ hown (hw _ wd107) (hw _ wd108) (by decide) (hw _ wd110) (hw _ wd109) (rm689_15 B b793 _ O1364 f1364_0 f1364_1) rfl hml rfl pd9 rfl (W := 0) (argsL := [(.ref b793), (.int 1)]) (rest := []) rfl rfl at_118 121 rfl ?_
        intro v1366 T1366 L1366 hq1366 X1366
        obtain ⟨rfl, e1366, rfl⟩ := hq1366
        have N1366 := Fr.app N1364 (Fr.nil _)
        show Go _ _ _ _ (State.setTop _ (mkF _ 121 _ []))
        refine gIload X1366 H at_121 rfl 123 rfl ?_
        refine gIconst X1366 H at_123 (z := 2) rfl 124 rfl ?_
        by_cases hc1367 : (2 : Int32) < (p3 &&& (3 : Int32))
        · refine gCmpN X1366 H at_124 (tlt hc1367).2.2.2 127 rfl ?_
          refine gAload X1366 H at_127 rfl rfl 129 rfl ?_
          refine gIload X1366 H at_129 rfl 131 rfl ?_
          refine gStatic X1366 H hZ hown (hw _ wd107) (hw _ wd108) (by decide) (hw _ wd110) (hw _ wd109) (rm689_15 B b793 _ O1364 f1364_0 f1364_1) e1366 hml rfl pd9 rfl (W := 0) (argsL := [(.ref b793), (.int 1)]) (rest := []) rfl rfl at_131 134 rfl ?_
          intro v1368 T1368 L1368 hq1368 X1368
          obtain ⟨rfl, e1368, rfl⟩ := hq1368
          have N1368 := Fr.app N1366 (Fr.nil _)
          show Go _ _ _ _ (State.setTop _ (mkF _ 134 _ []))
          have hP1369 : (p3 &&& (3 : Int32)) = (3 : Int32) := pk3 hc1367
          rw [hP1369]
          refine gIload X1368 H at_134 rfl 136 rfl ?_
          refine gIfN X1368 H at_136 (by decide) 139 rfl ?_
          refine gIload X1368 H at_139 rfl 141 rfl ?_
          refine gIload X1368 H at_141 rfl 143 rfl ?_
          refine gStatic X1368 H hZ hown (hw _ wd127) (hw _ wd128) (by decide) (hw _ wd129) (hw _ wd59) (rm1370_19 B _ O1364) e1368 hml rfl pd2 rfl (W := 0) (argsL := [(.int 3), (.int 1)]) (rest := []) rfl rfl at_143 146 rfl ?_
          intro v1371 T1371 L1371 hq1371 X1371
          obtain ⟨rfl, e1371, rfl⟩ := hq1371
          have N1371 := Fr.app N1368 (Fr.nil _)
          show Go _ _ _ _ (State.setTop _ (mkF _ 146 _ [(.int 1)]))
          refine gIstore X1371 H at_146 (Ls' := #[vJ p0, .second, vI p1, vI p2, vI p3, vI 1, vR b709, vR b793, vI 3, vI 1, .unset, .unset, vI 1, .unset, .unset, .unset]) rfl 148 rfl ?_
          refine gIload X1371 H at_148 rfl 150 rfl ?_
          refine gIload X1371 H at_150 rfl 152 rfl ?_
          refine g_isub X1371 H at_152 (z := 0) (by decide) 153 rfl ?_
          refine gIstore X1371 H at_153 (Ls' := #[vJ p0, .second, vI p1, vI p2, vI p3, vI 0, vR b709, vR b793, vI 3, vI 1, .unset, .unset, vI 1, .unset, .unset, .unset]) rfl 155 rfl ?_
          refine gIload X1371 H at_155 rfl 157 rfl ?_
          refine g_i2l X1371 H at_157 (z := 1) (by decide) 158 rfl ?_
          refine gLstore X1371 H at_158 (Ls' := #[vJ p0, .second, vI p1, vI p2, vI p3, vI 0, vR b709, vR b793, vI 3, vI 1, vJ 1, .second, vI 1, .unset, .unset, .unset]) rfl 160 rfl ?_
          refine gGoto X1371 H at_160 (by decide) 176 rfl ?_
          exact tail698_176 B p0 p1 p2 p3 b709 b793 ((3 : Int32)) ((1 : Int32)) ((1 : Int64)) ((1 : Int32)) X1371 H hml hZ hown hnm hret hlk N1371 (by decide) (by decide) e1371 O1364 f1364_0 f1364_1 f1364_5
        · refine gCmpY X1366 H at_124 (flt hc1367).2.2.2 (by decide) 134 rfl ?_
          have hP1372 : (p3 &&& (3 : Int32)) = (2 : Int32) := pk2 hc1365 hc1367
          rw [hP1372]
          refine gIload X1366 H at_134 rfl 136 rfl ?_
          refine gIfN X1366 H at_136 (by decide) 139 rfl ?_
          refine gIload X1366 H at_139 rfl 141 rfl ?_
          refine gIload X1366 H at_141 rfl 143 rfl ?_
          refine gStatic X1366 H hZ hown (hw _ wd127) (hw _ wd128) (by decide) (hw _ wd129) (hw _ wd59) (rm1373_19 B _ O1364) e1366 hml rfl pd2 rfl (W := 0) (argsL := [(.int 2), (.int 1)]) (rest := []) rfl rfl at_143 146 rfl ?_
          intro v1374 T1374 L1374 hq1374 X1374
          obtain ⟨rfl, e1374, rfl⟩ := hq1374
          have N1374 := Fr.app N1366 (Fr.nil _)
          show Go _ _ _ _ (State.setTop _ (mkF _ 146 _ [(.int 1)]))
          refine gIstore X1374 H at_146 (Ls' := #[vJ p0, .second, vI p1, vI p2, vI p3, vI 1, vR b709, vR b793, vI 2, vI 1, .unset, .unset, vI 1, .unset, .unset, .unset]) rfl 148 rfl ?_
          refine gIload X1374 H at_148 rfl 150 rfl ?_
          refine gIload X1374 H at_150 rfl 152 rfl ?_
          refine g_isub X1374 H at_152 (z := 0) (by decide) 153 rfl ?_
          refine gIstore X1374 H at_153 (Ls' := #[vJ p0, .second, vI p1, vI p2, vI p3, vI 0, vR b709, vR b793, vI 2, vI 1, .unset, .unset, vI 1, .unset, .unset, .unset]) rfl 155 rfl ?_
          refine gIload X1374 H at_155 rfl 157 rfl ?_
          refine g_i2l X1374 H at_157 (z := 1) (by decide) 158 rfl ?_
          refine gLstore X1374 H at_158 (Ls' := #[vJ p0, .second, vI p1, vI p2, vI p3, vI 0, vR b709, vR b793, vI 2, vI 1, vJ 1, .second, vI 1, .unset, .unset, .unset]) rfl 160 rfl ?_
          refine gGoto X1374 H at_160 (by decide) 176 rfl ?_
          exact tail698_176 B p0 p1 p2 p3 b709 b793 ((2 : Int32)) ((1 : Int32)) ((1 : Int64)) ((1 : Int32)) X1374 H hml hZ hown hnm hret hlk N1374 (by decide) (by decide) e1374 O1364 f1364_0 f1364_1 f1364_5
      · refine gCmpY X1364 H at_111 (flt hc1365).2.2.2 (by decide) 121 rfl ?_
        refine gIload X1364 H at_121 rfl 123 rfl ?_
        refine gIconst X1364 H at_123 (z := 2) rfl 124 rfl ?_
        refine gCmpY X1364 H at_124 (flt (fun q => hc1365 (Int32.lt_trans (by decide) q))).2.2.2 (by decide) 134 rfl ?_
        have hP1375 : (p3 &&& (3 : Int32)) = (1 : Int32) := pk1 hc1300 hc1365
        rw [hP1375]
        refine gIload X1364 H at_134 rfl 136 rfl ?_
        refine gIfN X1364 H at_136 (by decide) 139 rfl ?_
        refine gIload X1364 H at_139 rfl 141 rfl ?_
        refine gIload X1364 H at_141 rfl 143 rfl ?_
        refine gStatic X1364 H hZ hown (hw _ wd127) (hw _ wd128) (by decide) (hw _ wd129) (hw _ wd59) (rm1376_19 B _ O1364) rfl hml rfl pd2 rfl (W := 0) (argsL := [(.int 1), (.int 1)]) (rest := []) rfl rfl at_143 146 rfl ?_
        intro v1377 T1377 L1377 hq1377 X1377
        obtain ⟨rfl, e1377, rfl⟩ := hq1377
        have N1377 := Fr.app N1364 (Fr.nil _)
        show Go _ _ _ _ (State.setTop _ (mkF _ 146 _ [(.int 1)]))
        refine gIstore X1377 H at_146 (Ls' := #[vJ p0, .second, vI p1, vI p2, vI p3, vI 1, vR b709, vR b793, vI 1, vI 1, .unset, .unset, vI 1, .unset, .unset, .unset]) rfl 148 rfl ?_
        refine gIload X1377 H at_148 rfl 150 rfl ?_
        refine gIload X1377 H at_150 rfl 152 rfl ?_
        refine g_isub X1377 H at_152 (z := 0) (by decide) 153 rfl ?_
        refine gIstore X1377 H at_153 (Ls' := #[vJ p0, .second, vI p1, vI p2, vI p3, vI 0, vR b709, vR b793, vI 1, vI 1, .unset, .unset, vI 1, .unset, .unset, .unset]) rfl 155 rfl ?_
        refine gIload X1377 H at_155 rfl 157 rfl ?_
        refine g_i2l X1377 H at_157 (z := 1) (by decide) 158 rfl ?_
        refine gLstore X1377 H at_158 (Ls' := #[vJ p0, .second, vI p1, vI p2, vI p3, vI 0, vR b709, vR b793, vI 1, vI 1, vJ 1, .second, vI 1, .unset, .unset, .unset]) rfl 160 rfl ?_
        refine gGoto X1377 H at_160 (by decide) 176 rfl ?_
        exact tail698_176 B p0 p1 p2 p3 b709 b793 ((1 : Int32)) ((1 : Int32)) ((1 : Int64)) ((1 : Int32)) X1377 H hml hZ hown hnm hret hlk N1377 (by decide) (by decide) e1377 O1364 f1364_0 f1364_1 f1364_5
    · refine gIfY X873 H at_98 ((if0 _ _).trans (flt hc1300).2.2.2) (by decide) 108 rfl ?_
      refine gIload X873 H at_108 rfl 110 rfl ?_
      refine gIconst X873 H at_110 (z := 1) rfl 111 rfl ?_
      refine gCmpY X873 H at_111 (flt (fun q => hc1300 (Int32.lt_trans (by decide) q))).2.2.2 (by decide) 121 rfl ?_
      refine gIload X873 H at_121 rfl 123 rfl ?_
      refine gIconst X873 H at_123 (z := 2) rfl 124 rfl ?_
      refine gCmpY X873 H at_124 (flt (fun q => hc1300 (Int32.lt_trans (by decide) q))).2.2.2 (by decide) 134 rfl ?_
      have hP1378 : (p3 &&& (3 : Int32)) = (0 : Int32) := pk0 hc1300
      rw [hP1378]
      refine gIload X873 H at_134 rfl 136 rfl ?_
      refine gIfN X873 H at_136 (by decide) 139 rfl ?_
      refine gIload X873 H at_139 rfl 141 rfl ?_
      refine gIload X873 H at_141 rfl 143 rfl ?_
      refine gStatic X873 H hZ hown (hw _ wd127) (hw _ wd128) (by decide) (hw _ wd129) (hw _ wd59) (rm1379_19 B _ O873) rfl hml rfl pd2 rfl (W := 0) (argsL := [(.int 0), (.int 1)]) (rest := []) rfl rfl at_143 146 rfl ?_
      intro v1380 T1380 L1380 hq1380 X1380
      obtain ⟨rfl, e1380, rfl⟩ := hq1380
      have N1380 := Fr.app N873 (Fr.nil _)
      show Go _ _ _ _ (State.setTop _ (mkF _ 146 _ [(.int 0)]))
      refine gIstore X1380 H at_146 (Ls' := #[vJ p0, .second, vI p1, vI p2, vI p3, vI 1, vR b709, vR b793, vI 0, vI 1, .unset, .unset, vI 0, .unset, .unset, .unset]) rfl 148 rfl ?_
      refine gIload X1380 H at_148 rfl 150 rfl ?_
      refine gIload X1380 H at_150 rfl 152 rfl ?_
      refine g_isub X1380 H at_152 (z := 1) (by decide) 153 rfl ?_
      refine gIstore X1380 H at_153 (Ls' := #[vJ p0, .second, vI p1, vI p2, vI p3, vI 1, vR b709, vR b793, vI 0, vI 1, .unset, .unset, vI 0, .unset, .unset, .unset]) rfl 155 rfl ?_
      refine gIload X1380 H at_155 rfl 157 rfl ?_
      refine g_i2l X1380 H at_157 (z := 0) (by decide) 158 rfl ?_
      refine gLstore X1380 H at_158 (Ls' := #[vJ p0, .second, vI p1, vI p2, vI p3, vI 1, vR b709, vR b793, vI 0, vI 1, vJ 0, .second, vI 0, .unset, .unset, .unset]) rfl 160 rfl ?_
      refine gGoto X1380 H at_160 (by decide) 176 rfl ?_
      exact tail1381_176 B p0 p1 p2 p3 b709 b793 ((0 : Int32)) ((1 : Int32)) ((0 : Int64)) ((0 : Int32)) X1380 H hml hZ hown hnm hret hlk N1380 (by decide) (by decide) e1380 O873 f873_0 f873_4 f873_5
theorem rm1395_5 (B : Bg Z a0 wE0 w_cacheI k_wE0 cl_cacheI) (h : Heap) (O : Ext Z.heap h) :
    Con l Z yM5 jdk_33_method_22_code 1 (some (.object "java/lang/Integer")) ({ frames := 0, cells := 0, slots := 0, locals := 0 } : Room) #[(.int 11)] h (fun v h' L => ∃ (b1394 : Addr), v = some (.ref b1394) ∧ Fr Z.heap.size L ∧ Keep h h' [] ∧ Exa Z h' b1394 cs4) := by
  have hw := B.1
  obtain ⟨S_wE0, V_wE0, S_high, S_cacheI, B_cacheI⟩ := B.2
  refine Con.of (plainFor_of_name pn5) (Ls := #[vI 11]) (fun _ => rfl) ?_
  intro p e s m below meth c T0 X0 H hml hZ hown hnm hret hlk e0
  have N0 := Fr.nil Z.heap.size
  refine gIloadN X0 H d5_0 rfl 1 rfl ?_
  refine gBipush X0 H d5_1 (z := (-128)) rfl 3 rfl ?_
  refine gCmpN X0 H d5_3 (by decide) 6 rfl ?_
  refine gIloadN X0 H d5_6 rfl 7 rfl ?_
  refine gGetS X0 H hZ hown (hw _ wd30) e0 (S_high.ext O) d5_7 10 rfl ?_
  intro T1392 X1392 e1392
  refine gCmpN X1392 H d5_10 (by decide) 13 rfl ?_
  refine gGetS X1392 H hZ hown (hw _ wd32) e1392 (S_cacheI.ext O) d5_13 16 rfl ?_
  intro T1393 X1393 e1393
  refine gIloadN X1393 H d5_16 rfl 17 rfl ?_
  refine gSipush X1393 H d5_17 (z := 128) rfl 20 rfl ?_
  refine g_iadd X1393 H d5_20 (z := 139) (by decide) 21 rfl ?_
  obtain ⟨b1394, q1394, A1394, f1394⟩ := B_cacheI.2.2.2 (139 : Int32) (inb_of B_cacheI.2.1 ⟨by decide, by decide⟩)
  refine gBoxload X1393 H hZ e1393 rfl (B_cacheI.1.ext O) (inb_of B_cacheI.2.1 ⟨by decide, by decide⟩) q1394 d5_21 22 rfl ?_
  exact gRetA X1393 H hlk hret rfl rfl rfl d5_22 e1393 ⟨b1394, rfl, N0, (Keep.refl h []), (A1394.ext O)⟩
theorem rm1433_7 (B : Bg Z a0 wE0 w_cacheI k_wE0 cl_cacheI) (ro0 ro1 ro2 : Addr) (ck3 : ClassId) (ro4 : Addr) (h : Heap) (O : Ext Z.heap h) (q1411 : Arl Z h ro2 (10 : Int32)) (q1413 : Arv Z h ro2 ck3 (.object "java/lang/Object") (10 : Int32) [(.ref ro4), .null, .null, .null, .null, .null, .null, .null, .null, .null] .null) (q1414 : Exa Z h ro1 cs4) (q1415 : Ovr Z ck3 "java/lang/Object") (q1416 : Z.heap.size ≤ ro2) (q1418 : Exa Z h ro0 cs1) (q1420 : Fld Z h ro0 cs1 "size" "I" (.int 1)) (q1422 : ro0 ≠ ro2) (q1424 : Z.heap.size ≤ ro0) (q1427 : Fld Z h ro0 cs0 "modCount" "I" (.int 2)) (q1429 : Fld Z h ro0 cs1 "elementData" cs2 (.ref ro2)) :
    Con l Z yM7 jdk_38_method_24_code 4 none ({ frames := 0, cells := 0, slots := 0, locals := 0 } : Room) #[(.ref ro0), (.ref ro1), (.ref ro2), (.int 1)] h (fun v h' L => v = none ∧ Fr Z.heap.size L ∧ Keep h h' [ro2, ro0] ∧ Arv Z h' ro2 ck3 (.object "java/lang/Object") (10 : Int32) [(.ref ro4), (.ref ro1), .null, .null, .null, .null, .null, .null, .null, .null] .null ∧ Exa Z h' ro0 cs1 ∧ Fld Z h' ro0 cs1 "size" "I" (.int 2) ∧ Fld Z h' ro0 cs0 "modCount" "I" (.int 2) ∧ Fld Z h' ro0 cs1 "elementData" cs2 (.ref ro2)) := by
  have hw := B.1
  refine Con.of (plainFor_of_name pn7) (Ls := #[vR ro0, vR ro1, vR ro2, vI 1]) (fun _ => rfl) ?_
  intro p e s m below meth c T0 X0 H hml hZ hown hnm hret hlk e0
  have N0 := Fr.nil Z.heap.size
  refine gIloadN X0 H d7_0 rfl 1 rfl ?_
  refine gAloadN X0 H d7_1 rfl rfl 2 rfl ?_
  refine gLen X0 H hZ e0 q1411 d7_2 3 rfl ?_
  refine gCmpY X0 H d7_3 (by decide) (by decide) 11 rfl ?_
  refine gAloadN X0 H d7_11 rfl rfl 12 rfl ?_
  refine gIloadN X0 H d7_12 rfl 13 rfl ?_
  refine gAloadN X0 H d7_13 rfl rfl 14 rfl ?_
  refine gAastore X0 H hZ e0 rfl (stoV q1413 q1415 (Ins.of_exa q1414 (hw _ wd63))) q1413 ⟨by decide, by decide⟩ (i := 1) rfl (Nat.le_of_ble_eq_true rfl) (vs' := [(.ref ro4), (.ref ro1), .null, .null, .null, .null, .null, .null, .null, .null]) rfl d7_14 15 rfl ?_
  intro T1412 h1412 X1412 e1412 W1412 V1412
  have O1412 := extW O W1412 q1416
  have N1412 := Fr.snoc X1412 N0 q1416
  refine gAloadN X1412 H d7_15 rfl rfl 16 rfl ?_
  refine gIloadN X1412 H d7_16 rfl 17 rfl ?_
  refine gIconst X1412 H d7_17 (z := 1) rfl 18 rfl ?_
  refine g_iadd X1412 H d7_18 (z := 2) (by decide) 19 rfl ?_
  have c1419 := (q1418.wr W1412)
  have c1423 := (q1420.other W1412 (Or.inl q1422))
  refine gPutF X1412 H hZ hown (hw _ wd40) Via.refl e1412 c1423 c1419 (Or.inl (hw _ wd41)) (hw _ wd1) (ty := .int) (by decide) (v' := (.int 2)) rfl rfl d7_19 22 rfl ?_
  intro T1417 h1417 X1417 e1417 W1417 F1417
  have O1417 := extW O1412 W1417 q1424
  have N1417 := Fr.snoc X1417 N1412 q1424
  have c1425 := (V1412.other W1417 (Ne.symm q1422))
  have c1426 := (c1419.wr W1417)
  have c1428 := ((q1427.other W1412 (Or.inl q1422)).other W1417 (Or.inr (sn25 hw)))
  have c1430 := ((q1429.other W1412 (Or.inl q1422)).other W1417 (Or.inr (sn24 hw)))
  have K_1431 := (Keep.refl h [ro2, ro0]).wr W1412 (Or.inl (List.mem_of_getElem? (i := 0) rfl))
  have K_1432 := K_1431.wr W1417 (Or.inl (List.mem_of_getElem? (i := 1) rfl))
  exact gRetV X1417 H hlk hret d7_22 e1417 ⟨rfl, N1417, K_1432, c1425, c1426, F1417, c1428, c1430⟩
theorem rm1445_6 (B : Bg Z a0 wE0 w_cacheI k_wE0 cl_cacheI) (ro0 ro1 ro2 : Addr) (ck3 : ClassId) (ro4 : Addr) (h : Heap) (O : Ext Z.heap h) (q1398 : Fld Z h ro0 cs0 "modCount" "I" (.int 1)) (q1401 : Exa Z h ro0 cs1) (q1402 : Z.heap.size ≤ ro0) (q1403 : Fld Z h ro0 cs1 "elementData" cs2 (.ref ro2)) (q1406 : Fld Z h ro0 cs1 "size" "I" (.int 1)) (q1421 : ro0 ≠ ro2) (q1434 : Arl Z h ro2 (10 : Int32)) (q1436 : Arv Z h ro2 ck3 (.object "java/lang/Object") (10 : Int32) [(.ref ro4), .null, .null, .null, .null, .null, .null, .null, .null, .null] .null) (q1438 : Exa Z h ro1 cs4) (q1440 : Ovr Z ck3 "java/lang/Object") (q1441 : Z.heap.size ≤ ro2) :
    Con l Z yM6 jdk_38_method_25_code 2 (some .boolean) ({ frames := 1, cells := 0, slots := 0, locals := 15 } : Room) #[(.ref ro0), (.ref ro1)] h (fun v h' L => v = some (.int 1) ∧ Fr Z.heap.size L ∧ Keep h h' [ro0, ro2] ∧ Fld Z h' ro0 cs0 "modCount" "I" (.int 2) ∧ Exa Z h' ro0 cs1 ∧ Fld Z h' ro0 cs1 "elementData" cs2 (.ref ro2) ∧ Fld Z h' ro0 cs1 "size" "I" (.int 2) ∧ Arv Z h' ro2 ck3 (.object "java/lang/Object") (10 : Int32) [(.ref ro4), (.ref ro1), .null, .null, .null, .null, .null, .null, .null, .null] .null) := by
  have hw := B.1
  refine Con.of (plainFor_of_name pn6) (Ls := #[vR ro0, vR ro1]) (fun _ => rfl) ?_
  intro p e s m below meth c T0 X0 H hml hZ hown hnm hret hlk e0
  have N0 := Fr.nil Z.heap.size
  refine gAloadN X0 H d6_0 rfl rfl 1 rfl ?_
  refine gDup X0 H d6_1 rfl 2 rfl ?_
  refine gGetF X0 H hZ hown (hw _ wd38) (Via.of (hw _ wd39)) e0 q1398 d6_2 5 rfl ?_
  intro T1399 X1399 e1399
  refine gIconst X1399 H d6_5 (z := 1) rfl 6 rfl ?_
  refine g_iadd X1399 H d6_6 (z := 2) (by decide) 7 rfl ?_
  refine gPutF X1399 H hZ hown (hw _ wd38) (Via.of (hw _ wd39)) e1399 q1398 q1401 (Or.inl (hw _ wd22)) (hw _ wd1) (ty := .int) (by decide) (v' := (.int 2)) rfl rfl d6_7 10 rfl ?_
  intro T1400 h1400 X1400 e1400 W1400 F1400
  have O1400 := extW O W1400 q1402
  have N1400 := Fr.snoc X1400 N0 q1402
  refine gAloadN X1400 H d6_10 rfl rfl 11 rfl ?_
  refine gAloadN X1400 H d6_11 rfl rfl 12 rfl ?_
  refine gAloadN X1400 H d6_12 rfl rfl 13 rfl ?_
  have c1404 := (q1403.other W1400 (Or.inr (sn0 hw)))
  refine gGetF X1400 H hZ hown (hw _ wd24) Via.refl e1400 c1404 d6_13 16 rfl ?_
  intro T1405 X1405 e1405
  refine gAloadN X1405 H d6_16 rfl rfl 17 rfl ?_
  have c1407 := (q1406.other W1400 (Or.inr (sn1 hw)))
  refine gGetF X1405 H hZ hown (hw _ wd40) Via.refl e1405 c1407 d6_17 20 rfl ?_
  intro T1408 X1408 e1408
  have c1409 := (q1401.wr W1400)
  have c1435 := (q1434.other W1400 (Ne.symm q1421))
  have c1437 := (q1436.other W1400 (Ne.symm q1421))
  have c1439 := (q1438.wr W1400)
  refine gPrivate X1408 H hZ hown (hw _ wd42) (hw _ wd43) (hw _ wd44) (hw _ wd1) (by decide) c1409 (hw _ wd46) (hw _ wd2) (rm1433_7 B ro0 ro1 ro2 ck3 ro4 _ O1400 c1435 c1437 c1439 q1440 q1441 c1409 c1407 q1421 q1402 F1400 c1404) e1408 hml rfl pd16 rfl (W := 0) (argsL := [(.ref ro1), (.ref ro2), (.int 1)]) (rest := []) rfl rfl d6_20 23 rfl ?_
  intro v1442 T1442 L1442 hq1442 X1442
  obtain ⟨rfl, N1442q, K1442, f1442_0, f1442_1, f1442_2, f1442_3, f1442_4⟩ := hq1442
  have O1442 := extK O1400 K1442 (allS q1441 (allS q1402 all0))
  have N1442 := Fr.app N1400 N1442q
  show Go _ _ _ _ (State.setTop _ (mkF _ 23 _ []))
  refine gIconst X1442 H d6_23 (z := 1) rfl 24 rfl ?_
  have K_1443 := (Keep.refl h [ro0, ro2]).wr W1400 (Or.inl (List.mem_of_getElem? (i := 0) rfl))
  have K_1444 := K_1443.trans K1442 (allS (Or.inl (List.mem_of_getElem? (i := 1) rfl)) (allS (Or.inl (List.mem_of_getElem? (i := 0) rfl)) all0))
  exact gRetN X1442 H hlk hret (t := .boolean) (by simp) d6_24 rfl ⟨rfl, N1442, K_1444, f1442_3, f1442_1, f1442_4, f1442_2, f1442_0⟩
theorem rm1464_12 (B : Bg Z a0 wE0 w_cacheI k_wE0 cl_cacheI) (ro0 : Addr) (h : Heap) (O : Ext Z.heap h) (q1462 : Fld Z h ro0 cs1 "size" "I" (.int 2)) :
    Con l Z yM12 jdk_38_method_8_code 1 (some .int) ({ frames := 0, cells := 0, slots := 0, locals := 0 } : Room) #[(.ref ro0)] h (fun v h' L => v = some (.int 2) ∧ h' = h ∧ L = []) := by
  have hw := B.1
  refine Con.of (plainFor_of_name pn12) (Ls := #[vR ro0]) (fun _ => rfl) ?_
  intro p e s m below meth c T0 X0 H hml hZ hown hnm hret hlk e0
  refine gAloadN X0 H d12_0 rfl rfl 1 rfl ?_
  refine gGetF X0 H hZ hown (hw _ wd40) Via.refl e0 q1462 d12_1 4 rfl ?_
  intro T1463 X1463 e1463
  exact gRetI X1463 H hlk hret d12_4 e1463 ⟨rfl, rfl, rfl⟩
theorem rm1469_10 (B : Bg Z a0 wE0 w_cacheI k_wE0 cl_cacheI) (h : Heap) (O : Ext Z.heap h) :
    Con l Z yM10 jdk_29_method_65_code 2 (some .int) ({ frames := 0, cells := 0, slots := 0, locals := 0 } : Room) #[(.int 2), (.int 1)] h (fun v h' L => v = some (.int 2) ∧ h' = h ∧ L = []) := by
  refine Con.of (Jvm.Free.JP.mathPlain rfl (by decide +kernel)) (Ls := #[vI 2, vI 1]) (fun _ => rfl) ?_
  intro p e s m below meth c T0 X0 H hml hZ hown hnm hret hlk e0
  refine gIloadN X0 H d10_0 rfl 1 rfl ?_
  refine gIloadN X0 H d10_1 rfl 2 rfl ?_
  refine gCmpN X0 H d10_2 (by decide) 5 rfl ?_
  refine gIloadN X0 H d10_5 rfl 6 rfl ?_
  refine gGoto X0 H d10_6 (by decide) 10 rfl ?_
  exact gRetI X0 H hlk hret d10_10 e0 ⟨rfl, rfl, rfl⟩
theorem rm1493_13 (B : Bg Z a0 wE0 w_cacheI k_wE0 cl_cacheI) (ro0 ro1 ro2 : Addr) (ck3 : ClassId) (ro4 ro5 : Addr) (ck6 : ClassId) (h : Heap) (O : Ext Z.heap h) (q1475 : Arl Z h ro1 (2 : Int32)) (q1476 : Fld Z h ro0 cs1 "size" "I" (.int 2)) (q1478 : Fld Z h ro0 cs1 "elementData" cs2 (.ref ro2)) (q1481 : Arv Z h ro2 ck3 (.object "java/lang/Object") (10 : Int32) [(.ref ro4), (.ref ro5), .null, .null, .null, .null, .null, .null, .null, .null] .null) (q1482 : Arv Z h ro1 ck6 (.object "java/lang/Object") (2 : Int32) [.null, .null] .null) (q1484 : Exa Z h ro5 cs4) (q1485 : Ovr Z ck6 "java/lang/Object") (q1486 : Exa Z h ro4 cs4) (q1487 : Z.heap.size ≤ ro1) (q1489 : ro0 ≠ ro1) :
    Con l Z yM13 jdk_38_method_17_code 2 (some (.array (.object "java/lang/Object"))) ({ frames := 1, cells := 0, slots := 0, locals := 18 } : Room) #[(.ref ro0), (.ref ro1)] h (fun v h' L => v = some (.ref ro1) ∧ Fr Z.heap.size L ∧ Keep h h' [ro1] ∧ Arv Z h' ro1 ck6 (.object "java/lang/Object") (2 : Int32) [(.ref ro4), (.ref ro5)] .null) := by
  have hw := B.1
  refine Con.of (plainFor_of_name pn13) (Ls := #[vR ro0, vR ro1]) (fun _ => rfl) ?_
  intro p e s m below meth c T0 X0 H hml hZ hown hnm hret hlk e0
  have N0 := Fr.nil Z.heap.size
  refine gAloadN X0 H d13_0 rfl rfl 1 rfl ?_
  refine gLen X0 H hZ e0 q1475 d13_1 2 rfl ?_
  refine gAloadN X0 H d13_2 rfl rfl 3 rfl ?_
  refine gGetF X0 H hZ hown (hw _ wd40) Via.refl e0 q1476 d13_3 6 rfl ?_
  intro T1477 X1477 e1477
  refine gCmpY X1477 H d13_6 (by decide) (by decide) 25 rfl ?_
  refine gAloadN X1477 H d13_25 rfl rfl 26 rfl ?_
  refine gGetF X1477 H hZ hown (hw _ wd24) Via.refl e1477 q1478 d13_26 29 rfl ?_
  intro T1479 X1479 e1479
  refine gIconst X1479 H d13_29 (z := 0) rfl 30 rfl ?_
  refine gAloadN X1479 H d13_30 rfl rfl 31 rfl ?_
  refine gIconst X1479 H d13_31 (z := 0) rfl 32 rfl ?_
  refine gAloadN X1479 H d13_32 rfl rfl 33 rfl ?_
  refine gGetF X1479 H hZ hown (hw _ wd40) Via.refl e1479 q1476 d13_33 36 rfl ?_
  intro T1480 X1480 e1480
  refine gCopy X1480 H hZ hown (hw _ wd92) (hw _ wd95) (hw _ wd93) (hw _ wd94) e1480 q1481 q1482 (us := [(.ref ro4), (.ref ro5)]) (Or.inr ⟨rfl, rfl, ⟨(stoV q1482 q1485 (Ins.of_exa q1486 (hw _ wd63))), ⟨(stoV q1482 q1485 (Ins.of_exa q1484 (hw _ wd63))), trivial⟩⟩⟩) (by decide) (by decide) (by decide) (by decide) (by decide) rfl (Nat.le_of_ble_eq_true rfl) N0 q1487 hml rfl (V := 0) (by decide) (Nat.le_of_eq rfl) (by decide) (vd' := [(.ref ro4), (.ref ro5)]) rfl d13_36 39 rfl ?_
  intro T1483 h1483 L1483 X1483 e1483 N1483c K1483 V1483
  have O1483 := extK O K1483 (allS q1487 all0)
  refine gAloadN X1483 H d13_39 rfl rfl 40 rfl ?_
  refine gLen X1483 H hZ e1483 (Arv.arl V1483) d13_40 41 rfl ?_
  refine gAloadN X1483 H d13_41 rfl rfl 42 rfl ?_
  have c1490 := (q1476.keep K1483 (ninS q1489 nin0))
  refine gGetF X1483 H hZ hown (hw _ wd40) Via.refl e1483 c1490 d13_42 45 rfl ?_
  intro T1491 X1491 e1491
  refine gCmpY X1491 H d13_45 (by decide) (by decide) 55 rfl ?_
  refine gAloadN X1491 H d13_55 rfl rfl 56 rfl ?_
  have K_1492 := (Keep.refl h [ro1]).trans K1483 (allS (Or.inl (List.mem_of_getElem? (i := 0) rfl)) all0)
  exact gRetA X1491 H hlk hret rfl rfl rfl d13_56 e1491 ⟨rfl, N1483c, K_1492, V1483⟩
theorem rm1529_11 (B : Bg Z a0 wE0 w_cacheI k_wE0 cl_cacheI) (ro0 ro1 ro2 : Addr) (ck3 : ClassId) (ro4 ro5 : Addr) (h : Heap) (O : Ext Z.heap h) (q1457 : Exa Z h ro0 cs3) (q1458 : Fld Z h ro0 cs3 "serial" "I" (.int 0)) (q1459 : Z.heap.size ≤ ro0) (q1460 : Exa Z h ro1 cs1) (q1465 : Fld Z h ro1 cs1 "size" "I" (.int 2)) (q1466 : ro1 ≠ ro0) (q1495 : Fld Z h ro1 cs1 "elementData" cs2 (.ref ro2)) (q1497 : Arv Z h ro2 ck3 (.object "java/lang/Object") (10 : Int32) [(.ref ro4), (.ref ro5), .null, .null, .null, .null, .null, .null, .null, .null] .null) (q1498 : ro2 ≠ ro0) (q1500 : Exa Z h ro5 cs4) (q1502 : Exa Z h ro4 cs4) (q1507 : Fld Z h ro0 cs3 "buffer" cs2 .null) (q1514 : Fld Z h ro0 cs3 "size" "I" (.int 0)) (q1519 : Fld Z h ro0 cs3 "firstNumber" "J" (.long 0)) (q1521 : Fld Z h ro0 cs3 "head" "I" (.int 0)) :
    Con l Z yM11 prog_50_method_1_code 3 none ({ frames := 2, cells := 1, slots := 2, locals := 32 } : Room) #[(.ref ro0), (.int 1), (.ref ro1)] h (fun v h' L => ∃ (b1471 : Addr) (k1471 : ClassId), v = none ∧ Fr Z.heap.size L ∧ Keep h h' [ro0] ∧ h.size ≤ b1471 ∧ Exa Z h' ro0 cs3 ∧ Fld Z h' ro0 cs3 "serial" "I" (.int 1) ∧ Arv Z h' b1471 k1471 (.object "java/lang/Object") (2 : Int32) [(.ref ro4), (.ref ro5)] .null ∧ Fld Z h' ro0 cs3 "buffer" cs2 (.ref b1471) ∧ Fld Z h' ro0 cs3 "size" "I" (.int 2) ∧ Fld Z h' ro0 cs3 "firstNumber" "J" (.long 0) ∧ Fld Z h' ro0 cs3 "head" "I" (.int 0) ∧ Ovr Z k1471 "java/lang/Object") := by
  have hw := B.1
  refine Con.of (plainFor_of_name pn11) (Ls := #[vR ro0, vI 1, vR ro1]) (fun _ => rfl) ?_
  intro p e s m below meth c T0 X0 H hml hZ hown hnm hret hlk e0
  have M0 := Nat.le_refl h.size
  have N0 := Fr.nil Z.heap.size
  refine gAloadN X0 H d11_0 rfl rfl 1 rfl ?_
  refine gInitO X0 H hZ hown (hw _ wd70) (hw _ wd19) (hw _ wd20) e0 hml rfl (V := 0) (Nat.le_of_eq rfl) (by decide) (by decide) d11_1 4 rfl ?_
  intro T1455 X1455 e1455
  refine gAloadN X1455 H d11_4 rfl rfl 5 rfl ?_
  refine gIloadN X1455 H d11_5 rfl 6 rfl ?_
  refine gPutF X1455 H hZ hown (hw _ wd71) Via.refl e1455 q1458 q1457 (Or.inr ⟨(hw _ wd72), rfl, hnm⟩) (hw _ wd65) (ty := .int) (by decide) (v' := (.int 1)) rfl rfl d11_6 9 rfl ?_
  intro T1456 h1456 X1456 e1456 W1456 F1456
  have O1456 := extW O W1456 q1459
  have N1456 := Fr.snoc X1456 N0 q1459
  refine gAloadN X1456 H d11_9 rfl rfl 10 rfl ?_
  refine gAloadN X1456 H d11_10 rfl rfl 11 rfl ?_
  refine gAloadN X1456 H d11_11 rfl rfl 12 rfl ?_
  have c1461 := (q1460.wr W1456)
  have c1467 := (q1465.other W1456 (Or.inl q1466))
  refine gInterface X1456 H hZ hown (hw _ wd73) (hw _ wd74) (mvT hZ (hw _ wd75)) (hw _ wd76) (hw _ wd77) (hw _ wd78) (hw _ wd79) (hw _ wd80) (by decide) c1461 (hw _ wd81) (hw _ wd2) (rm1464_12 B ro1 _ O1456 c1467) e1456 hml rfl pd1 rfl (W := 2) (argsL := []) (rest := [(.ref ro1), (.ref ro0)]) rfl rfl d11_12 17 rfl ?_
  intro v1468 T1468 L1468 hq1468 X1468
  obtain ⟨rfl, e1468, rfl⟩ := hq1468
  have N1468 := Fr.app N1456 (Fr.nil _)
  show Go _ _ _ _ (State.setTop _ (mkF _ 17 _ [(.int 2), (.ref ro1), (.ref ro0)]))
  refine gIconst X1468 H d11_17 (z := 1) rfl 18 rfl ?_
  refine gStatic X1468 H hZ hown (hw _ wd82) (hw _ wd58) (by decide) (hw _ wd60) (hw _ wd59) (rm1469_10 B _ O1456) e1468 hml rfl pd2 rfl (W := 2) (argsL := [(.int 2), (.int 1)]) (rest := [(.ref ro1), (.ref ro0)]) rfl rfl d11_18 21 rfl ?_
  intro v1470 T1470 L1470 hq1470 X1470
  obtain ⟨rfl, e1470, rfl⟩ := hq1470
  have N1470 := Fr.app N1468 (Fr.nil _)
  show Go _ _ _ _ (State.setTop _ (mkF _ 21 _ [(.int 2), (.ref ro1), (.ref ro0)]))
  refine gNewR X1470 H hZ hown (hw _ wd83) (hw _ wd62) e1470 (by decide) (cap := 2) (by decide) (by decide) (vs := [.null, .null]) rfl (by decide) (by decide) d11_21 24 rfl ?_
  intro T1471 h1471 b1471 k1471 X1471 e1471 z1471 E1471 V1471 Q1471
  have M1472 := (leW M0 W1456)
  have G_b1471 := Nat.le_trans O1456.1 (Nat.le_of_eq z1471)
  have sz_b1471 := Nat.le_trans M1472 (Nat.le_of_eq z1471)
  have O1471 := extT O1456 E1471
  have c1473 := (c1461.ext E1471)
  have c1494 := (c1467.ext E1471)
  have c1496 := ((q1495.other W1456 (Or.inl q1466)).ext E1471)
  have c1499 := ((q1497.other W1456 q1498).ext E1471)
  have c1501 := ((q1500.wr W1456).ext E1471)
  have c1503 := ((q1502.wr W1456).ext E1471)
  refine gInterface X1471 H hZ hown (hw _ wd84) (hw _ wd85) (mvT hZ (hw _ wd86)) (hw _ wd87) (hw _ wd88) (hw _ wd89) (hw _ wd90) (hw _ wd80) (by decide) c1473 (hw _ wd91) (hw _ wd2) (rm1493_13 B ro1 b1471 ro2 ck3 ro4 ro5 k1471 _ O1471 (Arv.arl V1471) c1494 c1496 c1499 V1471 c1501 Q1471 c1503 G_b1471 (neB q1460.lt sz_b1471)) e1471 hml rfl pd3 rfl (W := 1) (argsL := [(.ref b1471)]) (rest := [(.ref ro0)]) rfl rfl d11_24 29 rfl ?_
  intro v1504 T1504 L1504 hq1504 X1504
  obtain ⟨rfl, N1504q, K1504, f1504_0⟩ := hq1504
  have O1504 := extK O1471 K1504 (allS G_b1471 all0)
  have N1504 := Fr.app N1470 N1504q
  show Go _ _ _ _ (State.setTop _ (mkF _ 29 _ [(.ref b1471), (.ref ro0)]))
  have c1506 := (((q1457.wr W1456).ext E1471).keep K1504)
  have c1508 := (((q1507.other W1456 (Or.inr (sn4 hw))).ext E1471).keep K1504 (ninS (neB q1457.lt sz_b1471) nin0))
  refine gPutF X1504 H hZ hown (hw _ wd96) Via.refl rfl c1508 c1506 (Or.inl (hw _ wd97)) (hw _ wd65) (ty := (.array (.object "java/lang/Object"))) (by decide) (v' := (.ref b1471)) rfl rfl d11_29 32 rfl ?_
  intro T1505 h1505 X1505 e1505 W1505 F1505
  have O1505 := extW O1504 W1505 q1459
  have N1505 := Fr.snoc X1505 N1504 q1459
  refine gAloadN X1505 H d11_32 rfl rfl 33 rfl ?_
  refine gAloadN X1505 H d11_33 rfl rfl 34 rfl ?_
  have c1509 := ((c1473.keep K1504).wr W1505)
  have c1510 := ((c1494.keep K1504 (ninS (neB q1460.lt sz_b1471) nin0)).other W1505 (Or.inl q1466))
  refine gInterface X1505 H hZ hown (hw _ wd73) (hw _ wd74) (mvT hZ (hw _ wd75)) (hw _ wd76) (hw _ wd77) (hw _ wd78) (hw _ wd79) (hw _ wd80) (by decide) c1509 (hw _ wd81) (hw _ wd2) (rm1464_12 B ro1 _ O1505 c1510) e1505 hml rfl pd1 rfl (W := 1) (argsL := []) (rest := [(.ref ro0)]) rfl rfl d11_34 39 rfl ?_
  intro v1511 T1511 L1511 hq1511 X1511
  obtain ⟨rfl, e1511, rfl⟩ := hq1511
  have N1511 := Fr.app N1505 (Fr.nil _)
  show Go _ _ _ _ (State.setTop _ (mkF _ 39 _ [(.int 2), (.ref ro0)]))
  have c1513 := (c1506.wr W1505)
  have c1515 := ((((q1514.other W1456 (Or.inr (sn5 hw))).ext E1471).keep K1504 (ninS (neB q1457.lt sz_b1471) nin0)).other W1505 (Or.inr (sn6 hw)))
  refine gPutF X1511 H hZ hown (hw _ wd98) Via.refl e1511 c1515 c1513 (Or.inl (hw _ wd99)) (hw _ wd65) (ty := .int) (by decide) (v' := (.int 2)) rfl rfl d11_39 42 rfl ?_
  intro T1512 h1512 X1512 e1512 W1512 F1512
  have O1512 := extW O1505 W1512 q1459
  have N1512 := Fr.snoc X1512 N1511 q1459
  have c1516 := (c1513.wr W1512)
  have c1517 := ((((F1456.ext E1471).keep K1504 (ninS (neB q1457.lt sz_b1471) nin0)).other W1505 (Or.inr (sn7 hw))).other W1512 (Or.inr (sn8 hw)))
  have c1518 := (F1505.other W1512 (Or.inr (sn9 hw)))
  have c1520 := (((((q1519.other W1456 (Or.inr (sn10 hw))).ext E1471).keep K1504 (ninS (neB q1457.lt sz_b1471) nin0)).other W1505 (Or.inr (sn11 hw))).other W1512 (Or.inr (sn12 hw)))
  have c1522 := (((((q1521.other W1456 (Or.inr (sn13 hw))).ext E1471).keep K1504 (ninS (neB q1457.lt sz_b1471) nin0)).other W1505 (Or.inr (sn14 hw))).other W1512 (Or.inr (sn15 hw)))
  have c1523 := ((f1504_0.other W1505 (Ne.symm (neB q1457.lt sz_b1471))).other W1512 (Ne.symm (neB q1457.lt sz_b1471)))
  have K_1524 := (Keep.refl h [ro0]).wr W1456 (Or.inl (List.mem_of_getElem? (i := 0) rfl))
  have K_1525 := K_1524.ext E1471
  have K_1526 := K_1525.trans K1504 (allS (Or.inr sz_b1471) all0)
  have K_1527 := K_1526.wr W1505 (Or.inl (List.mem_of_getElem? (i := 0) rfl))
  have K_1528 := K_1527.wr W1512 (Or.inl (List.mem_of_getElem? (i := 0) rfl))
  exact gRetV X1512 H hlk hret d11_42 e1512 ⟨b1471, k1471, rfl, N1512, K_1528, sz_b1471, c1516, c1517, c1523, c1518, F1512, c1520, c1522, Q1471⟩
theorem rm1568_18 (B : Bg Z a0 wE0 w_cacheI k_wE0 cl_cacheI) (ro0 ro1 : Addr) (h : Heap) (O : Ext Z.heap h) (q1562 : Fld Z h ro0 cs3 "head" "I" (.int 0)) (q1564 : Fld Z h ro0 cs3 "buffer" cs2 (.ref ro1)) (q1567 : Arl Z h ro1 (2 : Int32)) :
    Con l Z yM18 prog_50_method_12_code 3 (some .int) ({ frames := 0, cells := 0, slots := 0, locals := 0 } : Room) #[(.ref ro0), (.int 0)] h (fun v h' L => v = some (.int 0) ∧ h' = h ∧ L = []) := by
  have hw := B.1
  refine Con.of (plainFor_of_name pn18) (Ls := #[vR ro0, vI 0, .unset]) (fun _ => rfl) ?_
  intro p e s m below meth c T0 X0 H hml hZ hown hnm hret hlk e0
  refine gAloadN X0 H d18_0 rfl rfl 1 rfl ?_
  refine gGetF X0 H hZ hown (hw _ wd125) Via.refl e0 q1562 d18_1 4 rfl ?_
  intro T1563 X1563 e1563
  refine gIloadN X1563 H d18_4 rfl 5 rfl ?_
  refine g_iadd X1563 H d18_5 (z := 0) (by decide) 6 rfl ?_
  refine gIstoreN X1563 H d18_6 (Ls' := #[vR ro0, vI 0, vI 0]) rfl 7 rfl ?_
  refine gIloadN X1563 H d18_7 rfl 8 rfl ?_
  refine gAloadN X1563 H d18_8 rfl rfl 9 rfl ?_
  refine gGetF X1563 H hZ hown (hw _ wd96) Via.refl e1563 q1564 d18_9 12 rfl ?_
  intro T1565 X1565 e1565
  refine gLen X1565 H hZ e1565 q1567 d18_12 13 rfl ?_
  refine gCmpN X1565 H d18_13 (by decide) 16 rfl ?_
  refine gIloadN X1565 H d18_16 rfl 17 rfl ?_
  refine gGoto X1565 H d18_17 (by decide) 27 rfl ?_
  exact gRetI X1565 H hlk hret d18_27 e1565 ⟨rfl, rfl, rfl⟩
theorem rm1574_17 (B : Bg Z a0 wE0 w_cacheI k_wE0 cl_cacheI) (ro0 ro1 : Addr) (ck2 : ClassId) (ro3 ro4 : Addr) (h : Heap) (O : Ext Z.heap h) (q1559 : Fld Z h ro0 cs3 "buffer" cs2 (.ref ro1)) (q1561 : Exa Z h ro0 cs3) (q1569 : Fld Z h ro0 cs3 "head" "I" (.int 0)) (q1570 : Arl Z h ro1 (2 : Int32)) (q1573 : Arv Z h ro1 ck2 (.object "java/lang/Object") (2 : Int32) [(.ref ro3), (.ref ro4)] .null) :
    Con l Z yM17 prog_50_method_4_code 2 (some (.object "java/lang/Object")) ({ frames := 1, cells := 0, slots := 0, locals := 15 } : Room) #[(.ref ro0), (.int 0)] h (fun v h' L => v = some (.ref ro3) ∧ h' = h ∧ L = []) := by
  have hw := B.1
  refine Con.of (plainFor_of_name pn17) (Ls := #[vR ro0, vI 0]) (fun _ => rfl) ?_
  intro p e s m below meth c T0 X0 H hml hZ hown hnm hret hlk e0
  have N0 := Fr.nil Z.heap.size
  refine gAloadN X0 H d17_0 rfl rfl 1 rfl ?_
  refine gGetF X0 H hZ hown (hw _ wd96) Via.refl e0 q1559 d17_1 4 rfl ?_
  intro T1560 X1560 e1560
  refine gAloadN X1560 H d17_4 rfl rfl 5 rfl ?_
  refine gIloadN X1560 H d17_5 rfl 6 rfl ?_
  refine gPrivate X1560 H hZ hown (hw _ wd121) (hw _ wd122) (hw _ wd123) (hw _ wd65) (by decide) q1561 (hw _ wd124) (hw _ wd66) (rm1568_18 B ro0 ro1 _ O q1569 q1559 q1570) e1560 hml rfl pd6 rfl (W := 1) (argsL := [(.int 0)]) (rest := [(.ref ro1)]) rfl rfl d17_6 9 rfl ?_
  intro v1571 T1571 L1571 hq1571 X1571
  obtain ⟨rfl, e1571, rfl⟩ := hq1571
  have N1571 := Fr.app N0 (Fr.nil _)
  show Go _ _ _ _ (State.setTop _ (mkF _ 9 _ [(.int 0), (.ref ro1)]))
  refine gAaload X1571 H hZ e1571 rfl q1573 ⟨by decide, by decide⟩ (v := (.ref ro3)) rfl d17_9 10 rfl ?_
  exact gRetA X1571 H hlk hret rfl rfl rfl d17_10 e1571 ⟨rfl, rfl, rfl⟩
theorem rm1596_17 (B : Bg Z a0 wE0 w_cacheI k_wE0 cl_cacheI) (ro0 ro1 : Addr) (ck2 : ClassId) (ro3 ro4 : Addr) (h : Heap) (O : Ext Z.heap h) (q1588 : Fld Z h ro0 cs3 "buffer" cs2 (.ref ro1)) (q1590 : Exa Z h ro0 cs3) (q1591 : Fld Z h ro0 cs3 "head" "I" (.int 0)) (q1592 : Arl Z h ro1 (2 : Int32)) (q1595 : Arv Z h ro1 ck2 (.object "java/lang/Object") (2 : Int32) [(.ref ro3), (.ref ro4)] .null) :
    Con l Z yM17 prog_50_method_4_code 2 (some (.object "java/lang/Object")) ({ frames := 1, cells := 0, slots := 0, locals := 15 } : Room) #[(.ref ro0), (.int 1)] h (fun v h' L => v = some (.ref ro4) ∧ h' = h ∧ L = []) := by
  have hw := B.1
  refine Con.of (plainFor_of_name pn17) (Ls := #[vR ro0, vI 1]) (fun _ => rfl) ?_
  intro p e s m below meth c T0 X0 H hml hZ hown hnm hret hlk e0
  have N0 := Fr.nil Z.heap.size
  refine gAloadN X0 H d17_0 rfl rfl 1 rfl ?_
  refine gGetF X0 H hZ hown (hw _ wd96) Via.refl e0 q1588 d17_1 4 rfl ?_
  intro T1589 X1589 e1589
  refine gAloadN X1589 H d17_4 rfl rfl 5 rfl ?_
  refine gIloadN X1589 H d17_5 rfl 6 rfl ?_
  refine gPrivate X1589 H hZ hown (hw _ wd121) (hw _ wd122) (hw _ wd123) (hw _ wd65) (by decide) q1590 (hw _ wd124) (hw _ wd66) (rm289_18 B ro0 ro1 _ O q1591 q1588 q1592) e1589 hml rfl pd6 rfl (W := 1) (argsL := [(.int 1)]) (rest := [(.ref ro1)]) rfl rfl d17_6 9 rfl ?_
  intro v1593 T1593 L1593 hq1593 X1593
  obtain ⟨rfl, e1593, rfl⟩ := hq1593
  have N1593 := Fr.app N0 (Fr.nil _)
  show Go _ _ _ _ (State.setTop _ (mkF _ 9 _ [(.int 1), (.ref ro1)]))
  refine gAaload X1593 H hZ e1593 rfl q1595 ⟨by decide, by decide⟩ (v := (.ref ro4)) rfl d17_9 10 rfl ?_
  exact gRetA X1593 H hlk hret rfl rfl rfl d17_10 e1593 ⟨rfl, rfl, rfl⟩
theorem rm1626_21 (B : Bg Z a0 wE0 w_cacheI k_wE0 cl_cacheI) (ro0 ro1 : Addr) (ck2 : ClassId) (ro3 ro4 : Addr) (h : Heap) (O : Ext Z.heap h) (q1544 : Fld Z h ro0 cs3 "size" "I" (.int 2)) (q1546 : Fld Z h ro0 cs3 "buffer" cs2 (.ref ro1)) (q1549 : Arl Z h ro1 (2 : Int32)) (q1557 : Exa Z h ro0 cs3) (q1576 : Fld Z h ro0 cs3 "head" "I" (.int 0)) (q1579 : Arv Z h ro1 ck2 (.object "java/lang/Object") (2 : Int32) [(.ref ro3), (.ref ro4)] .null) (q1583 : Exa Z h ro3 cs4) (q1602 : Exa Z h ro4 cs4) (q1609 : Z.heap.size ≤ ro0) (q1616 : Fld Z h ro0 cs3 "serial" "I" (.int 1)) (q1618 : Fld Z h ro0 cs3 "firstNumber" "J" (.long 0)) :
    Con l Z yM21 prog_50_method_13_code 4 none ({ frames := 2, cells := 1, slots := 4, locals := 30 } : Room) #[(.ref ro0)] h (fun v h' L => ∃ (b1554 : Addr) (k1554 : ClassId), v = none ∧ Fr Z.heap.size L ∧ Keep h h' [ro0] ∧ h.size ≤ b1554 ∧ Fld Z h' ro0 cs3 "size" "I" (.int 2) ∧ Fld Z h' ro0 cs3 "buffer" cs2 (.ref b1554) ∧ Arv Z h' b1554 k1554 (.object "java/lang/Object") (4 : Int32) [(.ref ro3), (.ref ro4), .null, .null] .null ∧ Exa Z h' ro0 cs3 ∧ Fld Z h' ro0 cs3 "head" "I" (.int 0) ∧ Fld Z h' ro0 cs3 "serial" "I" (.int 1) ∧ Fld Z h' ro0 cs3 "firstNumber" "J" (.long 0) ∧ Ovr Z k1554 "java/lang/Object") := by
  have hw := B.1
  refine Con.of (plainFor_of_name pn21) (Ls := #[vR ro0, .unset, .unset, .unset]) (fun _ => rfl) ?_
  intro p e s m below meth c T0 X0 H hml hZ hown hnm hret hlk e0
  have M0 := Nat.le_refl h.size
  have N0 := Fr.nil Z.heap.size
  refine gAloadN X0 H d21_0 rfl rfl 1 rfl ?_
  refine gGetF X0 H hZ hown (hw _ wd98) Via.refl e0 q1544 d21_1 4 rfl ?_
  intro T1545 X1545 e1545
  refine gAloadN X1545 H d21_4 rfl rfl 5 rfl ?_
  refine gGetF X1545 H hZ hown (hw _ wd96) Via.refl e1545 q1546 d21_5 8 rfl ?_
  intro T1547 X1547 e1547
  refine gLen X1547 H hZ e1547 q1549 d21_8 9 rfl ?_
  refine gCmpY X1547 H d21_9 (by decide) (by decide) 13 rfl ?_
  refine gLdc2 X1547 H hZ hown (hw _ wd139) d21_13 16 rfl ?_
  refine gAloadN X1547 H d21_16 rfl rfl 17 rfl ?_
  refine gGetF X1547 H hZ hown (hw _ wd96) Via.refl e1547 q1546 d21_17 20 rfl ?_
  intro T1550 X1550 e1550
  refine gLen X1550 H hZ e1550 q1549 d21_20 21 rfl ?_
  refine g_i2l X1550 H d21_21 (z := 2) (by decide) 22 rfl ?_
  refine g_lmul X1550 H d21_22 (z := 4) (by decide) 23 rfl ?_
  refine gLdc2 X1550 H hZ hown (hw _ wd140) d21_23 26 rfl ?_
  refine gStatic X1550 H hZ hown (hw _ wd141) (hw _ wd142) (by decide) (hw _ wd143) (hw _ wd59) (rm378_22 B _ O) e1550 hml rfl pd10 rfl (W := 0) (argsL := [(.long 4), (.long 2147483639)]) (rest := []) rfl rfl d21_26 29 rfl ?_
  intro v1552 T1552 L1552 hq1552 X1552
  obtain ⟨rfl, e1552, rfl⟩ := hq1552
  have N1552 := Fr.app N0 (Fr.nil _)
  show Go _ _ _ _ (State.setTop _ (mkF _ 29 _ [(.long 4)]))
  refine g_l2i X1552 H d21_29 (z := 4) (by decide) 30 rfl ?_
  refine gIstoreN X1552 H d21_30 (Ls' := #[vR ro0, vI 4, .unset, .unset]) rfl 31 rfl ?_
  refine gIloadN X1552 H d21_31 rfl 32 rfl ?_
  refine gAloadN X1552 H d21_32 rfl rfl 33 rfl ?_
  refine gGetF X1552 H hZ hown (hw _ wd98) Via.refl e1552 q1544 d21_33 36 rfl ?_
  intro T1553 X1553 e1553
  refine gCmpY X1553 H d21_36 (by decide) (by decide) 49 rfl ?_
  refine gIloadN X1553 H d21_49 rfl 50 rfl ?_
  refine gNewR X1553 H hZ hown (hw _ wd83) (hw _ wd62) e1553 (by decide) (cap := 4) (by decide) (by decide) (vs := [.null, .null, .null, .null]) rfl (by decide) (by decide) d21_50 53 rfl ?_
  intro T1554 h1554 b1554 k1554 X1554 e1554 z1554 E1554 V1554 Q1554
  have G_b1554 := Nat.le_trans O.1 (Nat.le_of_eq z1554)
  have sz_b1554 := Nat.le_trans M0 (Nat.le_of_eq z1554)
  have O1554 := extT O E1554
  refine gAstoreN X1554 H d21_53 rfl (Ls' := #[vR ro0, vI 4, vR b1554, .unset]) rfl 54 rfl ?_
  refine gIconst X1554 H d21_54 (z := 0) rfl 55 rfl ?_
  refine gIstoreN X1554 H d21_55 (Ls' := #[vR ro0, vI 4, vR b1554, vI 0]) rfl 56 rfl ?_
  refine gIloadN X1554 H d21_56 rfl 57 rfl ?_
  refine gAloadN X1554 H d21_57 rfl rfl 58 rfl ?_
  have c1555 := (q1544.ext E1554)
  refine gGetF X1554 H hZ hown (hw _ wd98) Via.refl e1554 c1555 d21_58 61 rfl ?_
  intro T1556 X1556 e1556
  refine gCmpN X1556 H d21_61 (by decide) 64 rfl ?_
  refine gAloadN X1556 H d21_64 rfl rfl 65 rfl ?_
  refine gIloadN X1556 H d21_65 rfl 66 rfl ?_
  refine gAloadN X1556 H d21_66 rfl rfl 67 rfl ?_
  refine gIloadN X1556 H d21_67 rfl 68 rfl ?_
  have c1558 := (q1557.ext E1554)
  have c1575 := (q1546.ext E1554)
  have c1577 := (q1576.ext E1554)
  have c1578 := (q1549.ext E1554)
  have c1580 := (q1579.ext E1554)
  refine gVirt X1556 H hZ hown (hw _ wd116) (hw _ wd117) (hw _ wd119) (hw _ wd118) (by decide) c1558 (hw _ wd120) (hw _ wd66) (rm1574_17 B ro0 ro1 ck2 ro3 ro4 _ O1554 c1575 c1558 c1577 c1578 c1580) e1556 hml rfl pd11 rfl (W := 2) (argsL := [(.int 0)]) (rest := [(.int 0), (.ref b1554)]) rfl rfl d21_68 71 rfl ?_
  intro v1581 T1581 L1581 hq1581 X1581
  obtain ⟨rfl, e1581, rfl⟩ := hq1581
  have N1581 := Fr.app N1552 (Fr.nil _)
  show Go _ _ _ _ (State.setTop _ (mkF _ 71 _ [(.ref ro3), (.int 0), (.ref b1554)]))
  have c1584 := (q1583.ext E1554)
  refine gAastore X1581 H hZ e1581 rfl (stoV V1554 Q1554 (Ins.of_exa c1584 (hw _ wd63))) V1554 ⟨by decide, by decide⟩ (i := 0) rfl (Nat.le_of_ble_eq_true rfl) (vs' := [(.ref ro3), .null, .null, .null]) rfl d21_71 72 rfl ?_
  intro T1582 h1582 X1582 e1582 W1582 V1582
  have O1582 := extW O1554 W1582 G_b1554
  have N1582 := Fr.snoc X1582 N1581 G_b1554
  refine gIinc X1582 H d21_72 rfl (Ls' := #[vR ro0, vI 4, vR b1554, vI 1]) rfl 75 rfl ?_
  refine gGoto X1582 H d21_75 (by decide) 56 rfl ?_
  refine gIloadN X1582 H d21_56 rfl 57 rfl ?_
  refine gAloadN X1582 H d21_57 rfl rfl 58 rfl ?_
  have c1585 := (c1555.other W1582 (Or.inl (neB q1544.lt sz_b1554)))
  refine gGetF X1582 H hZ hown (hw _ wd98) Via.refl e1582 c1585 d21_58 61 rfl ?_
  intro T1586 X1586 e1586
  refine gCmpN X1586 H d21_61 (by decide) 64 rfl ?_
  refine gAloadN X1586 H d21_64 rfl rfl 65 rfl ?_
  refine gIloadN X1586 H d21_65 rfl 66 rfl ?_
  refine gAloadN X1586 H d21_66 rfl rfl 67 rfl ?_
  refine gIloadN X1586 H d21_67 rfl 68 rfl ?_
  have c1587 := (c1558.wr W1582)
  have c1597 := (c1575.other W1582 (Or.inl (neB q1544.lt sz_b1554)))
  have c1598 := (c1577.other W1582 (Or.inl (neB q1544.lt sz_b1554)))
  have c1599 := (c1580.other W1582 (neB q1549.lt sz_b1554))
  refine gVirt X1586 H hZ hown (hw _ wd116) (hw _ wd117) (hw _ wd119) (hw _ wd118) (by decide) c1587 (hw _ wd120) (hw _ wd66) (rm1596_17 B ro0 ro1 ck2 ro3 ro4 _ O1582 c1597 c1587 c1598 (Arv.arl c1599) c1599) e1586 hml rfl pd11 rfl (W := 2) (argsL := [(.int 1)]) (rest := [(.int 1), (.ref b1554)]) rfl rfl d21_68 71 rfl ?_
  intro v1600 T1600 L1600 hq1600 X1600
  obtain ⟨rfl, e1600, rfl⟩ := hq1600
  have N1600 := Fr.app N1582 (Fr.nil _)
  show Go _ _ _ _ (State.setTop _ (mkF _ 71 _ [(.ref ro4), (.int 1), (.ref b1554)]))
  have c1603 := ((q1602.ext E1554).wr W1582)
  refine gAastore X1600 H hZ e1600 rfl (stoV V1582 Q1554 (Ins.of_exa c1603 (hw _ wd63))) V1582 ⟨by decide, by decide⟩ (i := 1) rfl (Nat.le_of_ble_eq_true rfl) (vs' := [(.ref ro3), (.ref ro4), .null, .null]) rfl d21_71 72 rfl ?_
  intro T1601 h1601 X1601 e1601 W1601 V1601
  have O1601 := extW O1582 W1601 G_b1554
  have N1601 := Fr.snoc X1601 N1600 G_b1554
  refine gIinc X1601 H d21_72 rfl (Ls' := #[vR ro0, vI 4, vR b1554, vI 2]) rfl 75 rfl ?_
  refine gGoto X1601 H d21_75 (by decide) 56 rfl ?_
  refine gIloadN X1601 H d21_56 rfl 57 rfl ?_
  refine gAloadN X1601 H d21_57 rfl rfl 58 rfl ?_
  have c1604 := (c1585.other W1601 (Or.inl (neB q1544.lt sz_b1554)))
  refine gGetF X1601 H hZ hown (hw _ wd98) Via.refl e1601 c1604 d21_58 61 rfl ?_
  intro T1605 X1605 e1605
  refine gCmpY X1605 H d21_61 (by decide) (by decide) 78 rfl ?_
  refine gAloadN X1605 H d21_78 rfl rfl 79 rfl ?_
  refine gAloadN X1605 H d21_79 rfl rfl 80 rfl ?_
  have c1607 := (c1587.wr W1601)
  have c1608 := (c1597.other W1601 (Or.inl (neB q1544.lt sz_b1554)))
  refine gPutF X1605 H hZ hown (hw _ wd96) Via.refl e1605 c1608 c1607 (Or.inl (hw _ wd97)) (hw _ wd65) (ty := (.array (.object "java/lang/Object"))) (by decide) (v' := (.ref b1554)) rfl rfl d21_80 83 rfl ?_
  intro T1606 h1606 X1606 e1606 W1606 F1606
  have O1606 := extW O1601 W1606 q1609
  have N1606 := Fr.snoc X1606 N1601 q1609
  refine gAloadN X1606 H d21_83 rfl rfl 84 rfl ?_
  refine gIconst X1606 H d21_84 (z := 0) rfl 85 rfl ?_
  have c1611 := (c1607.wr W1606)
  have c1612 := ((c1598.other W1601 (Or.inl (neB q1544.lt sz_b1554))).other W1606 (Or.inr (sn14 hw)))
  refine gPutF X1606 H hZ hown (hw _ wd125) Via.refl e1606 c1612 c1611 (Or.inl (hw _ wd126)) (hw _ wd65) (ty := .int) (by decide) (v' := (.int 0)) rfl rfl d21_85 88 rfl ?_
  intro T1610 h1610 X1610 e1610 W1610 F1610
  have O1610 := extW O1606 W1610 q1609
  have N1610 := Fr.snoc X1610 N1606 q1609
  have c1613 := ((c1604.other W1606 (Or.inr (sn6 hw))).other W1610 (Or.inr (sn16 hw)))
  have c1614 := (F1606.other W1610 (Or.inr (sn18 hw)))
  have c1615 := (c1611.wr W1610)
  have c1617 := (((((q1616.ext E1554).other W1582 (Or.inl (neB q1544.lt sz_b1554))).other W1601 (Or.inl (neB q1544.lt sz_b1554))).other W1606 (Or.inr (sn7 hw))).other W1610 (Or.inr (sn22 hw)))
  have c1619 := (((((q1618.ext E1554).other W1582 (Or.inl (neB q1544.lt sz_b1554))).other W1601 (Or.inl (neB q1544.lt sz_b1554))).other W1606 (Or.inr (sn11 hw))).other W1610 (Or.inr (sn17 hw)))
  have c1620 := ((V1601.other W1606 (Ne.symm (neB q1544.lt sz_b1554))).other W1610 (Ne.symm (neB q1544.lt sz_b1554)))
  have K_1621 := (Keep.refl h [ro0]).ext E1554
  have K_1622 := K_1621.wr W1582 (Or.inr sz_b1554)
  have K_1623 := K_1622.wr W1601 (Or.inr sz_b1554)
  have K_1624 := K_1623.wr W1606 (Or.inl (List.mem_of_getElem? (i := 0) rfl))
  have K_1625 := K_1624.wr W1610 (Or.inl (List.mem_of_getElem? (i := 0) rfl))
  exact gRetV X1610 H hlk hret d21_88 e1610 ⟨b1554, k1554, rfl, N1610, K_1625, sz_b1554, c1613, c1614, c1620, c1615, F1610, c1617, c1619, Q1554⟩
theorem rm1668_20 (B : Bg Z a0 wE0 w_cacheI k_wE0 cl_cacheI) (ro0 ro1 ro2 : Addr) (ck3 : ClassId) (ro4 ro5 : Addr) (h : Heap) (O : Ext Z.heap h) (q1543 : Exa Z h ro0 cs3) (q1627 : Fld Z h ro0 cs3 "size" "I" (.int 2)) (q1628 : Fld Z h ro0 cs3 "buffer" cs2 (.ref ro2)) (q1629 : Arl Z h ro2 (2 : Int32)) (q1630 : Fld Z h ro0 cs3 "head" "I" (.int 0)) (q1631 : Arv Z h ro2 ck3 (.object "java/lang/Object") (2 : Int32) [(.ref ro4), (.ref ro5)] .null) (q1632 : Exa Z h ro4 cs4) (q1633 : Exa Z h ro5 cs4) (q1634 : Z.heap.size ≤ ro0) (q1635 : Fld Z h ro0 cs3 "serial" "I" (.int 1)) (q1636 : Fld Z h ro0 cs3 "firstNumber" "J" (.long 0)) (q1654 : Exa Z h ro1 cs4) :
    Con l Z yM20 prog_50_method_9_code 2 none ({ frames := 3, cells := 1, slots := 4, locals := 45 } : Room) #[(.ref ro0), (.ref ro1)] h (fun v h' L => ∃ (b1637_0 : Addr) (k1637_0 : ClassId), v = none ∧ Fr Z.heap.size L ∧ Keep h h' [ro0] ∧ h.size ≤ b1637_0 ∧ Exa Z h' ro0 cs3 ∧ Fld Z h' ro0 cs3 "size" "I" (.int 3) ∧ Fld Z h' ro0 cs3 "buffer" cs2 (.ref b1637_0) ∧ Fld Z h' ro0 cs3 "head" "I" (.int 3) ∧ Fld Z h' ro0 cs3 "serial" "I" (.int 1) ∧ Fld Z h' ro0 cs3 "firstNumber" "J" (.long (-1)) ∧ Arv Z h' b1637_0 k1637_0 (.object "java/lang/Object") (4 : Int32) [(.ref ro4), (.ref ro5), .null, (.ref ro1)] .null ∧ Ovr Z k1637_0 "java/lang/Object") := by
  have hw := B.1
  refine Con.of (plainFor_of_name pn20) (Ls := #[vR ro0, vR ro1]) (fun _ => rfl) ?_
  intro p e s m below meth c T0 X0 H hml hZ hown hnm hret hlk e0
  have M0 := Nat.le_refl h.size
  have N0 := Fr.nil Z.heap.size
  refine gAloadN X0 H d20_0 rfl rfl 1 rfl ?_
  refine gPrivate X0 H hZ hown (hw _ wd135) (hw _ wd136) (hw _ wd137) (hw _ wd65) (by decide) q1543 (hw _ wd138) (hw _ wd66) (rm1626_21 B ro0 ro2 ck3 ro4 ro5 _ O q1627 q1628 q1629 q1543 q1630 q1631 q1632 q1633 q1634 q1635 q1636) e0 hml rfl pd0 rfl (W := 0) (argsL := []) (rest := []) rfl rfl d20_1 4 rfl ?_
  intro v1637 T1637 L1637 hq1637 X1637
  obtain ⟨b1637_0, k1637_0, rfl, N1637q, K1637, s1637_0, f1637_0, f1637_1, f1637_2, f1637_3, f1637_4, f1637_5, f1637_6, f1637_7⟩ := hq1637
  have G_b1637_0 := Nat.le_trans O.1 s1637_0
  have sz_b1637_0 := Nat.le_trans M0 s1637_0
  have O1637 := extK O K1637 (allS q1634 all0)
  have N1637 := Fr.app N0 N1637q
  show Go _ _ _ _ (State.setTop _ (mkF _ 4 _ []))
  refine gAloadN X1637 H d20_4 rfl rfl 5 rfl ?_
  refine gAloadN X1637 H d20_5 rfl rfl 6 rfl ?_
  refine gAloadN X1637 H d20_6 rfl rfl 7 rfl ?_
  refine gGetF X1637 H hZ hown (hw _ wd96) Via.refl rfl f1637_1 d20_7 10 rfl ?_
  intro T1638 X1638 e1638
  refine gLen X1638 H hZ e1638 (Arv.arl f1637_2) d20_10 11 rfl ?_
  refine gIconst X1638 H d20_11 (z := 1) rfl 12 rfl ?_
  refine g_isub X1638 H d20_12 (z := 3) (by decide) 13 rfl ?_
  refine gPrivate X1638 H hZ hown (hw _ wd121) (hw _ wd122) (hw _ wd123) (hw _ wd65) (by decide) f1637_3 (hw _ wd124) (hw _ wd66) (rm475_18 B ro0 b1637_0 _ O1637 f1637_4 f1637_1 (Arv.arl f1637_2)) e1638 hml rfl pd6 rfl (W := 1) (argsL := [(.int 3)]) (rest := [(.ref ro0)]) rfl rfl d20_13 16 rfl ?_
  intro v1640 T1640 L1640 hq1640 X1640
  obtain ⟨rfl, e1640, rfl⟩ := hq1640
  have N1640 := Fr.app N1637 (Fr.nil _)
  show Go _ _ _ _ (State.setTop _ (mkF _ 16 _ [(.int 3), (.ref ro0)]))
  refine gPutF X1640 H hZ hown (hw _ wd125) Via.refl e1640 f1637_4 f1637_3 (Or.inl (hw _ wd126)) (hw _ wd65) (ty := .int) (by decide) (v' := (.int 3)) rfl rfl d20_16 19 rfl ?_
  intro T1641 h1641 X1641 e1641 W1641 F1641
  have O1641 := extW O1637 W1641 q1634
  have N1641 := Fr.snoc X1641 N1640 q1634
  refine gAloadN X1641 H d20_19 rfl rfl 20 rfl ?_
  refine gDup X1641 H d20_20 rfl 21 rfl ?_
  have c1642 := (f1637_0.other W1641 (Or.inr (sn16 hw)))
  refine gGetF X1641 H hZ hown (hw _ wd98) Via.refl e1641 c1642 d20_21 24 rfl ?_
  intro T1643 X1643 e1643
  refine gIconst X1643 H d20_24 (z := 1) rfl 25 rfl ?_
  refine g_iadd X1643 H d20_25 (z := 3) (by decide) 26 rfl ?_
  have c1645 := (f1637_3.wr W1641)
  refine gPutF X1643 H hZ hown (hw _ wd98) Via.refl e1643 c1642 c1645 (Or.inl (hw _ wd99)) (hw _ wd65) (ty := .int) (by decide) (v' := (.int 3)) rfl rfl d20_26 29 rfl ?_
  intro T1644 h1644 X1644 e1644 W1644 F1644
  have O1644 := extW O1641 W1644 q1634
  have N1644 := Fr.snoc X1644 N1641 q1634
  refine gAloadN X1644 H d20_29 rfl rfl 30 rfl ?_
  refine gDup X1644 H d20_30 rfl 31 rfl ?_
  have c1646 := ((f1637_6.other W1641 (Or.inr (sn17 hw))).other W1644 (Or.inr (sn12 hw)))
  refine gGetF X1644 H hZ hown (hw _ wd105) Via.refl e1644 c1646 d20_31 34 rfl ?_
  intro T1647 X1647 e1647
  refine gLconst X1647 H d20_34 (z := 1) rfl 35 rfl ?_
  refine g_lsub X1647 H d20_35 (z := (-1)) (by decide) 36 rfl ?_
  have c1649 := (c1645.wr W1644)
  refine gPutF X1647 H hZ hown (hw _ wd105) Via.refl e1647 c1646 c1649 (Or.inl (hw _ wd106)) (hw _ wd65) (ty := .long) (by decide) (v' := (.long (-1))) rfl rfl d20_36 39 rfl ?_
  intro T1648 h1648 X1648 e1648 W1648 F1648
  have O1648 := extW O1644 W1648 q1634
  have N1648 := Fr.snoc X1648 N1644 q1634
  refine gAloadN X1648 H d20_39 rfl rfl 40 rfl ?_
  refine gIconst X1648 H d20_40 (z := 0) rfl 41 rfl ?_
  refine gAloadN X1648 H d20_41 rfl rfl 42 rfl ?_
  have c1650 := (c1649.wr W1648)
  have c1651 := (((f1637_1.other W1641 (Or.inr (sn18 hw))).other W1644 (Or.inr (sn9 hw))).other W1648 (Or.inr (sn19 hw)))
  have c1652 := ((F1641.other W1644 (Or.inr (sn15 hw))).other W1648 (Or.inr (sn20 hw)))
  have c1653 := (((f1637_2.other W1641 (Ne.symm (neB q1543.lt sz_b1637_0))).other W1644 (Ne.symm (neB q1543.lt sz_b1637_0))).other W1648 (Ne.symm (neB q1543.lt sz_b1637_0)))
  have c1655 := ((((q1654.keep K1637).wr W1641).wr W1644).wr W1648)
  refine gVirt X1648 H hZ hown (hw _ wd144) (hw _ wd145) (hw _ wd147) (hw _ wd146) (by decide) c1650 (hw _ wd148) (hw _ wd66) (rm506_23 B ro0 ro1 b1637_0 k1637_0 ro4 ro5 _ O1648 c1651 c1650 c1652 (Arv.arl c1653) c1653 c1655 f1637_7 G_b1637_0) e1648 hml rfl pd7 rfl (W := 0) (argsL := [(.int 0), (.ref ro1)]) (rest := []) rfl rfl d20_42 45 rfl ?_
  intro v1656 T1656 L1656 hq1656 X1656
  obtain ⟨rfl, N1656q, K1656, f1656_0⟩ := hq1656
  have O1656 := extK O1648 K1656 (allS G_b1637_0 all0)
  have N1656 := Fr.app N1648 N1656q
  show Go _ _ _ _ (State.setTop _ (mkF _ 45 _ []))
  have c1657 := (c1650.keep K1656)
  have c1658 := ((F1644.other W1648 (Or.inr (sn21 hw))).keep K1656 (ninS (neB q1543.lt sz_b1637_0) nin0))
  have c1659 := (c1651.keep K1656 (ninS (neB q1543.lt sz_b1637_0) nin0))
  have c1660 := (c1652.keep K1656 (ninS (neB q1543.lt sz_b1637_0) nin0))
  have c1661 := ((((f1637_5.other W1641 (Or.inr (sn22 hw))).other W1644 (Or.inr (sn8 hw))).other W1648 (Or.inr (sn23 hw))).keep K1656 (ninS (neB q1543.lt sz_b1637_0) nin0))
  have c1662 := (F1648.keep K1656 (ninS (neB q1543.lt sz_b1637_0) nin0))
  have K_1663 := (Keep.refl h [ro0]).trans K1637 (allS (Or.inl (List.mem_of_getElem? (i := 0) rfl)) all0)
  have K_1664 := K_1663.wr W1641 (Or.inl (List.mem_of_getElem? (i := 0) rfl))
  have K_1665 := K_1664.wr W1644 (Or.inl (List.mem_of_getElem? (i := 0) rfl))
  have K_1666 := K_1665.wr W1648 (Or.inl (List.mem_of_getElem? (i := 0) rfl))
  have K_1667 := K_1666.trans K1656 (allS (Or.inr sz_b1637_0) all0)
  exact gRetV X1656 H hlk hret d20_45 rfl ⟨b1637_0, k1637_0, rfl, N1656, K_1667, sz_b1637_0, c1657, c1658, c1659, c1660, c1661, c1662, f1656_0, f1637_7⟩
theorem rm1693_15 (B : Bg Z a0 wE0 w_cacheI k_wE0 cl_cacheI) (ro0 ro1 : Addr) (ck2 : ClassId) (ro3 ro4 : Addr) (h : Heap) (O : Ext Z.heap h) (q1541 : Exa Z h ro0 cs3) (q1669 : Fld Z h ro0 cs3 "size" "I" (.int 2)) (q1671 : Fld Z h ro0 cs3 "buffer" cs2 (.ref ro1)) (q1673 : Arl Z h ro1 (2 : Int32)) (q1675 : Fld Z h ro0 cs3 "head" "I" (.int 0)) (q1677 : Arv Z h ro1 ck2 (.object "java/lang/Object") (2 : Int32) [(.ref ro3), (.ref ro4)] .null) (q1679 : Exa Z h ro3 cs4) (q1681 : Exa Z h ro4 cs4) (q1683 : Z.heap.size ≤ ro0) (q1684 : Fld Z h ro0 cs3 "serial" "I" (.int 1)) (q1686 : Fld Z h ro0 cs3 "firstNumber" "J" (.long 0)) :
    Con l Z yM15 method_2_code 2 none ({ frames := 4, cells := 1, slots := 4, locals := 58 } : Room) #[(.ref ro0), (.int 0)] h (fun v h' L => ∃ (b1540_0 b1688_0 : Addr) (k1688_0 : ClassId), v = none ∧ Fr Z.heap.size L ∧ Keep h h' [ro0] ∧ h.size ≤ b1688_0 ∧ Exa Z h' b1540_0 cs4 ∧ Exa Z h' ro0 cs3 ∧ Fld Z h' ro0 cs3 "size" "I" (.int 3) ∧ Fld Z h' ro0 cs3 "buffer" cs2 (.ref b1688_0) ∧ Fld Z h' ro0 cs3 "head" "I" (.int 3) ∧ Fld Z h' ro0 cs3 "serial" "I" (.int 1) ∧ Fld Z h' ro0 cs3 "firstNumber" "J" (.long (-1)) ∧ Arv Z h' b1688_0 k1688_0 (.object "java/lang/Object") (4 : Int32) [(.ref ro3), (.ref ro4), .null, (.ref b1540_0)] .null ∧ b1540_0 ≠ b1688_0 ∧ Ovr Z k1688_0 "java/lang/Object") := by
  have hw := B.1
  refine Con.of (plainFor_of_name pn15) (Ls := #[vR ro0, vI 0]) (fun _ => rfl) ?_
  intro p e s m below meth c T0 X0 H hml hZ hown hnm hret hlk e0
  have M0 := Nat.le_refl h.size
  have N0 := Fr.nil Z.heap.size
  refine gIloadN X0 H d15_0 rfl 1 rfl ?_
  refine gIfY X0 H d15_1 (by decide) (by decide) 12 rfl ?_
  refine gAloadN X0 H d15_12 rfl rfl 13 rfl ?_
  refine gBipush X0 H d15_13 (z := 20) rfl 15 rfl ?_
  refine gStatic X0 H hZ hown (hw _ wd26) (hw _ wd27) (by decide) (hw _ wd29) (hw _ wd28) (rm110_5 B _ O) e0 hml rfl pd5 rfl (W := 1) (argsL := [(.int 20)]) (rest := [(.ref ro0)]) rfl rfl d15_15 18 rfl ?_
  intro v1540 T1540 L1540 hq1540 X1540
  obtain ⟨b1540_0, rfl, N1540q, K1540, f1540_0⟩ := hq1540
  have O1540 := extK O K1540 all0
  have N1540 := Fr.app N0 N1540q
  show Go _ _ _ _ (State.setTop _ (mkF _ 18 _ [(.ref b1540_0), (.ref ro0)]))
  have c1542 := (q1541.keep K1540)
  have c1670 := (q1669.keep K1540 nin0)
  have c1672 := (q1671.keep K1540 nin0)
  have c1674 := (q1673.keep K1540 nin0)
  have c1676 := (q1675.keep K1540 nin0)
  have c1678 := (q1677.keep K1540 nin0)
  have c1680 := (q1679.keep K1540)
  have c1682 := (q1681.keep K1540)
  have c1685 := (q1684.keep K1540 nin0)
  have c1687 := (q1686.keep K1540 nin0)
  refine gVirt X1540 H hZ hown (hw _ wd130) (hw _ wd131) (hw _ wd133) (hw _ wd132) (by decide) c1542 (hw _ wd134) (hw _ wd66) (rm1668_20 B ro0 b1540_0 ro1 ck2 ro3 ro4 _ O1540 c1542 c1670 c1672 c1674 c1676 c1678 c1680 c1682 q1683 c1685 c1687 f1540_0) rfl hml rfl pd8 rfl (W := 0) (argsL := [(.ref b1540_0)]) (rest := []) rfl rfl d15_18 21 rfl ?_
  intro v1688 T1688 L1688 hq1688 X1688
  obtain ⟨b1688_0, k1688_0, rfl, N1688q, K1688, s1688_0, f1688_0, f1688_1, f1688_2, f1688_3, f1688_4, f1688_5, f1688_6, f1688_7⟩ := hq1688
  have M1689 := (Nat.le_trans M0 K1540.1)
  have G_b1688_0 := Nat.le_trans O1540.1 s1688_0
  have sz_b1688_0 := Nat.le_trans M1689 s1688_0
  have ne_b1540_0_b1688_0 : b1540_0 ≠ b1688_0 := neB f1540_0.lt s1688_0
  have O1688 := extK O1540 K1688 (allS q1683 all0)
  have N1688 := Fr.app N1540 N1688q
  show Go _ _ _ _ (State.setTop _ (mkF _ 21 _ []))
  have c1690 := (f1540_0.keep K1688)
  have K_1691 := (Keep.refl h [ro0]).trans K1540 all0
  have K_1692 := K_1691.trans K1688 (allS (Or.inl (List.mem_of_getElem? (i := 0) rfl)) all0)
  exact gRetV X1688 H hlk hret d15_21 rfl ⟨b1540_0, b1688_0, k1688_0, rfl, N1688, K_1692, sz_b1688_0, c1690, f1688_0, f1688_1, f1688_2, f1688_3, f1688_4, f1688_5, f1688_6, ne_b1540_0_b1688_0, f1688_7⟩
theorem rm1748_20 (B : Bg Z a0 wE0 w_cacheI k_wE0 cl_cacheI) (ro0 ro1 ro2 : Addr) (ck3 : ClassId) (ro4 ro5 ro6 : Addr) (h : Heap) (O : Ext Z.heap h) (q1704 : Exa Z h ro0 cs3) (q1705 : Fld Z h ro0 cs3 "size" "I" (.int 3)) (q1706 : Fld Z h ro0 cs3 "buffer" cs2 (.ref ro2)) (q1707 : Arl Z h ro2 (4 : Int32)) (q1711 : Fld Z h ro0 cs3 "head" "I" (.int 3)) (q1714 : Z.heap.size ≤ ro0) (q1719 : Fld Z h ro0 cs3 "firstNumber" "J" (.long (-1))) (q1728 : ro2 ≠ ro0) (q1730 : Arv Z h ro2 ck3 (.object "java/lang/Object") (4 : Int32) [(.ref ro4), (.ref ro5), .null, (.ref ro6)] .null) (q1732 : Exa Z h ro1 cs4) (q1734 : Ovr Z ck3 "java/lang/Object") (q1735 : Z.heap.size ≤ ro2) (q1742 : Fld Z h ro0 cs3 "serial" "I" (.int 1)) :
    Con l Z yM20 prog_50_method_9_code 2 none ({ frames := 2, cells := 0, slots := 0, locals := 29 } : Room) #[(.ref ro0), (.ref ro1)] h (fun v h' L => v = none ∧ Fr Z.heap.size L ∧ Keep h h' [ro0, ro2] ∧ Exa Z h' ro0 cs3 ∧ Fld Z h' ro0 cs3 "size" "I" (.int 4) ∧ Fld Z h' ro0 cs3 "buffer" cs2 (.ref ro2) ∧ Fld Z h' ro0 cs3 "head" "I" (.int 2) ∧ Fld Z h' ro0 cs3 "firstNumber" "J" (.long (-2)) ∧ Arv Z h' ro2 ck3 (.object "java/lang/Object") (4 : Int32) [(.ref ro4), (.ref ro5), (.ref ro1), (.ref ro6)] .null ∧ Fld Z h' ro0 cs3 "serial" "I" (.int 1)) := by
  have hw := B.1
  refine Con.of (plainFor_of_name pn20) (Ls := #[vR ro0, vR ro1]) (fun _ => rfl) ?_
  intro p e s m below meth c T0 X0 H hml hZ hown hnm hret hlk e0
  have N0 := Fr.nil Z.heap.size
  refine gAloadN X0 H d20_0 rfl rfl 1 rfl ?_
  refine gPrivate X0 H hZ hown (hw _ wd135) (hw _ wd136) (hw _ wd137) (hw _ wd65) (by decide) q1704 (hw _ wd138) (hw _ wd66) (rm1144_21 B ro0 ro2 _ O q1705 q1706 q1707) e0 hml rfl pd0 rfl (W := 0) (argsL := []) (rest := []) rfl rfl d20_1 4 rfl ?_
  intro v1708 T1708 L1708 hq1708 X1708
  obtain ⟨rfl, e1708, rfl⟩ := hq1708
  have N1708 := Fr.app N0 (Fr.nil _)
  show Go _ _ _ _ (State.setTop _ (mkF _ 4 _ []))
  refine gAloadN X1708 H d20_4 rfl rfl 5 rfl ?_
  refine gAloadN X1708 H d20_5 rfl rfl 6 rfl ?_
  refine gAloadN X1708 H d20_6 rfl rfl 7 rfl ?_
  refine gGetF X1708 H hZ hown (hw _ wd96) Via.refl e1708 q1706 d20_7 10 rfl ?_
  intro T1709 X1709 e1709
  refine gLen X1709 H hZ e1709 q1707 d20_10 11 rfl ?_
  refine gIconst X1709 H d20_11 (z := 1) rfl 12 rfl ?_
  refine g_isub X1709 H d20_12 (z := 3) (by decide) 13 rfl ?_
  refine gPrivate X1709 H hZ hown (hw _ wd121) (hw _ wd122) (hw _ wd123) (hw _ wd65) (by decide) q1704 (hw _ wd124) (hw _ wd66) (rm1159_18 B ro0 ro2 _ O q1711 q1706 q1707) e1709 hml rfl pd6 rfl (W := 1) (argsL := [(.int 3)]) (rest := [(.ref ro0)]) rfl rfl d20_13 16 rfl ?_
  intro v1712 T1712 L1712 hq1712 X1712
  obtain ⟨rfl, e1712, rfl⟩ := hq1712
  have N1712 := Fr.app N1708 (Fr.nil _)
  show Go _ _ _ _ (State.setTop _ (mkF _ 16 _ [(.int 2), (.ref ro0)]))
  refine gPutF X1712 H hZ hown (hw _ wd125) Via.refl e1712 q1711 q1704 (Or.inl (hw _ wd126)) (hw _ wd65) (ty := .int) (by decide) (v' := (.int 2)) rfl rfl d20_16 19 rfl ?_
  intro T1713 h1713 X1713 e1713 W1713 F1713
  have O1713 := extW O W1713 q1714
  have N1713 := Fr.snoc X1713 N1712 q1714
  refine gAloadN X1713 H d20_19 rfl rfl 20 rfl ?_
  refine gDup X1713 H d20_20 rfl 21 rfl ?_
  have c1715 := (q1705.other W1713 (Or.inr (sn16 hw)))
  refine gGetF X1713 H hZ hown (hw _ wd98) Via.refl e1713 c1715 d20_21 24 rfl ?_
  intro T1716 X1716 e1716
  refine gIconst X1716 H d20_24 (z := 1) rfl 25 rfl ?_
  refine g_iadd X1716 H d20_25 (z := 4) (by decide) 26 rfl ?_
  have c1718 := (q1704.wr W1713)
  refine gPutF X1716 H hZ hown (hw _ wd98) Via.refl e1716 c1715 c1718 (Or.inl (hw _ wd99)) (hw _ wd65) (ty := .int) (by decide) (v' := (.int 4)) rfl rfl d20_26 29 rfl ?_
  intro T1717 h1717 X1717 e1717 W1717 F1717
  have O1717 := extW O1713 W1717 q1714
  have N1717 := Fr.snoc X1717 N1713 q1714
  refine gAloadN X1717 H d20_29 rfl rfl 30 rfl ?_
  refine gDup X1717 H d20_30 rfl 31 rfl ?_
  have c1720 := ((q1719.other W1713 (Or.inr (sn17 hw))).other W1717 (Or.inr (sn12 hw)))
  refine gGetF X1717 H hZ hown (hw _ wd105) Via.refl e1717 c1720 d20_31 34 rfl ?_
  intro T1721 X1721 e1721
  refine gLconst X1721 H d20_34 (z := 1) rfl 35 rfl ?_
  refine g_lsub X1721 H d20_35 (z := (-2)) (by decide) 36 rfl ?_
  have c1723 := (c1718.wr W1717)
  refine gPutF X1721 H hZ hown (hw _ wd105) Via.refl e1721 c1720 c1723 (Or.inl (hw _ wd106)) (hw _ wd65) (ty := .long) (by decide) (v' := (.long (-2))) rfl rfl d20_36 39 rfl ?_
  intro T1722 h1722 X1722 e1722 W1722 F1722
  have O1722 := extW O1717 W1722 q1714
  have N1722 := Fr.snoc X1722 N1717 q1714
  refine gAloadN X1722 H d20_39 rfl rfl 40 rfl ?_
  refine gIconst X1722 H d20_40 (z := 0) rfl 41 rfl ?_
  refine gAloadN X1722 H d20_41 rfl rfl 42 rfl ?_
  have c1724 := (c1723.wr W1722)
  have c1725 := (((q1706.other W1713 (Or.inr (sn18 hw))).other W1717 (Or.inr (sn9 hw))).other W1722 (Or.inr (sn19 hw)))
  have c1726 := ((F1713.other W1717 (Or.inr (sn15 hw))).other W1722 (Or.inr (sn20 hw)))
  have c1729 := (((q1707.other W1713 q1728).other W1717 q1728).other W1722 q1728)
  have c1731 := (((q1730.other W1713 q1728).other W1717 q1728).other W1722 q1728)
  have c1733 := (((q1732.wr W1713).wr W1717).wr W1722)
  refine gVirt X1722 H hZ hown (hw _ wd144) (hw _ wd145) (hw _ wd147) (hw _ wd146) (by decide) c1724 (hw _ wd148) (hw _ wd66) (rm1193_23 B ro0 ro1 ro2 ck3 ro4 ro5 ro6 _ O1722 c1725 c1724 c1726 c1729 c1731 c1733 q1734 q1735) e1722 hml rfl pd7 rfl (W := 0) (argsL := [(.int 0), (.ref ro1)]) (rest := []) rfl rfl d20_42 45 rfl ?_
  intro v1736 T1736 L1736 hq1736 X1736
  obtain ⟨rfl, N1736q, K1736, f1736_0⟩ := hq1736
  have O1736 := extK O1722 K1736 (allS q1735 all0)
  have N1736 := Fr.app N1722 N1736q
  show Go _ _ _ _ (State.setTop _ (mkF _ 45 _ []))
  have c1737 := (c1724.keep K1736)
  have c1738 := ((F1717.other W1722 (Or.inr (sn21 hw))).keep K1736 (ninS (Ne.symm q1728) nin0))
  have c1739 := (c1725.keep K1736 (ninS (Ne.symm q1728) nin0))
  have c1740 := (c1726.keep K1736 (ninS (Ne.symm q1728) nin0))
  have c1741 := (F1722.keep K1736 (ninS (Ne.symm q1728) nin0))
  have c1743 := ((((q1742.other W1713 (Or.inr (sn22 hw))).other W1717 (Or.inr (sn8 hw))).other W1722 (Or.inr (sn23 hw))).keep K1736 (ninS (Ne.symm q1728) nin0))
  have K_1744 := (Keep.refl h [ro0, ro2]).wr W1713 (Or.inl (List.mem_of_getElem? (i := 0) rfl))
  have K_1745 := K_1744.wr W1717 (Or.inl (List.mem_of_getElem? (i := 0) rfl))
  have K_1746 := K_1745.wr W1722 (Or.inl (List.mem_of_getElem? (i := 0) rfl))
  have K_1747 := K_1746.trans K1736 (allS (Or.inl (List.mem_of_getElem? (i := 1) rfl)) all0)
  exact gRetV X1736 H hlk hret d20_45 rfl ⟨rfl, N1736, K_1747, c1737, c1738, c1739, c1740, c1741, f1736_0, c1743⟩
theorem rm1770_15 (B : Bg Z a0 wE0 w_cacheI k_wE0 cl_cacheI) (ro0 ro1 : Addr) (ck2 : ClassId) (ro3 ro4 ro5 : Addr) (h : Heap) (O : Ext Z.heap h) (q1702 : Exa Z h ro0 cs3) (q1727 : ro1 ≠ ro0) (q1749 : Fld Z h ro0 cs3 "size" "I" (.int 3)) (q1751 : Fld Z h ro0 cs3 "buffer" cs2 (.ref ro1)) (q1753 : Arl Z h ro1 (4 : Int32)) (q1755 : Fld Z h ro0 cs3 "head" "I" (.int 3)) (q1757 : Z.heap.size ≤ ro0) (q1758 : Fld Z h ro0 cs3 "firstNumber" "J" (.long (-1))) (q1760 : Arv Z h ro1 ck2 (.object "java/lang/Object") (4 : Int32) [(.ref ro3), (.ref ro4), .null, (.ref ro5)] .null) (q1762 : Ovr Z ck2 "java/lang/Object") (q1763 : Z.heap.size ≤ ro1) (q1764 : Fld Z h ro0 cs3 "serial" "I" (.int 1)) :
    Con l Z yM15 method_2_code 2 none ({ frames := 3, cells := 0, slots := 0, locals := 42 } : Room) #[(.ref ro0), (.int 0)] h (fun v h' L => ∃ (b1701_0 : Addr), v = none ∧ Fr Z.heap.size L ∧ Keep h h' [ro0, ro1] ∧ Exa Z h' b1701_0 cs4 ∧ Exa Z h' ro0 cs3 ∧ Fld Z h' ro0 cs3 "size" "I" (.int 4) ∧ Fld Z h' ro0 cs3 "buffer" cs2 (.ref ro1) ∧ Fld Z h' ro0 cs3 "head" "I" (.int 2) ∧ Fld Z h' ro0 cs3 "firstNumber" "J" (.long (-2)) ∧ Arv Z h' ro1 ck2 (.object "java/lang/Object") (4 : Int32) [(.ref ro3), (.ref ro4), (.ref b1701_0), (.ref ro5)] .null ∧ Fld Z h' ro0 cs3 "serial" "I" (.int 1)) := by
  have hw := B.1
  refine Con.of (plainFor_of_name pn15) (Ls := #[vR ro0, vI 0]) (fun _ => rfl) ?_
  intro p e s m below meth c T0 X0 H hml hZ hown hnm hret hlk e0
  have N0 := Fr.nil Z.heap.size
  refine gIloadN X0 H d15_0 rfl 1 rfl ?_
  refine gIfY X0 H d15_1 (by decide) (by decide) 12 rfl ?_
  refine gAloadN X0 H d15_12 rfl rfl 13 rfl ?_
  refine gBipush X0 H d15_13 (z := 20) rfl 15 rfl ?_
  refine gStatic X0 H hZ hown (hw _ wd26) (hw _ wd27) (by decide) (hw _ wd29) (hw _ wd28) (rm110_5 B _ O) e0 hml rfl pd5 rfl (W := 1) (argsL := [(.int 20)]) (rest := [(.ref ro0)]) rfl rfl d15_15 18 rfl ?_
  intro v1701 T1701 L1701 hq1701 X1701
  obtain ⟨b1701_0, rfl, N1701q, K1701, f1701_0⟩ := hq1701
  have O1701 := extK O K1701 all0
  have N1701 := Fr.app N0 N1701q
  show Go _ _ _ _ (State.setTop _ (mkF _ 18 _ [(.ref b1701_0), (.ref ro0)]))
  have c1703 := (q1702.keep K1701)
  have c1750 := (q1749.keep K1701 nin0)
  have c1752 := (q1751.keep K1701 nin0)
  have c1754 := (q1753.keep K1701 nin0)
  have c1756 := (q1755.keep K1701 nin0)
  have c1759 := (q1758.keep K1701 nin0)
  have c1761 := (q1760.keep K1701 nin0)
  have c1765 := (q1764.keep K1701 nin0)
  refine gVirt X1701 H hZ hown (hw _ wd130) (hw _ wd131) (hw _ wd133) (hw _ wd132) (by decide) c1703 (hw _ wd134) (hw _ wd66) (rm1748_20 B ro0 b1701_0 ro1 ck2 ro3 ro4 ro5 _ O1701 c1703 c1750 c1752 c1754 c1756 q1757 c1759 q1727 c1761 f1701_0 q1762 q1763 c1765) rfl hml rfl pd8 rfl (W := 0) (argsL := [(.ref b1701_0)]) (rest := []) rfl rfl d15_18 21 rfl ?_
  intro v1766 T1766 L1766 hq1766 X1766
  obtain ⟨rfl, N1766q, K1766, f1766_0, f1766_1, f1766_2, f1766_3, f1766_4, f1766_5, f1766_6⟩ := hq1766
  have O1766 := extK O1701 K1766 (allS q1757 (allS q1763 all0))
  have N1766 := Fr.app N1701 N1766q
  show Go _ _ _ _ (State.setTop _ (mkF _ 21 _ []))
  have c1767 := (f1701_0.keep K1766)
  have K_1768 := (Keep.refl h [ro0, ro1]).trans K1701 all0
  have K_1769 := K_1768.trans K1766 (allS (Or.inl (List.mem_of_getElem? (i := 0) rfl)) (allS (Or.inl (List.mem_of_getElem? (i := 1) rfl)) all0))
  exact gRetV X1766 H hlk hret d15_21 rfl ⟨b1701_0, rfl, N1766, K_1769, c1767, f1766_0, f1766_1, f1766_2, f1766_3, f1766_4, f1766_5, f1766_6⟩
theorem rm1785_22 (B : Bg Z a0 wE0 w_cacheI k_wE0 cl_cacheI) (h : Heap) (O : Ext Z.heap h) :
    Con l Z yM22 jdk_29_method_70_code 4 (some .long) ({ frames := 0, cells := 0, slots := 0, locals := 0 } : Room) #[(.long 8), (.long 2147483639)] h (fun v h' L => v = some (.long 8) ∧ h' = h ∧ L = []) := by
  refine Con.of (Jvm.Free.JP.mathPlain rfl (by decide +kernel)) (Ls := #[vJ 8, .second, vJ 2147483639, .second]) (fun _ => by first | (simp [entryFrame, mkF, argsToLocals, Value.category, maxLocals]; done) | rfl) ?_
  intro p e s m below meth c T0 X0 H hml hZ hown hnm hret hlk e0
  refine gLloadN X0 H d22_0 rfl 1 rfl ?_
  refine gLloadN X0 H d22_1 rfl 2 rfl ?_
  refine g_lcmp X0 H d22_2 (z := (lcmpW (8 : Int64) (2147483639 : Int64))) rfl 3 rfl ?_
  refine gIfN X0 H d22_3 (by decide) 6 rfl ?_
  refine gLloadN X0 H d22_6 rfl 7 rfl ?_
  refine gGoto X0 H d22_7 (by decide) 11 rfl ?_
  exact gRetL X0 H hlk hret d22_11 e0 ⟨rfl, rfl, rfl⟩
theorem rm1801_17 (B : Bg Z a0 wE0 w_cacheI k_wE0 cl_cacheI) (ro0 ro1 : Addr) (ck2 : ClassId) (ro3 ro4 ro5 ro6 : Addr) (h : Heap) (O : Ext Z.heap h) (q1793 : Fld Z h ro0 cs3 "buffer" cs2 (.ref ro1)) (q1795 : Exa Z h ro0 cs3) (q1796 : Fld Z h ro0 cs3 "head" "I" (.int 2)) (q1797 : Arl Z h ro1 (4 : Int32)) (q1800 : Arv Z h ro1 ck2 (.object "java/lang/Object") (4 : Int32) [(.ref ro3), (.ref ro4), (.ref ro5), (.ref ro6)] .null) :
    Con l Z yM17 prog_50_method_4_code 2 (some (.object "java/lang/Object")) ({ frames := 1, cells := 0, slots := 0, locals := 15 } : Room) #[(.ref ro0), (.int 0)] h (fun v h' L => v = some (.ref ro5) ∧ h' = h ∧ L = []) := by
  have hw := B.1
  refine Con.of (plainFor_of_name pn17) (Ls := #[vR ro0, vI 0]) (fun _ => rfl) ?_
  intro p e s m below meth c T0 X0 H hml hZ hown hnm hret hlk e0
  have N0 := Fr.nil Z.heap.size
  refine gAloadN X0 H d17_0 rfl rfl 1 rfl ?_
  refine gGetF X0 H hZ hown (hw _ wd96) Via.refl e0 q1793 d17_1 4 rfl ?_
  intro T1794 X1794 e1794
  refine gAloadN X1794 H d17_4 rfl rfl 5 rfl ?_
  refine gIloadN X1794 H d17_5 rfl 6 rfl ?_
  refine gPrivate X1794 H hZ hown (hw _ wd121) (hw _ wd122) (hw _ wd123) (hw _ wd65) (by decide) q1795 (hw _ wd124) (hw _ wd66) (rm1183_18 B ro0 ro1 _ O q1796 q1793 q1797) e1794 hml rfl pd6 rfl (W := 1) (argsL := [(.int 0)]) (rest := [(.ref ro1)]) rfl rfl d17_6 9 rfl ?_
  intro v1798 T1798 L1798 hq1798 X1798
  obtain ⟨rfl, e1798, rfl⟩ := hq1798
  have N1798 := Fr.app N0 (Fr.nil _)
  show Go _ _ _ _ (State.setTop _ (mkF _ 9 _ [(.int 2), (.ref ro1)]))
  refine gAaload X1798 H hZ e1798 rfl q1800 ⟨by decide, by decide⟩ (v := (.ref ro5)) rfl d17_9 10 rfl ?_
  exact gRetA X1798 H hlk hret rfl rfl rfl d17_10 e1798 ⟨rfl, rfl, rfl⟩
theorem rm1824_18 (B : Bg Z a0 wE0 w_cacheI k_wE0 cl_cacheI) (ro0 ro1 : Addr) (h : Heap) (O : Ext Z.heap h) (q1818 : Fld Z h ro0 cs3 "head" "I" (.int 2)) (q1820 : Fld Z h ro0 cs3 "buffer" cs2 (.ref ro1)) (q1823 : Arl Z h ro1 (4 : Int32)) :
    Con l Z yM18 prog_50_method_12_code 3 (some .int) ({ frames := 0, cells := 0, slots := 0, locals := 0 } : Room) #[(.ref ro0), (.int 1)] h (fun v h' L => v = some (.int 3) ∧ h' = h ∧ L = []) := by
  have hw := B.1
  refine Con.of (plainFor_of_name pn18) (Ls := #[vR ro0, vI 1, .unset]) (fun _ => rfl) ?_
  intro p e s m below meth c T0 X0 H hml hZ hown hnm hret hlk e0
  refine gAloadN X0 H d18_0 rfl rfl 1 rfl ?_
  refine gGetF X0 H hZ hown (hw _ wd125) Via.refl e0 q1818 d18_1 4 rfl ?_
  intro T1819 X1819 e1819
  refine gIloadN X1819 H d18_4 rfl 5 rfl ?_
  refine g_iadd X1819 H d18_5 (z := 3) (by decide) 6 rfl ?_
  refine gIstoreN X1819 H d18_6 (Ls' := #[vR ro0, vI 1, vI 3]) rfl 7 rfl ?_
  refine gIloadN X1819 H d18_7 rfl 8 rfl ?_
  refine gAloadN X1819 H d18_8 rfl rfl 9 rfl ?_
  refine gGetF X1819 H hZ hown (hw _ wd96) Via.refl e1819 q1820 d18_9 12 rfl ?_
  intro T1821 X1821 e1821
  refine gLen X1821 H hZ e1821 q1823 d18_12 13 rfl ?_
  refine gCmpN X1821 H d18_13 (by decide) 16 rfl ?_
  refine gIloadN X1821 H d18_16 rfl 17 rfl ?_
  refine gGoto X1821 H d18_17 (by decide) 27 rfl ?_
  exact gRetI X1821 H hlk hret d18_27 e1821 ⟨rfl, rfl, rfl⟩
theorem rm1830_17 (B : Bg Z a0 wE0 w_cacheI k_wE0 cl_cacheI) (ro0 ro1 : Addr) (ck2 : ClassId) (ro3 ro4 ro5 ro6 : Addr) (h : Heap) (O : Ext Z.heap h) (q1815 : Fld Z h ro0 cs3 "buffer" cs2 (.ref ro1)) (q1817 : Exa Z h ro0 cs3) (q1825 : Fld Z h ro0 cs3 "head" "I" (.int 2)) (q1826 : Arl Z h ro1 (4 : Int32)) (q1829 : Arv Z h ro1 ck2 (.object "java/lang/Object") (4 : Int32) [(.ref ro3), (.ref ro4), (.ref ro5), (.ref ro6)] .null) :
    Con l Z yM17 prog_50_method_4_code 2 (some (.object "java/lang/Object")) ({ frames := 1, cells := 0, slots := 0, locals := 15 } : Room) #[(.ref ro0), (.int 1)] h (fun v h' L => v = some (.ref ro6) ∧ h' = h ∧ L = []) := by
  have hw := B.1
  refine Con.of (plainFor_of_name pn17) (Ls := #[vR ro0, vI 1]) (fun _ => rfl) ?_
  intro p e s m below meth c T0 X0 H hml hZ hown hnm hret hlk e0
  have N0 := Fr.nil Z.heap.size
  refine gAloadN X0 H d17_0 rfl rfl 1 rfl ?_
  refine gGetF X0 H hZ hown (hw _ wd96) Via.refl e0 q1815 d17_1 4 rfl ?_
  intro T1816 X1816 e1816
  refine gAloadN X1816 H d17_4 rfl rfl 5 rfl ?_
  refine gIloadN X1816 H d17_5 rfl 6 rfl ?_
  refine gPrivate X1816 H hZ hown (hw _ wd121) (hw _ wd122) (hw _ wd123) (hw _ wd65) (by decide) q1817 (hw _ wd124) (hw _ wd66) (rm1824_18 B ro0 ro1 _ O q1825 q1815 q1826) e1816 hml rfl pd6 rfl (W := 1) (argsL := [(.int 1)]) (rest := [(.ref ro1)]) rfl rfl d17_6 9 rfl ?_
  intro v1827 T1827 L1827 hq1827 X1827
  obtain ⟨rfl, e1827, rfl⟩ := hq1827
  have N1827 := Fr.app N0 (Fr.nil _)
  show Go _ _ _ _ (State.setTop _ (mkF _ 9 _ [(.int 3), (.ref ro1)]))
  refine gAaload X1827 H hZ e1827 rfl q1829 ⟨by decide, by decide⟩ (v := (.ref ro6)) rfl d17_9 10 rfl ?_
  exact gRetA X1827 H hlk hret rfl rfl rfl d17_10 e1827 ⟨rfl, rfl, rfl⟩
theorem rm1852_18 (B : Bg Z a0 wE0 w_cacheI k_wE0 cl_cacheI) (ro0 ro1 : Addr) (h : Heap) (O : Ext Z.heap h) (q1844 : Fld Z h ro0 cs3 "head" "I" (.int 2)) (q1846 : Fld Z h ro0 cs3 "buffer" cs2 (.ref ro1)) (q1849 : Arl Z h ro1 (4 : Int32)) :
    Con l Z yM18 prog_50_method_12_code 3 (some .int) ({ frames := 0, cells := 0, slots := 0, locals := 0 } : Room) #[(.ref ro0), (.int 2)] h (fun v h' L => v = some (.int 0) ∧ h' = h ∧ L = []) := by
  have hw := B.1
  refine Con.of (plainFor_of_name pn18) (Ls := #[vR ro0, vI 2, .unset]) (fun _ => rfl) ?_
  intro p e s m below meth c T0 X0 H hml hZ hown hnm hret hlk e0
  refine gAloadN X0 H d18_0 rfl rfl 1 rfl ?_
  refine gGetF X0 H hZ hown (hw _ wd125) Via.refl e0 q1844 d18_1 4 rfl ?_
  intro T1845 X1845 e1845
  refine gIloadN X1845 H d18_4 rfl 5 rfl ?_
  refine g_iadd X1845 H d18_5 (z := 4) (by decide) 6 rfl ?_
  refine gIstoreN X1845 H d18_6 (Ls' := #[vR ro0, vI 2, vI 4]) rfl 7 rfl ?_
  refine gIloadN X1845 H d18_7 rfl 8 rfl ?_
  refine gAloadN X1845 H d18_8 rfl rfl 9 rfl ?_
  refine gGetF X1845 H hZ hown (hw _ wd96) Via.refl e1845 q1846 d18_9 12 rfl ?_
  intro T1847 X1847 e1847
  refine gLen X1847 H hZ e1847 q1849 d18_12 13 rfl ?_
  refine gCmpY X1847 H d18_13 (by decide) (by decide) 20 rfl ?_
  refine gIloadN X1847 H d18_20 rfl 21 rfl ?_
  refine gAloadN X1847 H d18_21 rfl rfl 22 rfl ?_
  refine gGetF X1847 H hZ hown (hw _ wd96) Via.refl e1847 q1846 d18_22 25 rfl ?_
  intro T1850 X1850 e1850
  refine gLen X1850 H hZ e1850 q1849 d18_25 26 rfl ?_
  refine g_isub X1850 H d18_26 (z := 0) (by decide) 27 rfl ?_
  exact gRetI X1850 H hlk hret d18_27 e1850 ⟨rfl, rfl, rfl⟩
theorem rm1858_17 (B : Bg Z a0 wE0 w_cacheI k_wE0 cl_cacheI) (ro0 ro1 : Addr) (ck2 : ClassId) (ro3 ro4 ro5 ro6 : Addr) (h : Heap) (O : Ext Z.heap h) (q1841 : Fld Z h ro0 cs3 "buffer" cs2 (.ref ro1)) (q1843 : Exa Z h ro0 cs3) (q1853 : Fld Z h ro0 cs3 "head" "I" (.int 2)) (q1854 : Arl Z h ro1 (4 : Int32)) (q1857 : Arv Z h ro1 ck2 (.object "java/lang/Object") (4 : Int32) [(.ref ro3), (.ref ro4), (.ref ro5), (.ref ro6)] .null) :
    Con l Z yM17 prog_50_method_4_code 2 (some (.object "java/lang/Object")) ({ frames := 1, cells := 0, slots := 0, locals := 15 } : Room) #[(.ref ro0), (.int 2)] h (fun v h' L => v = some (.ref ro3) ∧ h' = h ∧ L = []) := by
  have hw := B.1
  refine Con.of (plainFor_of_name pn17) (Ls := #[vR ro0, vI 2]) (fun _ => rfl) ?_
  intro p e s m below meth c T0 X0 H hml hZ hown hnm hret hlk e0
  have N0 := Fr.nil Z.heap.size
  refine gAloadN X0 H d17_0 rfl rfl 1 rfl ?_
  refine gGetF X0 H hZ hown (hw _ wd96) Via.refl e0 q1841 d17_1 4 rfl ?_
  intro T1842 X1842 e1842
  refine gAloadN X1842 H d17_4 rfl rfl 5 rfl ?_
  refine gIloadN X1842 H d17_5 rfl 6 rfl ?_
  refine gPrivate X1842 H hZ hown (hw _ wd121) (hw _ wd122) (hw _ wd123) (hw _ wd65) (by decide) q1843 (hw _ wd124) (hw _ wd66) (rm1852_18 B ro0 ro1 _ O q1853 q1841 q1854) e1842 hml rfl pd6 rfl (W := 1) (argsL := [(.int 2)]) (rest := [(.ref ro1)]) rfl rfl d17_6 9 rfl ?_
  intro v1855 T1855 L1855 hq1855 X1855
  obtain ⟨rfl, e1855, rfl⟩ := hq1855
  have N1855 := Fr.app N0 (Fr.nil _)
  show Go _ _ _ _ (State.setTop _ (mkF _ 9 _ [(.int 0), (.ref ro1)]))
  refine gAaload X1855 H hZ e1855 rfl q1857 ⟨by decide, by decide⟩ (v := (.ref ro3)) rfl d17_9 10 rfl ?_
  exact gRetA X1855 H hlk hret rfl rfl rfl d17_10 e1855 ⟨rfl, rfl, rfl⟩
theorem rm1880_18 (B : Bg Z a0 wE0 w_cacheI k_wE0 cl_cacheI) (ro0 ro1 : Addr) (h : Heap) (O : Ext Z.heap h) (q1872 : Fld Z h ro0 cs3 "head" "I" (.int 2)) (q1874 : Fld Z h ro0 cs3 "buffer" cs2 (.ref ro1)) (q1877 : Arl Z h ro1 (4 : Int32)) :
    Con l Z yM18 prog_50_method_12_code 3 (some .int) ({ frames := 0, cells := 0, slots := 0, locals := 0 } : Room) #[(.ref ro0), (.int 3)] h (fun v h' L => v = some (.int 1) ∧ h' = h ∧ L = []) := by
  have hw := B.1
  refine Con.of (plainFor_of_name pn18) (Ls := #[vR ro0, vI 3, .unset]) (fun _ => rfl) ?_
  intro p e s m below meth c T0 X0 H hml hZ hown hnm hret hlk e0
  refine gAloadN X0 H d18_0 rfl rfl 1 rfl ?_
  refine gGetF X0 H hZ hown (hw _ wd125) Via.refl e0 q1872 d18_1 4 rfl ?_
  intro T1873 X1873 e1873
  refine gIloadN X1873 H d18_4 rfl 5 rfl ?_
  refine g_iadd X1873 H d18_5 (z := 5) (by decide) 6 rfl ?_
  refine gIstoreN X1873 H d18_6 (Ls' := #[vR ro0, vI 3, vI 5]) rfl 7 rfl ?_
  refine gIloadN X1873 H d18_7 rfl 8 rfl ?_
  refine gAloadN X1873 H d18_8 rfl rfl 9 rfl ?_
  refine gGetF X1873 H hZ hown (hw _ wd96) Via.refl e1873 q1874 d18_9 12 rfl ?_
  intro T1875 X1875 e1875
  refine gLen X1875 H hZ e1875 q1877 d18_12 13 rfl ?_
  refine gCmpY X1875 H d18_13 (by decide) (by decide) 20 rfl ?_
  refine gIloadN X1875 H d18_20 rfl 21 rfl ?_
  refine gAloadN X1875 H d18_21 rfl rfl 22 rfl ?_
  refine gGetF X1875 H hZ hown (hw _ wd96) Via.refl e1875 q1874 d18_22 25 rfl ?_
  intro T1878 X1878 e1878
  refine gLen X1878 H hZ e1878 q1877 d18_25 26 rfl ?_
  refine g_isub X1878 H d18_26 (z := 1) (by decide) 27 rfl ?_
  exact gRetI X1878 H hlk hret d18_27 e1878 ⟨rfl, rfl, rfl⟩
theorem rm1886_17 (B : Bg Z a0 wE0 w_cacheI k_wE0 cl_cacheI) (ro0 ro1 : Addr) (ck2 : ClassId) (ro3 ro4 ro5 ro6 : Addr) (h : Heap) (O : Ext Z.heap h) (q1869 : Fld Z h ro0 cs3 "buffer" cs2 (.ref ro1)) (q1871 : Exa Z h ro0 cs3) (q1881 : Fld Z h ro0 cs3 "head" "I" (.int 2)) (q1882 : Arl Z h ro1 (4 : Int32)) (q1885 : Arv Z h ro1 ck2 (.object "java/lang/Object") (4 : Int32) [(.ref ro3), (.ref ro4), (.ref ro5), (.ref ro6)] .null) :
    Con l Z yM17 prog_50_method_4_code 2 (some (.object "java/lang/Object")) ({ frames := 1, cells := 0, slots := 0, locals := 15 } : Room) #[(.ref ro0), (.int 3)] h (fun v h' L => v = some (.ref ro4) ∧ h' = h ∧ L = []) := by
  have hw := B.1
  refine Con.of (plainFor_of_name pn17) (Ls := #[vR ro0, vI 3]) (fun _ => rfl) ?_
  intro p e s m below meth c T0 X0 H hml hZ hown hnm hret hlk e0
  have N0 := Fr.nil Z.heap.size
  refine gAloadN X0 H d17_0 rfl rfl 1 rfl ?_
  refine gGetF X0 H hZ hown (hw _ wd96) Via.refl e0 q1869 d17_1 4 rfl ?_
  intro T1870 X1870 e1870
  refine gAloadN X1870 H d17_4 rfl rfl 5 rfl ?_
  refine gIloadN X1870 H d17_5 rfl 6 rfl ?_
  refine gPrivate X1870 H hZ hown (hw _ wd121) (hw _ wd122) (hw _ wd123) (hw _ wd65) (by decide) q1871 (hw _ wd124) (hw _ wd66) (rm1880_18 B ro0 ro1 _ O q1881 q1869 q1882) e1870 hml rfl pd6 rfl (W := 1) (argsL := [(.int 3)]) (rest := [(.ref ro1)]) rfl rfl d17_6 9 rfl ?_
  intro v1883 T1883 L1883 hq1883 X1883
  obtain ⟨rfl, e1883, rfl⟩ := hq1883
  have N1883 := Fr.app N0 (Fr.nil _)
  show Go _ _ _ _ (State.setTop _ (mkF _ 9 _ [(.int 1), (.ref ro1)]))
  refine gAaload X1883 H hZ e1883 rfl q1885 ⟨by decide, by decide⟩ (v := (.ref ro4)) rfl d17_9 10 rfl ?_
  exact gRetA X1883 H hlk hret rfl rfl rfl d17_10 e1883 ⟨rfl, rfl, rfl⟩
theorem rm1918_21 (B : Bg Z a0 wE0 w_cacheI k_wE0 cl_cacheI) (ro0 ro1 : Addr) (ck2 : ClassId) (ro3 ro4 ro5 ro6 : Addr) (h : Heap) (O : Ext Z.heap h) (q1777 : Fld Z h ro0 cs3 "size" "I" (.int 4)) (q1779 : Fld Z h ro0 cs3 "buffer" cs2 (.ref ro1)) (q1782 : Arl Z h ro1 (4 : Int32)) (q1791 : Exa Z h ro0 cs3) (q1803 : Fld Z h ro0 cs3 "head" "I" (.int 2)) (q1806 : Arv Z h ro1 ck2 (.object "java/lang/Object") (4 : Int32) [(.ref ro3), (.ref ro4), (.ref ro5), (.ref ro6)] .null) (q1810 : Exa Z h ro5 cs4) (q1836 : Exa Z h ro6 cs4) (q1864 : Exa Z h ro3 cs4) (q1892 : Exa Z h ro4 cs4) (q1899 : Z.heap.size ≤ ro0) (q1906 : Fld Z h ro0 cs3 "serial" "I" (.int 1)) (q1908 : Fld Z h ro0 cs3 "firstNumber" "J" (.long (-2))) :
    Con l Z yM21 prog_50_method_13_code 4 none ({ frames := 2, cells := 1, slots := 8, locals := 30 } : Room) #[(.ref ro0)] h (fun v h' L => ∃ (b1788 : Addr) (k1788 : ClassId), v = none ∧ Fr Z.heap.size L ∧ Keep h h' [ro0] ∧ h.size ≤ b1788 ∧ Fld Z h' ro0 cs3 "size" "I" (.int 4) ∧ Fld Z h' ro0 cs3 "buffer" cs2 (.ref b1788) ∧ Arv Z h' b1788 k1788 (.object "java/lang/Object") (8 : Int32) [(.ref ro5), (.ref ro6), (.ref ro3), (.ref ro4), .null, .null, .null, .null] .null ∧ Exa Z h' ro0 cs3 ∧ Fld Z h' ro0 cs3 "head" "I" (.int 0) ∧ Fld Z h' ro0 cs3 "serial" "I" (.int 1) ∧ Fld Z h' ro0 cs3 "firstNumber" "J" (.long (-2)) ∧ Ovr Z k1788 "java/lang/Object") := by
  have hw := B.1
  refine Con.of (plainFor_of_name pn21) (Ls := #[vR ro0, .unset, .unset, .unset]) (fun _ => rfl) ?_
  intro p e s m below meth c T0 X0 H hml hZ hown hnm hret hlk e0
  have M0 := Nat.le_refl h.size
  have N0 := Fr.nil Z.heap.size
  refine gAloadN X0 H d21_0 rfl rfl 1 rfl ?_
  refine gGetF X0 H hZ hown (hw _ wd98) Via.refl e0 q1777 d21_1 4 rfl ?_
  intro T1778 X1778 e1778
  refine gAloadN X1778 H d21_4 rfl rfl 5 rfl ?_
  refine gGetF X1778 H hZ hown (hw _ wd96) Via.refl e1778 q1779 d21_5 8 rfl ?_
  intro T1780 X1780 e1780
  refine gLen X1780 H hZ e1780 q1782 d21_8 9 rfl ?_
  refine gCmpY X1780 H d21_9 (by decide) (by decide) 13 rfl ?_
  refine gLdc2 X1780 H hZ hown (hw _ wd139) d21_13 16 rfl ?_
  refine gAloadN X1780 H d21_16 rfl rfl 17 rfl ?_
  refine gGetF X1780 H hZ hown (hw _ wd96) Via.refl e1780 q1779 d21_17 20 rfl ?_
  intro T1783 X1783 e1783
  refine gLen X1783 H hZ e1783 q1782 d21_20 21 rfl ?_
  refine g_i2l X1783 H d21_21 (z := 4) (by decide) 22 rfl ?_
  refine g_lmul X1783 H d21_22 (z := 8) (by decide) 23 rfl ?_
  refine gLdc2 X1783 H hZ hown (hw _ wd140) d21_23 26 rfl ?_
  refine gStatic X1783 H hZ hown (hw _ wd141) (hw _ wd142) (by decide) (hw _ wd143) (hw _ wd59) (rm1785_22 B _ O) e1783 hml rfl pd10 rfl (W := 0) (argsL := [(.long 8), (.long 2147483639)]) (rest := []) rfl rfl d21_26 29 rfl ?_
  intro v1786 T1786 L1786 hq1786 X1786
  obtain ⟨rfl, e1786, rfl⟩ := hq1786
  have N1786 := Fr.app N0 (Fr.nil _)
  show Go _ _ _ _ (State.setTop _ (mkF _ 29 _ [(.long 8)]))
  refine g_l2i X1786 H d21_29 (z := 8) (by decide) 30 rfl ?_
  refine gIstoreN X1786 H d21_30 (Ls' := #[vR ro0, vI 8, .unset, .unset]) rfl 31 rfl ?_
  refine gIloadN X1786 H d21_31 rfl 32 rfl ?_
  refine gAloadN X1786 H d21_32 rfl rfl 33 rfl ?_
  refine gGetF X1786 H hZ hown (hw _ wd98) Via.refl e1786 q1777 d21_33 36 rfl ?_
  intro T1787 X1787 e1787
  refine gCmpY X1787 H d21_36 (by decide) (by decide) 49 rfl ?_
  refine gIloadN X1787 H d21_49 rfl 50 rfl ?_
  refine gNewR X1787 H hZ hown (hw _ wd83) (hw _ wd62) e1787 (by decide) (cap := 8) (by decide) (by decide) (vs := [.null, .null, .null, .null, .null, .null, .null, .null]) rfl (by decide) (by decide) d21_50 53 rfl ?_
  intro T1788 h1788 b1788 k1788 X1788 e1788 z1788 E1788 V1788 Q1788
  have G_b1788 := Nat.le_trans O.1 (Nat.le_of_eq z1788)
  have sz_b1788 := Nat.le_trans M0 (Nat.le_of_eq z1788)
  have O1788 := extT O E1788
  refine gAstoreN X1788 H d21_53 rfl (Ls' := #[vR ro0, vI 8, vR b1788, .unset]) rfl 54 rfl ?_
  refine gIconst X1788 H d21_54 (z := 0) rfl 55 rfl ?_
  refine gIstoreN X1788 H d21_55 (Ls' := #[vR ro0, vI 8, vR b1788, vI 0]) rfl 56 rfl ?_
  refine gIloadN X1788 H d21_56 rfl 57 rfl ?_
  refine gAloadN X1788 H d21_57 rfl rfl 58 rfl ?_
  have c1789 := (q1777.ext E1788)
  refine gGetF X1788 H hZ hown (hw _ wd98) Via.refl e1788 c1789 d21_58 61 rfl ?_
  intro T1790 X1790 e1790
  refine gCmpN X1790 H d21_61 (by decide) 64 rfl ?_
  refine gAloadN X1790 H d21_64 rfl rfl 65 rfl ?_
  refine gIloadN X1790 H d21_65 rfl 66 rfl ?_
  refine gAloadN X1790 H d21_66 rfl rfl 67 rfl ?_
  refine gIloadN X1790 H d21_67 rfl 68 rfl ?_
  have c1792 := (q1791.ext E1788)
  have c1802 := (q1779.ext E1788)
  have c1804 := (q1803.ext E1788)
  have c1805 := (q1782.ext E1788)
  have c1807 := (q1806.ext E1788)
  refine gVirt X1790 H hZ hown (hw _ wd116) (hw _ wd117) (hw _ wd119) (hw _ wd118) (by decide) c1792 (hw _ wd120) (hw _ wd66) (rm1801_17 B ro0 ro1 ck2 ro3 ro4 ro5 ro6 _ O1788 c1802 c1792 c1804 c1805 c1807) e1790 hml rfl pd11 rfl (W := 2) (argsL := [(.int 0)]) (rest := [(.int 0), (.ref b1788)]) rfl rfl d21_68 71 rfl ?_
  intro v1808 T1808 L1808 hq1808 X1808
  obtain ⟨rfl, e1808, rfl⟩ := hq1808
  have N1808 := Fr.app N1786 (Fr.nil _)
  show Go _ _ _ _ (State.setTop _ (mkF _ 71 _ [(.ref ro5), (.int 0), (.ref b1788)]))
  have c1811 := (q1810.ext E1788)
  refine gAastore X1808 H hZ e1808 rfl (stoV V1788 Q1788 (Ins.of_exa c1811 (hw _ wd63))) V1788 ⟨by decide, by decide⟩ (i := 0) rfl (Nat.le_of_ble_eq_true rfl) (vs' := [(.ref ro5), .null, .null, .null, .null, .null, .null, .null]) rfl d21_71 72 rfl ?_
  intro T1809 h1809 X1809 e1809 W1809 V1809
  have O1809 := extW O1788 W1809 G_b1788
  have N1809 := Fr.snoc X1809 N1808 G_b1788
  refine gIinc X1809 H d21_72 rfl (Ls' := #[vR ro0, vI 8, vR b1788, vI 1]) rfl 75 rfl ?_
  refine gGoto X1809 H d21_75 (by decide) 56 rfl ?_
  refine gIloadN X1809 H d21_56 rfl 57 rfl ?_
  refine gAloadN X1809 H d21_57 rfl rfl 58 rfl ?_
  have c1812 := (c1789.other W1809 (Or.inl (neB q1777.lt sz_b1788)))
  refine gGetF X1809 H hZ hown (hw _ wd98) Via.refl e1809 c1812 d21_58 61 rfl ?_
  intro T1813 X1813 e1813
  refine gCmpN X1813 H d21_61 (by decide) 64 rfl ?_
  refine gAloadN X1813 H d21_64 rfl rfl 65 rfl ?_
  refine gIloadN X1813 H d21_65 rfl 66 rfl ?_
  refine gAloadN X1813 H d21_66 rfl rfl 67 rfl ?_
  refine gIloadN X1813 H d21_67 rfl 68 rfl ?_
  have c1814 := (c1792.wr W1809)
  have c1831 := (c1802.other W1809 (Or.inl (neB q1777.lt sz_b1788)))
  have c1832 := (c1804.other W1809 (Or.inl (neB q1777.lt sz_b1788)))
  have c1833 := (c1807.other W1809 (neB q1782.lt sz_b1788))
  refine gVirt X1813 H hZ hown (hw _ wd116) (hw _ wd117) (hw _ wd119) (hw _ wd118) (by decide) c1814 (hw _ wd120) (hw _ wd66) (rm1830_17 B ro0 ro1 ck2 ro3 ro4 ro5 ro6 _ O1809 c1831 c1814 c1832 (Arv.arl c1833) c1833) e1813 hml rfl pd11 rfl (W := 2) (argsL := [(.int 1)]) (rest := [(.int 1), (.ref b1788)]) rfl rfl d21_68 71 rfl ?_
  intro v1834 T1834 L1834 hq1834 X1834
  obtain ⟨rfl, e1834, rfl⟩ := hq1834
  have N1834 := Fr.app N1809 (Fr.nil _)
  show Go _ _ _ _ (State.setTop _ (mkF _ 71 _ [(.ref ro6), (.int 1), (.ref b1788)]))
  have c1837 := ((q1836.ext E1788).wr W1809)
  refine gAastore X1834 H hZ e1834 rfl (stoV V1809 Q1788 (Ins.of_exa c1837 (hw _ wd63))) V1809 ⟨by decide, by decide⟩ (i := 1) rfl (Nat.le_of_ble_eq_true rfl) (vs' := [(.ref ro5), (.ref ro6), .null, .null, .null, .null, .null, .null]) rfl d21_71 72 rfl ?_
  intro T1835 h1835 X1835 e1835 W1835 V1835
  have O1835 := extW O1809 W1835 G_b1788
  have N1835 := Fr.snoc X1835 N1834 G_b1788
  refine gIinc X1835 H d21_72 rfl (Ls' := #[vR ro0, vI 8, vR b1788, vI 2]) rfl 75 rfl ?_
  refine gGoto X1835 H d21_75 (by decide) 56 rfl ?_
  refine gIloadN X1835 H d21_56 rfl 57 rfl ?_
  refine gAloadN X1835 H d21_57 rfl rfl 58 rfl ?_
  have c1838 := (c1812.other W1835 (Or.inl (neB q1777.lt sz_b1788)))
  refine gGetF X1835 H hZ hown (hw _ wd98) Via.refl e1835 c1838 d21_58 61 rfl ?_
  intro T1839 X1839 e1839
  refine gCmpN X1839 H d21_61 (by decide) 64 rfl ?_
  refine gAloadN X1839 H d21_64 rfl rfl 65 rfl ?_
  refine gIloadN X1839 H d21_65 rfl 66 rfl ?_
  refine gAloadN X1839 H d21_66 rfl rfl 67 rfl ?_
  refine gIloadN X1839 H d21_67 rfl 68 rfl ?_
  have c1840 := (c1814.wr W1835)
  have c1859 := (c1831.other W1835 (Or.inl (neB q1777.lt sz_b1788)))
  have c1860 := (c1832.other W1835 (Or.inl (neB q1777.lt sz_b1788)))
  have c1861 := (c1833.other W1835 (neB q1782.lt sz_b1788))
  refine gVirt X1839 H hZ hown (hw _ wd116) (hw _ wd117) (hw _ wd119) (hw _ wd118) (by decide) c1840 (hw _ wd120) (hw _ wd66) (rm1858_17 B ro0 ro1 ck2 ro3 ro4 ro5 ro6 _ O1835 c1859 c1840 c1860 (Arv.arl c1861) c1861) e1839 hml rfl pd11 rfl (W := 2) (argsL := [(.int 2)]) (rest := [(.int 2), (.ref b1788)]) rfl rfl d21_68 71 rfl ?_
  intro v1862 T1862 L1862 hq1862 X1862
  obtain ⟨rfl, e1862, rfl⟩ := hq1862
  have N1862 := Fr.app N1835 (Fr.nil _)
  show Go _ _ _ _ (State.setTop _ (mkF _ 71 _ [(.ref ro3), (.int 2), (.ref b1788)]))
  have c1865 := (((q1864.ext E1788).wr W1809).wr W1835)
  refine gAastore X1862 H hZ e1862 rfl (stoV V1835 Q1788 (Ins.of_exa c1865 (hw _ wd63))) V1835 ⟨by decide, by decide⟩ (i := 2) rfl (Nat.le_of_ble_eq_true rfl) (vs' := [(.ref ro5), (.ref ro6), (.ref ro3), .null, .null, .null, .null, .null]) rfl d21_71 72 rfl ?_
  intro T1863 h1863 X1863 e1863 W1863 V1863
  have O1863 := extW O1835 W1863 G_b1788
  have N1863 := Fr.snoc X1863 N1862 G_b1788
  refine gIinc X1863 H d21_72 rfl (Ls' := #[vR ro0, vI 8, vR b1788, vI 3]) rfl 75 rfl ?_
  refine gGoto X1863 H d21_75 (by decide) 56 rfl ?_
  refine gIloadN X1863 H d21_56 rfl 57 rfl ?_
  refine gAloadN X1863 H d21_57 rfl rfl 58 rfl ?_
  have c1866 := (c1838.other W1863 (Or.inl (neB q1777.lt sz_b1788)))
  refine gGetF X1863 H hZ hown (hw _ wd98) Via.refl e1863 c1866 d21_58 61 rfl ?_
  intro T1867 X1867 e1867
  refine gCmpN X1867 H d21_61 (by decide) 64 rfl ?_
  refine gAloadN X1867 H d21_64 rfl rfl 65 rfl ?_
  refine gIloadN X1867 H d21_65 rfl 66 rfl ?_
  refine gAloadN X1867 H d21_66 rfl rfl 67 rfl ?_
  refine gIloadN X1867 H d21_67 rfl 68 rfl ?_
  have c1868 := (c1840.wr W1863)
  have c1887 := (c1859.other W1863 (Or.inl (neB q1777.lt sz_b1788)))
  have c1888 := (c1860.other W1863 (Or.inl (neB q1777.lt sz_b1788)))
  have c1889 := (c1861.other W1863 (neB q1782.lt sz_b1788))
  refine gVirt X1867 H hZ hown (hw _ wd116) (hw _ wd117) (hw _ wd119) (hw _ wd118) (by decide) c1868 (hw _ wd120) (hw _ wd66) (rm1886_17 B ro0 ro1 ck2 ro3 ro4 ro5 ro6 _ O1863 c1887 c1868 c1888 (Arv.arl c1889) c1889) e1867 hml rfl pd11 rfl (W := 2) (argsL := [(.int 3)]) (rest := [(.int 3), (.ref b1788)]) rfl rfl d21_68 71 rfl ?_
  intro v1890 T1890 L1890 hq1890 X1890
  obtain ⟨rfl, e1890, rfl⟩ := hq1890
  have N1890 := Fr.app N1863 (Fr.nil _)
  show Go _ _ _ _ (State.setTop _ (mkF _ 71 _ [(.ref ro4), (.int 3), (.ref b1788)]))
  have c1893 := ((((q1892.ext E1788).wr W1809).wr W1835).wr W1863)
  refine gAastore X1890 H hZ e1890 rfl (stoV V1863 Q1788 (Ins.of_exa c1893 (hw _ wd63))) V1863 ⟨by decide, by decide⟩ (i := 3) rfl (Nat.le_of_ble_eq_true rfl) (vs' := [(.ref ro5), (.ref ro6), (.ref ro3), (.ref ro4), .null, .null, .null, .null]) rfl d21_71 72 rfl ?_
  intro T1891 h1891 X1891 e1891 W1891 V1891
  have O1891 := extW O1863 W1891 G_b1788
  have N1891 := Fr.snoc X1891 N1890 G_b1788
  refine gIinc X1891 H d21_72 rfl (Ls' := #[vR ro0, vI 8, vR b1788, vI 4]) rfl 75 rfl ?_
  refine gGoto X1891 H d21_75 (by decide) 56 rfl ?_
  refine gIloadN X1891 H d21_56 rfl 57 rfl ?_
  refine gAloadN X1891 H d21_57 rfl rfl 58 rfl ?_
  have c1894 := (c1866.other W1891 (Or.inl (neB q1777.lt sz_b1788)))
  refine gGetF X1891 H hZ hown (hw _ wd98) Via.refl e1891 c1894 d21_58 61 rfl ?_
  intro T1895 X1895 e1895
  refine gCmpY X1895 H d21_61 (by decide) (by decide) 78 rfl ?_
  refine gAloadN X1895 H d21_78 rfl rfl 79 rfl ?_
  refine gAloadN X1895 H d21_79 rfl rfl 80 rfl ?_
  have c1897 := (c1868.wr W1891)
  have c1898 := (c1887.other W1891 (Or.inl (neB q1777.lt sz_b1788)))
  refine gPutF X1895 H hZ hown (hw _ wd96) Via.refl e1895 c1898 c1897 (Or.inl (hw _ wd97)) (hw _ wd65) (ty := (.array (.object "java/lang/Object"))) (by decide) (v' := (.ref b1788)) rfl rfl d21_80 83 rfl ?_
  intro T1896 h1896 X1896 e1896 W1896 F1896
  have O1896 := extW O1891 W1896 q1899
  have N1896 := Fr.snoc X1896 N1891 q1899
  refine gAloadN X1896 H d21_83 rfl rfl 84 rfl ?_
  refine gIconst X1896 H d21_84 (z := 0) rfl 85 rfl ?_
  have c1901 := (c1897.wr W1896)
  have c1902 := ((c1888.other W1891 (Or.inl (neB q1777.lt sz_b1788))).other W1896 (Or.inr (sn14 hw)))
  refine gPutF X1896 H hZ hown (hw _ wd125) Via.refl e1896 c1902 c1901 (Or.inl (hw _ wd126)) (hw _ wd65) (ty := .int) (by decide) (v' := (.int 0)) rfl rfl d21_85 88 rfl ?_
  intro T1900 h1900 X1900 e1900 W1900 F1900
  have O1900 := extW O1896 W1900 q1899
  have N1900 := Fr.snoc X1900 N1896 q1899
  have c1903 := ((c1894.other W1896 (Or.inr (sn6 hw))).other W1900 (Or.inr (sn16 hw)))
  have c1904 := (F1896.other W1900 (Or.inr (sn18 hw)))
  have c1905 := (c1901.wr W1900)
  have c1907 := (((((((q1906.ext E1788).other W1809 (Or.inl (neB q1777.lt sz_b1788))).other W1835 (Or.inl (neB q1777.lt sz_b1788))).other W1863 (Or.inl (neB q1777.lt sz_b1788))).other W1891 (Or.inl (neB q1777.lt sz_b1788))).other W1896 (Or.inr (sn7 hw))).other W1900 (Or.inr (sn22 hw)))
  have c1909 := (((((((q1908.ext E1788).other W1809 (Or.inl (neB q1777.lt sz_b1788))).other W1835 (Or.inl (neB q1777.lt sz_b1788))).other W1863 (Or.inl (neB q1777.lt sz_b1788))).other W1891 (Or.inl (neB q1777.lt sz_b1788))).other W1896 (Or.inr (sn11 hw))).other W1900 (Or.inr (sn17 hw)))
  have c1910 := ((V1891.other W1896 (Ne.symm (neB q1777.lt sz_b1788))).other W1900 (Ne.symm (neB q1777.lt sz_b1788)))
  have K_1911 := (Keep.refl h [ro0]).ext E1788
  have K_1912 := K_1911.wr W1809 (Or.inr sz_b1788)
  have K_1913 := K_1912.wr W1835 (Or.inr sz_b1788)
  have K_1914 := K_1913.wr W1863 (Or.inr sz_b1788)
  have K_1915 := K_1914.wr W1891 (Or.inr sz_b1788)
  have K_1916 := K_1915.wr W1896 (Or.inl (List.mem_of_getElem? (i := 0) rfl))
  have K_1917 := K_1916.wr W1900 (Or.inl (List.mem_of_getElem? (i := 0) rfl))
  exact gRetV X1900 H hlk hret d21_88 e1900 ⟨b1788, k1788, rfl, N1900, K_1917, sz_b1788, c1903, c1904, c1910, c1905, F1900, c1907, c1909, Q1788⟩
theorem rm1940_18 (B : Bg Z a0 wE0 w_cacheI k_wE0 cl_cacheI) (ro0 ro1 : Addr) (h : Heap) (O : Ext Z.heap h) (q1934 : Fld Z h ro0 cs3 "head" "I" (.int 0)) (q1936 : Fld Z h ro0 cs3 "buffer" cs2 (.ref ro1)) (q1939 : Arl Z h ro1 (8 : Int32)) :
    Con l Z yM18 prog_50_method_12_code 3 (some .int) ({ frames := 0, cells := 0, slots := 0, locals := 0 } : Room) #[(.ref ro0), (.int 7)] h (fun v h' L => v = some (.int 7) ∧ h' = h ∧ L = []) := by
  have hw := B.1
  refine Con.of (plainFor_of_name pn18) (Ls := #[vR ro0, vI 7, .unset]) (fun _ => rfl) ?_
  intro p e s m below meth c T0 X0 H hml hZ hown hnm hret hlk e0
  refine gAloadN X0 H d18_0 rfl rfl 1 rfl ?_
  refine gGetF X0 H hZ hown (hw _ wd125) Via.refl e0 q1934 d18_1 4 rfl ?_
  intro T1935 X1935 e1935
  refine gIloadN X1935 H d18_4 rfl 5 rfl ?_
  refine g_iadd X1935 H d18_5 (z := 7) (by decide) 6 rfl ?_
  refine gIstoreN X1935 H d18_6 (Ls' := #[vR ro0, vI 7, vI 7]) rfl 7 rfl ?_
  refine gIloadN X1935 H d18_7 rfl 8 rfl ?_
  refine gAloadN X1935 H d18_8 rfl rfl 9 rfl ?_
  refine gGetF X1935 H hZ hown (hw _ wd96) Via.refl e1935 q1936 d18_9 12 rfl ?_
  intro T1937 X1937 e1937
  refine gLen X1937 H hZ e1937 q1939 d18_12 13 rfl ?_
  refine gCmpN X1937 H d18_13 (by decide) 16 rfl ?_
  refine gIloadN X1937 H d18_16 rfl 17 rfl ?_
  refine gGoto X1937 H d18_17 (by decide) 27 rfl ?_
  exact gRetI X1937 H hlk hret d18_27 e1937 ⟨rfl, rfl, rfl⟩
theorem rm1961_18 (B : Bg Z a0 wE0 w_cacheI k_wE0 cl_cacheI) (ro0 ro1 : Addr) (h : Heap) (O : Ext Z.heap h) (q1955 : Fld Z h ro0 cs3 "head" "I" (.int 7)) (q1957 : Fld Z h ro0 cs3 "buffer" cs2 (.ref ro1)) (q1960 : Arl Z h ro1 (8 : Int32)) :
    Con l Z yM18 prog_50_method_12_code 3 (some .int) ({ frames := 0, cells := 0, slots := 0, locals := 0 } : Room) #[(.ref ro0), (.int 0)] h (fun v h' L => v = some (.int 7) ∧ h' = h ∧ L = []) := by
  have hw := B.1
  refine Con.of (plainFor_of_name pn18) (Ls := #[vR ro0, vI 0, .unset]) (fun _ => rfl) ?_
  intro p e s m below meth c T0 X0 H hml hZ hown hnm hret hlk e0
  refine gAloadN X0 H d18_0 rfl rfl 1 rfl ?_
  refine gGetF X0 H hZ hown (hw _ wd125) Via.refl e0 q1955 d18_1 4 rfl ?_
  intro T1956 X1956 e1956
  refine gIloadN X1956 H d18_4 rfl 5 rfl ?_
  refine g_iadd X1956 H d18_5 (z := 7) (by decide) 6 rfl ?_
  refine gIstoreN X1956 H d18_6 (Ls' := #[vR ro0, vI 0, vI 7]) rfl 7 rfl ?_
  refine gIloadN X1956 H d18_7 rfl 8 rfl ?_
  refine gAloadN X1956 H d18_8 rfl rfl 9 rfl ?_
  refine gGetF X1956 H hZ hown (hw _ wd96) Via.refl e1956 q1957 d18_9 12 rfl ?_
  intro T1958 X1958 e1958
  refine gLen X1958 H hZ e1958 q1960 d18_12 13 rfl ?_
  refine gCmpN X1958 H d18_13 (by decide) 16 rfl ?_
  refine gIloadN X1958 H d18_16 rfl 17 rfl ?_
  refine gGoto X1958 H d18_17 (by decide) 27 rfl ?_
  exact gRetI X1958 H hlk hret d18_27 e1958 ⟨rfl, rfl, rfl⟩
theorem rm1971_23 (B : Bg Z a0 wE0 w_cacheI k_wE0 cl_cacheI) (ro0 ro1 ro2 : Addr) (ck3 : ClassId) (ro4 ro5 ro6 ro7 : Addr) (h : Heap) (O : Ext Z.heap h) (q1952 : Fld Z h ro0 cs3 "buffer" cs2 (.ref ro2)) (q1954 : Exa Z h ro0 cs3) (q1962 : Fld Z h ro0 cs3 "head" "I" (.int 7)) (q1963 : Arl Z h ro2 (8 : Int32)) (q1966 : Arv Z h ro2 ck3 (.object "java/lang/Object") (8 : Int32) [(.ref ro4), (.ref ro5), (.ref ro6), (.ref ro7), .null, .null, .null, .null] .null) (q1967 : Exa Z h ro1 cs4) (q1968 : Ovr Z ck3 "java/lang/Object") (q1969 : Z.heap.size ≤ ro2) :
    Con l Z yM23 prog_50_method_5_code 3 none ({ frames := 1, cells := 0, slots := 0, locals := 15 } : Room) #[(.ref ro0), (.int 0), (.ref ro1)] h (fun v h' L => v = none ∧ Fr Z.heap.size L ∧ Keep h h' [ro2] ∧ Arv Z h' ro2 ck3 (.object "java/lang/Object") (8 : Int32) [(.ref ro4), (.ref ro5), (.ref ro6), (.ref ro7), .null, .null, .null, (.ref ro1)] .null) := by
  have hw := B.1
  refine Con.of (plainFor_of_name pn23) (Ls := #[vR ro0, vI 0, vR ro1]) (fun _ => rfl) ?_
  intro p e s m below meth c T0 X0 H hml hZ hown hnm hret hlk e0
  have N0 := Fr.nil Z.heap.size
  refine gAloadN X0 H d23_0 rfl rfl 1 rfl ?_
  refine gGetF X0 H hZ hown (hw _ wd96) Via.refl e0 q1952 d23_1 4 rfl ?_
  intro T1953 X1953 e1953
  refine gAloadN X1953 H d23_4 rfl rfl 5 rfl ?_
  refine gIloadN X1953 H d23_5 rfl 6 rfl ?_
  refine gPrivate X1953 H hZ hown (hw _ wd121) (hw _ wd122) (hw _ wd123) (hw _ wd65) (by decide) q1954 (hw _ wd124) (hw _ wd66) (rm1961_18 B ro0 ro2 _ O q1962 q1952 q1963) e1953 hml rfl pd6 rfl (W := 1) (argsL := [(.int 0)]) (rest := [(.ref ro2)]) rfl rfl d23_6 9 rfl ?_
  intro v1964 T1964 L1964 hq1964 X1964
  obtain ⟨rfl, e1964, rfl⟩ := hq1964
  have N1964 := Fr.app N0 (Fr.nil _)
  show Go _ _ _ _ (State.setTop _ (mkF _ 9 _ [(.int 7), (.ref ro2)]))
  refine gAloadN X1964 H d23_9 rfl rfl 10 rfl ?_
  refine gAastore X1964 H hZ e1964 rfl (stoV q1966 q1968 (Ins.of_exa q1967 (hw _ wd63))) q1966 ⟨by decide, by decide⟩ (i := 7) rfl (Nat.le_of_ble_eq_true rfl) (vs' := [(.ref ro4), (.ref ro5), (.ref ro6), (.ref ro7), .null, .null, .null, (.ref ro1)]) rfl d23_10 11 rfl ?_
  intro T1965 h1965 X1965 e1965 W1965 V1965
  have O1965 := extW O W1965 q1969
  have N1965 := Fr.snoc X1965 N1964 q1969
  have K_1970 := (Keep.refl h [ro2]).wr W1965 (Or.inl (List.mem_of_getElem? (i := 0) rfl))
  exact gRetV X1965 H hlk hret d23_11 e1965 ⟨rfl, N1965, K_1970, V1965⟩
theorem rm1989_20 (B : Bg Z a0 wE0 w_cacheI k_wE0 cl_cacheI) (ro0 ro1 ro2 : Addr) (ck3 : ClassId) (ro4 ro5 ro6 ro7 : Addr) (h : Heap) (O : Ext Z.heap h) (q1776 : Exa Z h ro0 cs3) (q1919 : Fld Z h ro0 cs3 "size" "I" (.int 4)) (q1920 : Fld Z h ro0 cs3 "buffer" cs2 (.ref ro2)) (q1921 : Arl Z h ro2 (4 : Int32)) (q1922 : Fld Z h ro0 cs3 "head" "I" (.int 2)) (q1923 : Arv Z h ro2 ck3 (.object "java/lang/Object") (4 : Int32) [(.ref ro4), (.ref ro5), (.ref ro6), (.ref ro7)] .null) (q1924 : Exa Z h ro6 cs4) (q1925 : Exa Z h ro7 cs4) (q1926 : Exa Z h ro4 cs4) (q1927 : Exa Z h ro5 cs4) (q1928 : Z.heap.size ≤ ro0) (q1929 : Fld Z h ro0 cs3 "serial" "I" (.int 1)) (q1930 : Fld Z h ro0 cs3 "firstNumber" "J" (.long (-2))) (q1975 : Exa Z h ro1 cs4) :
    Con l Z yM20 prog_50_method_9_code 2 none ({ frames := 3, cells := 1, slots := 8, locals := 45 } : Room) #[(.ref ro0), (.ref ro1)] h (fun v h' L => ∃ (b1931_0 : Addr) (k1931_0 : ClassId), v = none ∧ Fr Z.heap.size L ∧ Keep h h' [ro0] ∧ h.size ≤ b1931_0 ∧ Exa Z h' ro0 cs3 ∧ Fld Z h' ro0 cs3 "size" "I" (.int 5) ∧ Fld Z h' ro0 cs3 "buffer" cs2 (.ref b1931_0) ∧ Fld Z h' ro0 cs3 "head" "I" (.int 7) ∧ Fld Z h' ro0 cs3 "serial" "I" (.int 1) ∧ Fld Z h' ro0 cs3 "firstNumber" "J" (.long (-3)) ∧ Arv Z h' b1931_0 k1931_0 (.object "java/lang/Object") (8 : Int32) [(.ref ro6), (.ref ro7), (.ref ro4), (.ref ro5), .null, .null, .null, (.ref ro1)] .null ∧ Ovr Z k1931_0 "java/lang/Object") := by
  have hw := B.1
  refine Con.of (plainFor_of_name pn20) (Ls := #[vR ro0, vR ro1]) (fun _ => rfl) ?_
  intro p e s m below meth c T0 X0 H hml hZ hown hnm hret hlk e0
  have M0 := Nat.le_refl h.size
  have N0 := Fr.nil Z.heap.size
  refine gAloadN X0 H d20_0 rfl rfl 1 rfl ?_
  refine gPrivate X0 H hZ hown (hw _ wd135) (hw _ wd136) (hw _ wd137) (hw _ wd65) (by decide) q1776 (hw _ wd138) (hw _ wd66) (rm1918_21 B ro0 ro2 ck3 ro4 ro5 ro6 ro7 _ O q1919 q1920 q1921 q1776 q1922 q1923 q1924 q1925 q1926 q1927 q1928 q1929 q1930) e0 hml rfl pd0 rfl (W := 0) (argsL := []) (rest := []) rfl rfl d20_1 4 rfl ?_
  intro v1931 T1931 L1931 hq1931 X1931
  obtain ⟨b1931_0, k1931_0, rfl, N1931q, K1931, s1931_0, f1931_0, f1931_1, f1931_2, f1931_3, f1931_4, f1931_5, f1931_6, f1931_7⟩ := hq1931
  have G_b1931_0 := Nat.le_trans O.1 s1931_0
  have sz_b1931_0 := Nat.le_trans M0 s1931_0
  have O1931 := extK O K1931 (allS q1928 all0)
  have N1931 := Fr.app N0 N1931q
  show Go _ _ _ _ (State.setTop _ (mkF _ 4 _ []))
  refine gAloadN X1931 H d20_4 rfl rfl 5 rfl ?_
  refine gAloadN X1931 H d20_5 rfl rfl 6 rfl ?_
  refine gAloadN X1931 H d20_6 rfl rfl 7 rfl ?_
  refine gGetF X1931 H hZ hown (hw _ wd96) Via.refl rfl f1931_1 d20_7 10 rfl ?_
  intro T1932 X1932 e1932
  refine gLen X1932 H hZ e1932 (Arv.arl f1931_2) d20_10 11 rfl ?_
  refine gIconst X1932 H d20_11 (z := 1) rfl 12 rfl ?_
  refine g_isub X1932 H d20_12 (z := 7) (by decide) 13 rfl ?_
  refine gPrivate X1932 H hZ hown (hw _ wd121) (hw _ wd122) (hw _ wd123) (hw _ wd65) (by decide) f1931_3 (hw _ wd124) (hw _ wd66) (rm1940_18 B ro0 b1931_0 _ O1931 f1931_4 f1931_1 (Arv.arl f1931_2)) e1932 hml rfl pd6 rfl (W := 1) (argsL := [(.int 7)]) (rest := [(.ref ro0)]) rfl rfl d20_13 16 rfl ?_
  intro v1941 T1941 L1941 hq1941 X1941
  obtain ⟨rfl, e1941, rfl⟩ := hq1941
  have N1941 := Fr.app N1931 (Fr.nil _)
  show Go _ _ _ _ (State.setTop _ (mkF _ 16 _ [(.int 7), (.ref ro0)]))
  refine gPutF X1941 H hZ hown (hw _ wd125) Via.refl e1941 f1931_4 f1931_3 (Or.inl (hw _ wd126)) (hw _ wd65) (ty := .int) (by decide) (v' := (.int 7)) rfl rfl d20_16 19 rfl ?_
  intro T1942 h1942 X1942 e1942 W1942 F1942
  have O1942 := extW O1931 W1942 q1928
  have N1942 := Fr.snoc X1942 N1941 q1928
  refine gAloadN X1942 H d20_19 rfl rfl 20 rfl ?_
  refine gDup X1942 H d20_20 rfl 21 rfl ?_
  have c1943 := (f1931_0.other W1942 (Or.inr (sn16 hw)))
  refine gGetF X1942 H hZ hown (hw _ wd98) Via.refl e1942 c1943 d20_21 24 rfl ?_
  intro T1944 X1944 e1944
  refine gIconst X1944 H d20_24 (z := 1) rfl 25 rfl ?_
  refine g_iadd X1944 H d20_25 (z := 5) (by decide) 26 rfl ?_
  have c1946 := (f1931_3.wr W1942)
  refine gPutF X1944 H hZ hown (hw _ wd98) Via.refl e1944 c1943 c1946 (Or.inl (hw _ wd99)) (hw _ wd65) (ty := .int) (by decide) (v' := (.int 5)) rfl rfl d20_26 29 rfl ?_
  intro T1945 h1945 X1945 e1945 W1945 F1945
  have O1945 := extW O1942 W1945 q1928
  have N1945 := Fr.snoc X1945 N1942 q1928
  refine gAloadN X1945 H d20_29 rfl rfl 30 rfl ?_
  refine gDup X1945 H d20_30 rfl 31 rfl ?_
  have c1947 := ((f1931_6.other W1942 (Or.inr (sn17 hw))).other W1945 (Or.inr (sn12 hw)))
  refine gGetF X1945 H hZ hown (hw _ wd105) Via.refl e1945 c1947 d20_31 34 rfl ?_
  intro T1948 X1948 e1948
  refine gLconst X1948 H d20_34 (z := 1) rfl 35 rfl ?_
  refine g_lsub X1948 H d20_35 (z := (-3)) (by decide) 36 rfl ?_
  have c1950 := (c1946.wr W1945)
  refine gPutF X1948 H hZ hown (hw _ wd105) Via.refl e1948 c1947 c1950 (Or.inl (hw _ wd106)) (hw _ wd65) (ty := .long) (by decide) (v' := (.long (-3))) rfl rfl d20_36 39 rfl ?_
  intro T1949 h1949 X1949 e1949 W1949 F1949
  have O1949 := extW O1945 W1949 q1928
  have N1949 := Fr.snoc X1949 N1945 q1928
  refine gAloadN X1949 H d20_39 rfl rfl 40 rfl ?_
  refine gIconst X1949 H d20_40 (z := 0) rfl 41 rfl ?_
  refine gAloadN X1949 H d20_41 rfl rfl 42 rfl ?_
  have c1951 := (c1950.wr W1949)
  have c1972 := (((f1931_1.other W1942 (Or.inr (sn18 hw))).other W1945 (Or.inr (sn9 hw))).other W1949 (Or.inr (sn19 hw)))
  have c1973 := ((F1942.other W1945 (Or.inr (sn15 hw))).other W1949 (Or.inr (sn20 hw)))
  have c1974 := (((f1931_2.other W1942 (Ne.symm (neB q1776.lt sz_b1931_0))).other W1945 (Ne.symm (neB q1776.lt sz_b1931_0))).other W1949 (Ne.symm (neB q1776.lt sz_b1931_0)))
  have c1976 := ((((q1975.keep K1931).wr W1942).wr W1945).wr W1949)
  refine gVirt X1949 H hZ hown (hw _ wd144) (hw _ wd145) (hw _ wd147) (hw _ wd146) (by decide) c1951 (hw _ wd148) (hw _ wd66) (rm1971_23 B ro0 ro1 b1931_0 k1931_0 ro6 ro7 ro4 ro5 _ O1949 c1972 c1951 c1973 (Arv.arl c1974) c1974 c1976 f1931_7 G_b1931_0) e1949 hml rfl pd7 rfl (W := 0) (argsL := [(.int 0), (.ref ro1)]) (rest := []) rfl rfl d20_42 45 rfl ?_
  intro v1977 T1977 L1977 hq1977 X1977
  obtain ⟨rfl, N1977q, K1977, f1977_0⟩ := hq1977
  have O1977 := extK O1949 K1977 (allS G_b1931_0 all0)
  have N1977 := Fr.app N1949 N1977q
  show Go _ _ _ _ (State.setTop _ (mkF _ 45 _ []))
  have c1978 := (c1951.keep K1977)
  have c1979 := ((F1945.other W1949 (Or.inr (sn21 hw))).keep K1977 (ninS (neB q1776.lt sz_b1931_0) nin0))
  have c1980 := (c1972.keep K1977 (ninS (neB q1776.lt sz_b1931_0) nin0))
  have c1981 := (c1973.keep K1977 (ninS (neB q1776.lt sz_b1931_0) nin0))
  have c1982 := ((((f1931_5.other W1942 (Or.inr (sn22 hw))).other W1945 (Or.inr (sn8 hw))).other W1949 (Or.inr (sn23 hw))).keep K1977 (ninS (neB q1776.lt sz_b1931_0) nin0))
  have c1983 := (F1949.keep K1977 (ninS (neB q1776.lt sz_b1931_0) nin0))
  have K_1984 := (Keep.refl h [ro0]).trans K1931 (allS (Or.inl (List.mem_of_getElem? (i := 0) rfl)) all0)
  have K_1985 := K_1984.wr W1942 (Or.inl (List.mem_of_getElem? (i := 0) rfl))
  have K_1986 := K_1985.wr W1945 (Or.inl (List.mem_of_getElem? (i := 0) rfl))
  have K_1987 := K_1986.wr W1949 (Or.inl (List.mem_of_getElem? (i := 0) rfl))
  have K_1988 := K_1987.trans K1977 (allS (Or.inr sz_b1931_0) all0)
  exact gRetV X1977 H hlk hret d20_45 rfl ⟨b1931_0, k1931_0, rfl, N1977, K_1988, sz_b1931_0, c1978, c1979, c1980, c1981, c1982, c1983, f1977_0, f1931_7⟩
theorem rm2018_15 (B : Bg Z a0 wE0 w_cacheI k_wE0 cl_cacheI) (ro0 ro1 : Addr) (ck2 : ClassId) (ro3 ro4 ro5 ro6 : Addr) (h : Heap) (O : Ext Z.heap h) (q1774 : Exa Z h ro0 cs3) (q1990 : Fld Z h ro0 cs3 "size" "I" (.int 4)) (q1992 : Fld Z h ro0 cs3 "buffer" cs2 (.ref ro1)) (q1994 : Arl Z h ro1 (4 : Int32)) (q1996 : Fld Z h ro0 cs3 "head" "I" (.int 2)) (q1998 : Arv Z h ro1 ck2 (.object "java/lang/Object") (4 : Int32) [(.ref ro3), (.ref ro4), (.ref ro5), (.ref ro6)] .null) (q2000 : Exa Z h ro5 cs4) (q2002 : Exa Z h ro6 cs4) (q2004 : Exa Z h ro3 cs4) (q2006 : Exa Z h ro4 cs4) (q2008 : Z.heap.size ≤ ro0) (q2009 : Fld Z h ro0 cs3 "serial" "I" (.int 1)) (q2011 : Fld Z h ro0 cs3 "firstNumber" "J" (.long (-2))) :
    Con l Z yM15 method_2_code 2 none ({ frames := 4, cells := 1, slots := 8, locals := 58 } : Room) #[(.ref ro0), (.int 0)] h (fun v h' L => ∃ (b1773_0 b2013_0 : Addr) (k2013_0 : ClassId), v = none ∧ Fr Z.heap.size L ∧ Keep h h' [ro0] ∧ h.size ≤ b2013_0 ∧ Exa Z h' b1773_0 cs4 ∧ Exa Z h' ro0 cs3 ∧ Fld Z h' ro0 cs3 "size" "I" (.int 5) ∧ Fld Z h' ro0 cs3 "buffer" cs2 (.ref b2013_0) ∧ Fld Z h' ro0 cs3 "head" "I" (.int 7) ∧ Fld Z h' ro0 cs3 "serial" "I" (.int 1) ∧ Fld Z h' ro0 cs3 "firstNumber" "J" (.long (-3)) ∧ Arv Z h' b2013_0 k2013_0 (.object "java/lang/Object") (8 : Int32) [(.ref ro5), (.ref ro6), (.ref ro3), (.ref ro4), .null, .null, .null, (.ref b1773_0)] .null ∧ b1773_0 ≠ b2013_0 ∧ Ovr Z k2013_0 "java/lang/Object") := by
  have hw := B.1
  refine Con.of (plainFor_of_name pn15) (Ls := #[vR ro0, vI 0]) (fun _ => rfl) ?_
  intro p e s m below meth c T0 X0 H hml hZ hown hnm hret hlk e0
  have M0 := Nat.le_refl h.size
  have N0 := Fr.nil Z.heap.size
  refine gIloadN X0 H d15_0 rfl 1 rfl ?_
  refine gIfY X0 H d15_1 (by decide) (by decide) 12 rfl ?_
  refine gAloadN X0 H d15_12 rfl rfl 13 rfl ?_
  refine gBipush X0 H d15_13 (z := 20) rfl 15 rfl ?_
  refine gStatic X0 H hZ hown (hw _ wd26) (hw _ wd27) (by decide) (hw _ wd29) (hw _ wd28) (rm110_5 B _ O) e0 hml rfl pd5 rfl (W := 1) (argsL := [(.int 20)]) (rest := [(.ref ro0)]) rfl rfl d15_15 18 rfl ?_
  intro v1773 T1773 L1773 hq1773 X1773
  obtain ⟨b1773_0, rfl, N1773q, K1773, f1773_0⟩ := hq1773
  have O1773 := extK O K1773 all0
  have N1773 := Fr.app N0 N1773q
  show Go _ _ _ _ (State.setTop _ (mkF _ 18 _ [(.ref b1773_0), (.ref ro0)]))
  have c1775 := (q1774.keep K1773)
  have c1991 := (q1990.keep K1773 nin0)
  have c1993 := (q1992.keep K1773 nin0)
  have c1995 := (q1994.keep K1773 nin0)
  have c1997 := (q1996.keep K1773 nin0)
  have c1999 := (q1998.keep K1773 nin0)
  have c2001 := (q2000.keep K1773)
  have c2003 := (q2002.keep K1773)
  have c2005 := (q2004.keep K1773)
  have c2007 := (q2006.keep K1773)
  have c2010 := (q2009.keep K1773 nin0)
  have c2012 := (q2011.keep K1773 nin0)
  refine gVirt X1773 H hZ hown (hw _ wd130) (hw _ wd131) (hw _ wd133) (hw _ wd132) (by decide) c1775 (hw _ wd134) (hw _ wd66) (rm1989_20 B ro0 b1773_0 ro1 ck2 ro3 ro4 ro5 ro6 _ O1773 c1775 c1991 c1993 c1995 c1997 c1999 c2001 c2003 c2005 c2007 q2008 c2010 c2012 f1773_0) rfl hml rfl pd8 rfl (W := 0) (argsL := [(.ref b1773_0)]) (rest := []) rfl rfl d15_18 21 rfl ?_
  intro v2013 T2013 L2013 hq2013 X2013
  obtain ⟨b2013_0, k2013_0, rfl, N2013q, K2013, s2013_0, f2013_0, f2013_1, f2013_2, f2013_3, f2013_4, f2013_5, f2013_6, f2013_7⟩ := hq2013
  have M2014 := (Nat.le_trans M0 K1773.1)
  have G_b2013_0 := Nat.le_trans O1773.1 s2013_0
  have sz_b2013_0 := Nat.le_trans M2014 s2013_0
  have ne_b1773_0_b2013_0 : b1773_0 ≠ b2013_0 := neB f1773_0.lt s2013_0
  have O2013 := extK O1773 K2013 (allS q2008 all0)
  have N2013 := Fr.app N1773 N2013q
  show Go _ _ _ _ (State.setTop _ (mkF _ 21 _ []))
  have c2015 := (f1773_0.keep K2013)
  have K_2016 := (Keep.refl h [ro0]).trans K1773 all0
  have K_2017 := K_2016.trans K2013 (allS (Or.inl (List.mem_of_getElem? (i := 0) rfl)) all0)
  exact gRetV X2013 H hlk hret d15_21 rfl ⟨b1773_0, b2013_0, k2013_0, rfl, N2013, K_2017, sz_b2013_0, c2015, f2013_0, f2013_1, f2013_2, f2013_3, f2013_4, f2013_5, f2013_6, ne_b1773_0_b2013_0, f2013_7⟩
theorem rm2039_14 (B : Bg Z a0 wE0 w_cacheI k_wE0 cl_cacheI) (ro0 : Addr) (vj1 vj2 : Int64) (h : Heap) (O : Ext Z.heap h) (q2034 : Fld Z h ro0 cs3 "firstNumber" "J" (.long vj2)) (q2037 : Fld Z h ro0 cs3 "size" "I" (.int 5)) (hk2036 : (vj1 - vj2) = (0 : Int64)) :
    Con l Z yM14 prog_50_method_7_code 5 (some .int) ({ frames := 0, cells := 0, slots := 0, locals := 0 } : Room) #[(.ref ro0), (.long vj1)] h (fun v h' L => v = some (.int 0) ∧ h' = h ∧ L = []) := by
  have hw := B.1
  refine Con.of (plainFor_of_name pn14) (Ls := #[vR ro0, vJ vj1, .second, .unset, .unset]) (fun _ => by first | (simp [entryFrame, mkF, argsToLocals, Value.category, maxLocals]; done) | rfl) ?_
  intro p e s m below meth c T0 X0 H hml hZ hown hnm hret hlk e0
  refine gLloadN X0 H d14_0 rfl 1 rfl ?_
  refine gAloadN X0 H d14_1 rfl rfl 2 rfl ?_
  refine gGetF X0 H hZ hown (hw _ wd105) Via.refl e0 q2034 d14_2 5 rfl ?_
  intro T2035 X2035 e2035
  refine g_lsub X2035 H d14_5 (z := 0) hk2036 6 rfl ?_
  refine gLstoreN X2035 H d14_6 (Ls' := #[vR ro0, vJ vj1, .second, vJ 0, .second]) rfl 7 rfl ?_
  refine gLloadN X2035 H d14_7 rfl 8 rfl ?_
  refine gLconst X2035 H d14_8 (z := 0) rfl 9 rfl ?_
  refine g_lcmp X2035 H d14_9 (z := (lcmpW (0 : Int64) (0 : Int64))) rfl 10 rfl ?_
  refine gIfN X2035 H d14_10 (by decide) 13 rfl ?_
  refine gLloadN X2035 H d14_13 rfl 14 rfl ?_
  refine gAloadN X2035 H d14_14 rfl rfl 15 rfl ?_
  refine gGetF X2035 H hZ hown (hw _ wd98) Via.refl e2035 q2037 d14_15 18 rfl ?_
  intro T2038 X2038 e2038
  refine g_i2l X2038 H d14_18 (z := 5) (by decide) 19 rfl ?_
  refine g_lcmp X2038 H d14_19 (z := (lcmpW (0 : Int64) (5 : Int64))) rfl 20 rfl ?_
  refine gIfN X2038 H d14_20 (by decide) 23 rfl ?_
  refine gLloadN X2038 H d14_23 rfl 24 rfl ?_
  refine g_l2i X2038 H d14_24 (z := 0) (by decide) 25 rfl ?_
  refine gGoto X2038 H d14_25 (by decide) 29 rfl ?_
  exact gRetI X2038 H hlk hret d14_29 e2038 ⟨rfl, rfl, rfl⟩
theorem rm2049_14 (B : Bg Z a0 wE0 w_cacheI k_wE0 cl_cacheI) (ro0 : Addr) (vj1 vj2 : Int64) (h : Heap) (O : Ext Z.heap h) (q2044 : Fld Z h ro0 cs3 "firstNumber" "J" (.long vj2)) (q2047 : Fld Z h ro0 cs3 "size" "I" (.int 5)) (hk2046 : (vj1 - vj2) = (1 : Int64)) :
    Con l Z yM14 prog_50_method_7_code 5 (some .int) ({ frames := 0, cells := 0, slots := 0, locals := 0 } : Room) #[(.ref ro0), (.long vj1)] h (fun v h' L => v = some (.int 1) ∧ h' = h ∧ L = []) := by
  have hw := B.1
  refine Con.of (plainFor_of_name pn14) (Ls := #[vR ro0, vJ vj1, .second, .unset, .unset]) (fun _ => by first | (simp [entryFrame, mkF, argsToLocals, Value.category, maxLocals]; done) | rfl) ?_
  intro p e s m below meth c T0 X0 H hml hZ hown hnm hret hlk e0
  refine gLloadN X0 H d14_0 rfl 1 rfl ?_
  refine gAloadN X0 H d14_1 rfl rfl 2 rfl ?_
  refine gGetF X0 H hZ hown (hw _ wd105) Via.refl e0 q2044 d14_2 5 rfl ?_
  intro T2045 X2045 e2045
  refine g_lsub X2045 H d14_5 (z := 1) hk2046 6 rfl ?_
  refine gLstoreN X2045 H d14_6 (Ls' := #[vR ro0, vJ vj1, .second, vJ 1, .second]) rfl 7 rfl ?_
  refine gLloadN X2045 H d14_7 rfl 8 rfl ?_
  refine gLconst X2045 H d14_8 (z := 0) rfl 9 rfl ?_
  refine g_lcmp X2045 H d14_9 (z := (lcmpW (1 : Int64) (0 : Int64))) rfl 10 rfl ?_
  refine gIfN X2045 H d14_10 (by decide) 13 rfl ?_
  refine gLloadN X2045 H d14_13 rfl 14 rfl ?_
  refine gAloadN X2045 H d14_14 rfl rfl 15 rfl ?_
  refine gGetF X2045 H hZ hown (hw _ wd98) Via.refl e2045 q2047 d14_15 18 rfl ?_
  intro T2048 X2048 e2048
  refine g_i2l X2048 H d14_18 (z := 5) (by decide) 19 rfl ?_
  refine g_lcmp X2048 H d14_19 (z := (lcmpW (1 : Int64) (5 : Int64))) rfl 20 rfl ?_
  refine gIfN X2048 H d14_20 (by decide) 23 rfl ?_
  refine gLloadN X2048 H d14_23 rfl 24 rfl ?_
  refine g_l2i X2048 H d14_24 (z := 1) (by decide) 25 rfl ?_
  refine gGoto X2048 H d14_25 (by decide) 29 rfl ?_
  exact gRetI X2048 H hlk hret d14_29 e2048 ⟨rfl, rfl, rfl⟩
theorem rm2059_14 (B : Bg Z a0 wE0 w_cacheI k_wE0 cl_cacheI) (ro0 : Addr) (vj1 vj2 : Int64) (h : Heap) (O : Ext Z.heap h) (q2054 : Fld Z h ro0 cs3 "firstNumber" "J" (.long vj2)) (q2057 : Fld Z h ro0 cs3 "size" "I" (.int 5)) (hk2056 : (vj1 - vj2) = (2 : Int64)) :
    Con l Z yM14 prog_50_method_7_code 5 (some .int) ({ frames := 0, cells := 0, slots := 0, locals := 0 } : Room) #[(.ref ro0), (.long vj1)] h (fun v h' L => v = some (.int 2) ∧ h' = h ∧ L = []) := by
  have hw := B.1
  refine Con.of (plainFor_of_name pn14) (Ls := #[vR ro0, vJ vj1, .second, .unset, .unset]) (fun _ => by first | (simp [entryFrame, mkF, argsToLocals, Value.category, maxLocals]; done) | rfl) ?_
  intro p e s m below meth c T0 X0 H hml hZ hown hnm hret hlk e0
  refine gLloadN X0 H d14_0 rfl 1 rfl ?_
  refine gAloadN X0 H d14_1 rfl rfl 2 rfl ?_
  refine gGetF X0 H hZ hown (hw _ wd105) Via.refl e0 q2054 d14_2 5 rfl ?_
  intro T2055 X2055 e2055
  refine g_lsub X2055 H d14_5 (z := 2) hk2056 6 rfl ?_
  refine gLstoreN X2055 H d14_6 (Ls' := #[vR ro0, vJ vj1, .second, vJ 2, .second]) rfl 7 rfl ?_
  refine gLloadN X2055 H d14_7 rfl 8 rfl ?_
  refine gLconst X2055 H d14_8 (z := 0) rfl 9 rfl ?_
  refine g_lcmp X2055 H d14_9 (z := (lcmpW (2 : Int64) (0 : Int64))) rfl 10 rfl ?_
  refine gIfN X2055 H d14_10 (by decide) 13 rfl ?_
  refine gLloadN X2055 H d14_13 rfl 14 rfl ?_
  refine gAloadN X2055 H d14_14 rfl rfl 15 rfl ?_
  refine gGetF X2055 H hZ hown (hw _ wd98) Via.refl e2055 q2057 d14_15 18 rfl ?_
  intro T2058 X2058 e2058
  refine g_i2l X2058 H d14_18 (z := 5) (by decide) 19 rfl ?_
  refine g_lcmp X2058 H d14_19 (z := (lcmpW (2 : Int64) (5 : Int64))) rfl 20 rfl ?_
  refine gIfN X2058 H d14_20 (by decide) 23 rfl ?_
  refine gLloadN X2058 H d14_23 rfl 24 rfl ?_
  refine g_l2i X2058 H d14_24 (z := 2) (by decide) 25 rfl ?_
  refine gGoto X2058 H d14_25 (by decide) 29 rfl ?_
  exact gRetI X2058 H hlk hret d14_29 e2058 ⟨rfl, rfl, rfl⟩
theorem rm2069_14 (B : Bg Z a0 wE0 w_cacheI k_wE0 cl_cacheI) (ro0 : Addr) (vj1 vj2 : Int64) (h : Heap) (O : Ext Z.heap h) (q2064 : Fld Z h ro0 cs3 "firstNumber" "J" (.long vj2)) (q2067 : Fld Z h ro0 cs3 "size" "I" (.int 5)) (hk2066 : (vj1 - vj2) = (3 : Int64)) :
    Con l Z yM14 prog_50_method_7_code 5 (some .int) ({ frames := 0, cells := 0, slots := 0, locals := 0 } : Room) #[(.ref ro0), (.long vj1)] h (fun v h' L => v = some (.int 3) ∧ h' = h ∧ L = []) := by
  have hw := B.1
  refine Con.of (plainFor_of_name pn14) (Ls := #[vR ro0, vJ vj1, .second, .unset, .unset]) (fun _ => by first | (simp [entryFrame, mkF, argsToLocals, Value.category, maxLocals]; done) | rfl) ?_
  intro p e s m below meth c T0 X0 H hml hZ hown hnm hret hlk e0
  refine gLloadN X0 H d14_0 rfl 1 rfl ?_
  refine gAloadN X0 H d14_1 rfl rfl 2 rfl ?_
  refine gGetF X0 H hZ hown (hw _ wd105) Via.refl e0 q2064 d14_2 5 rfl ?_
  intro T2065 X2065 e2065
  refine g_lsub X2065 H d14_5 (z := 3) hk2066 6 rfl ?_
  refine gLstoreN X2065 H d14_6 (Ls' := #[vR ro0, vJ vj1, .second, vJ 3, .second]) rfl 7 rfl ?_
  refine gLloadN X2065 H d14_7 rfl 8 rfl ?_
  refine gLconst X2065 H d14_8 (z := 0) rfl 9 rfl ?_
  refine g_lcmp X2065 H d14_9 (z := (lcmpW (3 : Int64) (0 : Int64))) rfl 10 rfl ?_
  refine gIfN X2065 H d14_10 (by decide) 13 rfl ?_
  refine gLloadN X2065 H d14_13 rfl 14 rfl ?_
  refine gAloadN X2065 H d14_14 rfl rfl 15 rfl ?_
  refine gGetF X2065 H hZ hown (hw _ wd98) Via.refl e2065 q2067 d14_15 18 rfl ?_
  intro T2068 X2068 e2068
  refine g_i2l X2068 H d14_18 (z := 5) (by decide) 19 rfl ?_
  refine g_lcmp X2068 H d14_19 (z := (lcmpW (3 : Int64) (5 : Int64))) rfl 20 rfl ?_
  refine gIfN X2068 H d14_20 (by decide) 23 rfl ?_
  refine gLloadN X2068 H d14_23 rfl 24 rfl ?_
  refine g_l2i X2068 H d14_24 (z := 3) (by decide) 25 rfl ?_
  refine gGoto X2068 H d14_25 (by decide) 29 rfl ?_
  exact gRetI X2068 H hlk hret d14_29 e2068 ⟨rfl, rfl, rfl⟩
theorem rm2079_14 (B : Bg Z a0 wE0 w_cacheI k_wE0 cl_cacheI) (ro0 : Addr) (vj1 vj2 : Int64) (h : Heap) (O : Ext Z.heap h) (q2074 : Fld Z h ro0 cs3 "firstNumber" "J" (.long vj2)) (q2077 : Fld Z h ro0 cs3 "size" "I" (.int 5)) (hk2076 : (vj1 - vj2) = (4 : Int64)) :
    Con l Z yM14 prog_50_method_7_code 5 (some .int) ({ frames := 0, cells := 0, slots := 0, locals := 0 } : Room) #[(.ref ro0), (.long vj1)] h (fun v h' L => v = some (.int 4) ∧ h' = h ∧ L = []) := by
  have hw := B.1
  refine Con.of (plainFor_of_name pn14) (Ls := #[vR ro0, vJ vj1, .second, .unset, .unset]) (fun _ => by first | (simp [entryFrame, mkF, argsToLocals, Value.category, maxLocals]; done) | rfl) ?_
  intro p e s m below meth c T0 X0 H hml hZ hown hnm hret hlk e0
  refine gLloadN X0 H d14_0 rfl 1 rfl ?_
  refine gAloadN X0 H d14_1 rfl rfl 2 rfl ?_
  refine gGetF X0 H hZ hown (hw _ wd105) Via.refl e0 q2074 d14_2 5 rfl ?_
  intro T2075 X2075 e2075
  refine g_lsub X2075 H d14_5 (z := 4) hk2076 6 rfl ?_
  refine gLstoreN X2075 H d14_6 (Ls' := #[vR ro0, vJ vj1, .second, vJ 4, .second]) rfl 7 rfl ?_
  refine gLloadN X2075 H d14_7 rfl 8 rfl ?_
  refine gLconst X2075 H d14_8 (z := 0) rfl 9 rfl ?_
  refine g_lcmp X2075 H d14_9 (z := (lcmpW (4 : Int64) (0 : Int64))) rfl 10 rfl ?_
  refine gIfN X2075 H d14_10 (by decide) 13 rfl ?_
  refine gLloadN X2075 H d14_13 rfl 14 rfl ?_
  refine gAloadN X2075 H d14_14 rfl rfl 15 rfl ?_
  refine gGetF X2075 H hZ hown (hw _ wd98) Via.refl e2075 q2077 d14_15 18 rfl ?_
  intro T2078 X2078 e2078
  refine g_i2l X2078 H d14_18 (z := 5) (by decide) 19 rfl ?_
  refine g_lcmp X2078 H d14_19 (z := (lcmpW (4 : Int64) (5 : Int64))) rfl 20 rfl ?_
  refine gIfN X2078 H d14_20 (by decide) 23 rfl ?_
  refine gLloadN X2078 H d14_23 rfl 24 rfl ?_
  refine g_l2i X2078 H d14_24 (z := 4) (by decide) 25 rfl ?_
  refine gGoto X2078 H d14_25 (by decide) 29 rfl ?_
  exact gRetI X2078 H hlk hret d14_29 e2078 ⟨rfl, rfl, rfl⟩
theorem rm2091_14 (B : Bg Z a0 wE0 w_cacheI k_wE0 cl_cacheI) (ro0 : Addr) (vj1 vj2 : Int64) (h : Heap) (O : Ext Z.heap h) (q2085 : Fld Z h ro0 cs3 "firstNumber" "J" (.long vj2)) (q2088 : Fld Z h ro0 cs3 "size" "I" (.int 5)) (hk2087 : ¬ ((vj1 - vj2) < (0 : Int64))) (hk2090 : ¬ ((vj1 - vj2) < (5 : Int64))) :
    Con l Z yM14 prog_50_method_7_code 5 (some .int) ({ frames := 0, cells := 0, slots := 0, locals := 0 } : Room) #[(.ref ro0), (.long vj1)] h (fun v h' L => v = some (.int (-1)) ∧ h' = h ∧ L = []) := by
  have hw := B.1
  refine Con.of (plainFor_of_name pn14) (Ls := #[vR ro0, vJ vj1, .second, .unset, .unset]) (fun _ => by first | (simp [entryFrame, mkF, argsToLocals, Value.category, maxLocals]; done) | rfl) ?_
  intro p e s m below meth c T0 X0 H hml hZ hown hnm hret hlk e0
  refine gLloadN X0 H d14_0 rfl 1 rfl ?_
  refine gAloadN X0 H d14_1 rfl rfl 2 rfl ?_
  refine gGetF X0 H hZ hown (hw _ wd105) Via.refl e0 q2085 d14_2 5 rfl ?_
  intro T2086 X2086 e2086
  refine g_lsub X2086 H d14_5 (z := (vj1 - vj2)) rfl 6 rfl ?_
  refine gLstoreN X2086 H d14_6 (Ls' := #[vR ro0, vJ vj1, .second, vJ (vj1 - vj2), .second]) rfl 7 rfl ?_
  refine gLloadN X2086 H d14_7 rfl 8 rfl ?_
  refine gLconst X2086 H d14_8 (z := 0) rfl 9 rfl ?_
  refine g_lcmp X2086 H d14_9 (z := (lcmpW (vj1 - vj2) (0 : Int64))) rfl 10 rfl ?_
  refine gIfN X2086 H d14_10 ((if0 _ _).trans (flt (fun q => hk2087 ((lw_lt _ _).mp q))).1) 13 rfl ?_
  refine gLloadN X2086 H d14_13 rfl 14 rfl ?_
  refine gAloadN X2086 H d14_14 rfl rfl 15 rfl ?_
  refine gGetF X2086 H hZ hown (hw _ wd98) Via.refl e2086 q2088 d14_15 18 rfl ?_
  intro T2089 X2089 e2089
  refine g_i2l X2089 H d14_18 (z := 5) (by decide) 19 rfl ?_
  refine g_lcmp X2089 H d14_19 (z := (lcmpW (vj1 - vj2) (5 : Int64))) rfl 20 rfl ?_
  refine gIfY X2089 H d14_20 ((if0 _ _).trans (flt (fun q => hk2090 ((lw_lt _ _).mp q))).2.1) (by decide) 28 rfl ?_
  refine gIconst X2089 H d14_28 (z := (-1)) rfl 29 rfl ?_
  exact gRetI X2089 H hlk hret d14_29 e2089 ⟨rfl, rfl, rfl⟩
theorem tail2030_203 (B : Bg Z a0 wE0 w_cacheI k_wE0 cl_cacheI) (p0 : Int64) (p1 : Int32) (p2 : Int32) (p3 : Int32) (o6 : Addr) (o7 : Addr) (u8 : Int32) (u9 : Int32) (u10 : Int64) (u12 : Int64) {p : Program} {e : Env} {s : State} {m : MethodId} {below : List Frame} {meth : Method} {c : Code} {T0 : State} {locs : List Loc} {cells slots : Nat} {h : Heap} (X0 : Stand p l e room_1 s m #[(.long p0), (.int p1), (.int p2), (.int p3)] below meth c T0 locs cells slots) (H : p.tables.exec = Jvm.exec ∧ c.code = code) (hml : c.maxLocals = maxLocals) (hZ : Z.Warmed39 s.vm) (hown : s.vm.findClass x.cls = some m.cls) (hnm : meth.name = x.name) (hret : meth.sig.returnType = ret) (hlk : meth.locks = false) (N0 : Fr Z.heap.size locs) (hC : cells ≤ room_1.cells) (hS : slots ≤ room_1.slots) (e0 : T0.heap = h) (O : Ext Z.heap h) (qq0 : Exa Z h o7 cs3) (qq1 : Fld Z h o7 cs3 "size" "I" (.int 5)) (qq2 : Fld Z h o7 cs3 "firstNumber" "J" (.long u10)) :
    Go p e below (EndK s below (fun v h' L => v = some (.int 1) ∧ Fr Z.heap.size L) room_1.cells room_1.slots) (T0.setTop (mkF m 203 #[vJ p0, .second, vI p1, vI p2, vI p3, vI 5, vR o6, vR o7, vI u8, vI u9, vJ u10, .second, vJ u12, .second, .unset, .unset] [])) := by
  have hw := B.1
  obtain ⟨S_wE0, V_wE0, S_high, S_cacheI, B_cacheI⟩ := B.2
  have M0 := Nat.le_refl h.size
  refine gAload X0 H at_203 rfl rfl 205 rfl ?_
  refine gLload X0 H at_205 rfl 207 rfl ?_
  by_cases hc2033 : (u12 - u10) = (0 : Int64)
  · refine gVirt X0 H hZ hown (hw _ wd100) (hw _ wd101) (hw _ wd103) (hw _ wd102) (by decide) qq0 (hw _ wd104) (hw _ wd66) (rm2039_14 B o7 u12 u10 _ O qq2 qq1 hc2033) e0 hml rfl pd12 rfl (W := 0) (argsL := [(.long u12)]) (rest := []) rfl rfl at_207 210 rfl ?_ (hc := hC) (hsl := hS)
    intro v2040 T2040 L2040 hq2040 X2040
    obtain ⟨rfl, e2040, rfl⟩ := hq2040
    have N2040 := Fr.app N0 (Fr.nil _)
    show Go _ _ _ _ (State.setTop _ (mkF _ 210 _ [(.int 0)]))
    refine gIstore X2040 H at_210 (Ls' := #[vJ p0, .second, vI p1, vI p2, vI p3, vI 5, vR o6, vR o7, vI u8, vI u9, vJ u10, .second, vJ u12, .second, vI 0, .unset]) rfl 212 rfl ?_
    refine gIconst X2040 H at_212 (z := (-1)) rfl 213 rfl ?_
    refine gIstore X2040 H at_213 (Ls' := #[vJ p0, .second, vI p1, vI p2, vI p3, vI 5, vR o6, vR o7, vI u8, vI u9, vJ u10, .second, vJ u12, .second, vI 0, vI (-1)]) rfl 215 rfl ?_
    refine gIload X2040 H at_215 rfl 217 rfl ?_
    refine gIfN X2040 H at_217 (by decide) 220 rfl ?_
    refine gLload X2040 H at_220 rfl 222 rfl ?_
    refine gLload X2040 H at_222 rfl 224 rfl ?_
    refine g_lcmp X2040 H at_224 (z := (lcmpW u12 u10)) rfl 225 rfl ?_
    refine gIfN X2040 H at_225 ((if0 _ _).trans (teq ((lw_eq _ _).mpr (off_eq0 hc2033))).2) 228 rfl ?_
    refine gIconst X2040 H at_228 (z := 0) rfl 229 rfl ?_
    refine gIstore X2040 H at_229 (Ls' := #[vJ p0, .second, vI p1, vI p2, vI p3, vI 5, vR o6, vR o7, vI u8, vI u9, vJ u10, .second, vJ u12, .second, vI 0, vI 0]) rfl 231 rfl ?_
    refine gGoto X2040 H at_231 (by decide) 349 rfl ?_
    refine gIload X2040 H at_349 rfl 351 rfl ?_
    refine gIload X2040 H at_351 rfl 353 rfl ?_
    refine gCmpN X2040 H at_353 (by decide) 356 rfl ?_
    refine gIconst X2040 H at_356 (z := 1) rfl 357 rfl ?_
    refine gGoto X2040 H at_357 (by decide) 361 rfl ?_
    exact gRetN X2040 H hlk hret (t := .boolean) (by simp) at_361 e2040 ⟨rfl, N2040⟩ hC hS
  · by_cases hc2043 : (u12 - u10) = (1 : Int64)
    · refine gVirt X0 H hZ hown (hw _ wd100) (hw _ wd101) (hw _ wd103) (hw _ wd102) (by decide) qq0 (hw _ wd104) (hw _ wd66) (rm2049_14 B o7 u12 u10 _ O qq2 qq1 hc2043) e0 hml rfl pd12 rfl (W := 0) (argsL := [(.long u12)]) (rest := []) rfl rfl at_207 210 rfl ?_ (hc := hC) (hsl := hS)
      intro v2050 T2050 L2050 hq2050 X2050
      obtain ⟨rfl, e2050, rfl⟩ := hq2050
      have N2050 := Fr.app N0 (Fr.nil _)
      show Go _ _ _ _ (State.setTop _ (mkF _ 210 _ [(.int 1)]))
      refine gIstore X2050 H at_210 (Ls' := #[vJ p0, .second, vI p1, vI p2, vI p3, vI 5, vR o6, vR o7, vI u8, vI u9, vJ u10, .second, vJ u12, .second, vI 1, .unset]) rfl 212 rfl ?_
      refine gIconst X2050 H at_212 (z := (-1)) rfl 213 rfl ?_
      refine gIstore X2050 H at_213 (Ls' := #[vJ p0, .second, vI p1, vI p2, vI p3, vI 5, vR o6, vR o7, vI u8, vI u9, vJ u10, .second, vJ u12, .second, vI 1, vI (-1)]) rfl 215 rfl ?_
      refine gIload X2050 H at_215 rfl 217 rfl ?_
      refine gIfN X2050 H at_217 (by decide) 220 rfl ?_
      refine gLload X2050 H at_220 rfl 222 rfl ?_
      refine gLload X2050 H at_222 rfl 224 rfl ?_
      refine g_lcmp X2050 H at_224 (z := (lcmpW u12 u10)) rfl 225 rfl ?_
      refine gIfY X2050 H at_225 ((if0 _ _).trans (feq (fun q => (off_ne0 (off_two hc2043 (by decide))) ((lw_eq _ _).mp q))).2) (by decide) 234 rfl ?_
      refine gIload X2050 H at_234 rfl 236 rfl ?_
      refine gIconst X2050 H at_236 (z := 1) rfl 237 rfl ?_
      refine gCmpN X2050 H at_237 (by decide) 240 rfl ?_
      refine gLload X2050 H at_240 rfl 242 rfl ?_
      refine gLload X2050 H at_242 rfl 244 rfl ?_
      refine gLconst X2050 H at_244 (z := 1) rfl 245 rfl ?_
      refine g_ladd X2050 H at_245 (z := (u10 + (1 : Int64))) rfl 246 rfl ?_
      refine g_lcmp X2050 H at_246 (z := (lcmpW u12 (u10 + (1 : Int64)))) rfl 247 rfl ?_
      refine gIfN X2050 H at_247 ((if0 _ _).trans (teq ((lw_eq _ _).mpr (off_eq hc2043))).2) 250 rfl ?_
      refine gIconst X2050 H at_250 (z := 1) rfl 251 rfl ?_
      refine gIstore X2050 H at_251 (Ls' := #[vJ p0, .second, vI p1, vI p2, vI p3, vI 5, vR o6, vR o7, vI u8, vI u9, vJ u10, .second, vJ u12, .second, vI 1, vI 1]) rfl 253 rfl ?_
      refine gGoto X2050 H at_253 (by decide) 349 rfl ?_
      refine gIload X2050 H at_349 rfl 351 rfl ?_
      refine gIload X2050 H at_351 rfl 353 rfl ?_
      refine gCmpN X2050 H at_353 (by decide) 356 rfl ?_
      refine gIconst X2050 H at_356 (z := 1) rfl 357 rfl ?_
      refine gGoto X2050 H at_357 (by decide) 361 rfl ?_
      exact gRetN X2050 H hlk hret (t := .boolean) (by simp) at_361 e2050 ⟨rfl, N2050⟩ hC hS
    · by_cases hc2053 : (u12 - u10) = (2 : Int64)
      · refine gVirt X0 H hZ hown (hw _ wd100) (hw _ wd101) (hw _ wd103) (hw _ wd102) (by decide) qq0 (hw _ wd104) (hw _ wd66) (rm2059_14 B o7 u12 u10 _ O qq2 qq1 hc2053) e0 hml rfl pd12 rfl (W := 0) (argsL := [(.long u12)]) (rest := []) rfl rfl at_207 210 rfl ?_ (hc := hC) (hsl := hS)
        intro v2060 T2060 L2060 hq2060 X2060
        obtain ⟨rfl, e2060, rfl⟩ := hq2060
        have N2060 := Fr.app N0 (Fr.nil _)
        show Go _ _ _ _ (State.setTop _ (mkF _ 210 _ [(.int 2)]))
        refine gIstore X2060 H at_210 (Ls' := #[vJ p0, .second, vI p1, vI p2, vI p3, vI 5, vR o6, vR o7, vI u8, vI u9, vJ u10, .second, vJ u12, .second, vI 2, .unset]) rfl 212 rfl ?_
        refine gIconst X2060 H at_212 (z := (-1)) rfl 213 rfl ?_
        refine gIstore X2060 H at_213 (Ls' := #[vJ p0, .second, vI p1, vI p2, vI p3, vI 5, vR o6, vR o7, vI u8, vI u9, vJ u10, .second, vJ u12, .second, vI 2, vI (-1)]) rfl 215 rfl ?_
        refine gIload X2060 H at_215 rfl 217 rfl ?_
        refine gIfN X2060 H at_217 (by decide) 220 rfl ?_
        refine gLload X2060 H at_220 rfl 222 rfl ?_
        refine gLload X2060 H at_222 rfl 224 rfl ?_
        refine g_lcmp X2060 H at_224 (z := (lcmpW u12 u10)) rfl 225 rfl ?_
        refine gIfY X2060 H at_225 ((if0 _ _).trans (feq (fun q => (off_ne0 (off_two hc2053 (by decide))) ((lw_eq _ _).mp q))).2) (by decide) 234 rfl ?_
        refine gIload X2060 H at_234 rfl 236 rfl ?_
        refine gIconst X2060 H at_236 (z := 1) rfl 237 rfl ?_
        refine gCmpN X2060 H at_237 (by decide) 240 rfl ?_
        refine gLload X2060 H at_240 rfl 242 rfl ?_
        refine gLload X2060 H at_242 rfl 244 rfl ?_
        refine gLconst X2060 H at_244 (z := 1) rfl 245 rfl ?_
        refine g_ladd X2060 H at_245 (z := (u10 + (1 : Int64))) rfl 246 rfl ?_
        refine g_lcmp X2060 H at_246 (z := (lcmpW u12 (u10 + (1 : Int64)))) rfl 247 rfl ?_
        refine gIfY X2060 H at_247 ((if0 _ _).trans (feq (fun q => (off_ne (off_two hc2053 (by decide))) ((lw_eq _ _).mp q))).2) (by decide) 256 rfl ?_
        refine gIload X2060 H at_256 rfl 258 rfl ?_
        refine gIconst X2060 H at_258 (z := 2) rfl 259 rfl ?_
        refine gCmpN X2060 H at_259 (by decide) 262 rfl ?_
        refine gLload X2060 H at_262 rfl 264 rfl ?_
        refine gLload X2060 H at_264 rfl 266 rfl ?_
        refine gLdc2 X2060 H hZ hown (hw _ wd149) at_266 269 rfl ?_
        refine g_ladd X2060 H at_269 (z := (u10 + (2 : Int64))) rfl 270 rfl ?_
        refine g_lcmp X2060 H at_270 (z := (lcmpW u12 (u10 + (2 : Int64)))) rfl 271 rfl ?_
        refine gIfN X2060 H at_271 ((if0 _ _).trans (teq ((lw_eq _ _).mpr (off_eq hc2053))).2) 274 rfl ?_
        refine gIconst X2060 H at_274 (z := 2) rfl 275 rfl ?_
        refine gIstore X2060 H at_275 (Ls' := #[vJ p0, .second, vI p1, vI p2, vI p3, vI 5, vR o6, vR o7, vI u8, vI u9, vJ u10, .second, vJ u12, .second, vI 2, vI 2]) rfl 277 rfl ?_
        refine gGoto X2060 H at_277 (by decide) 349 rfl ?_
        refine gIload X2060 H at_349 rfl 351 rfl ?_
        refine gIload X2060 H at_351 rfl 353 rfl ?_
        refine gCmpN X2060 H at_353 (by decide) 356 rfl ?_
        refine gIconst X2060 H at_356 (z := 1) rfl 357 rfl ?_
        refine gGoto X2060 H at_357 (by decide) 361 rfl ?_
        exact gRetN X2060 H hlk hret (t := .boolean) (by simp) at_361 e2060 ⟨rfl, N2060⟩ hC hS
      · by_cases hc2063 : (u12 - u10) = (3 : Int64)
        · refine gVirt X0 H hZ hown (hw _ wd100) (hw _ wd101) (hw _ wd103) (hw _ wd102) (by decide) qq0 (hw _ wd104) (hw _ wd66) (rm2069_14 B o7 u12 u10 _ O qq2 qq1 hc2063) e0 hml rfl pd12 rfl (W := 0) (argsL := [(.long u12)]) (rest := []) rfl rfl at_207 210 rfl ?_ (hc := hC) (hsl := hS)
          intro v2070 T2070 L2070 hq2070 X2070
          obtain ⟨rfl, e2070, rfl⟩ := hq2070
          have N2070 := Fr.app N0 (Fr.nil _)
          show Go _ _ _ _ (State.setTop _ (mkF _ 210 _ [(.int 3)]))
          refine gIstore X2070 H at_210 (Ls' := #[vJ p0, .second, vI p1, vI p2, vI p3, vI 5, vR o6, vR o7, vI u8, vI u9, vJ u10, .second, vJ u12, .second, vI 3, .unset]) rfl 212 rfl ?_
          refine gIconst X2070 H at_212 (z := (-1)) rfl 213 rfl ?_
          refine gIstore X2070 H at_213 (Ls' := #[vJ p0, .second, vI p1, vI p2, vI p3, vI 5, vR o6, vR o7, vI u8, vI u9, vJ u10, .second, vJ u12, .second, vI 3, vI (-1)]) rfl 215 rfl ?_
          refine gIload X2070 H at_215 rfl 217 rfl ?_
          refine gIfN X2070 H at_217 (by decide) 220 rfl ?_
          refine gLload X2070 H at_220 rfl 222 rfl ?_
          refine gLload X2070 H at_222 rfl 224 rfl ?_
          refine g_lcmp X2070 H at_224 (z := (lcmpW u12 u10)) rfl 225 rfl ?_
          refine gIfY X2070 H at_225 ((if0 _ _).trans (feq (fun q => (off_ne0 (off_two hc2063 (by decide))) ((lw_eq _ _).mp q))).2) (by decide) 234 rfl ?_
          refine gIload X2070 H at_234 rfl 236 rfl ?_
          refine gIconst X2070 H at_236 (z := 1) rfl 237 rfl ?_
          refine gCmpN X2070 H at_237 (by decide) 240 rfl ?_
          refine gLload X2070 H at_240 rfl 242 rfl ?_
          refine gLload X2070 H at_242 rfl 244 rfl ?_
          refine gLconst X2070 H at_244 (z := 1) rfl 245 rfl ?_
          refine g_ladd X2070 H at_245 (z := (u10 + (1 : Int64))) rfl 246 rfl ?_
          refine g_lcmp X2070 H at_246 (z := (lcmpW u12 (u10 + (1 : Int64)))) rfl 247 rfl ?_
          refine gIfY X2070 H at_247 ((if0 _ _).trans (feq (fun q => (off_ne (off_two hc2063 (by decide))) ((lw_eq _ _).mp q))).2) (by decide) 256 rfl ?_
          refine gIload X2070 H at_256 rfl 258 rfl ?_
          refine gIconst X2070 H at_258 (z := 2) rfl 259 rfl ?_
          refine gCmpN X2070 H at_259 (by decide) 262 rfl ?_
          refine gLload X2070 H at_262 rfl 264 rfl ?_
          refine gLload X2070 H at_264 rfl 266 rfl ?_
          refine gLdc2 X2070 H hZ hown (hw _ wd149) at_266 269 rfl ?_
          refine g_ladd X2070 H at_269 (z := (u10 + (2 : Int64))) rfl 270 rfl ?_
          refine g_lcmp X2070 H at_270 (z := (lcmpW u12 (u10 + (2 : Int64)))) rfl 271 rfl ?_
          refine gIfY X2070 H at_271 ((if0 _ _).trans (feq (fun q => (off_ne (off_two hc2063 (by decide))) ((lw_eq _ _).mp q))).2) (by decide) 280 rfl ?_
          refine gIload X2070 H at_280 rfl 282 rfl ?_
          refine gIconst X2070 H at_282 (z := 3) rfl 283 rfl ?_
          refine gCmpN X2070 H at_283 (by decide) 286 rfl ?_
          refine gLload X2070 H at_286 rfl 288 rfl ?_
          refine gLload X2070 H at_288 rfl 290 rfl ?_
          refine gLdc2 X2070 H hZ hown (hw _ wd150) at_290 293 rfl ?_
          refine g_ladd X2070 H at_293 (z := (u10 + (3 : Int64))) rfl 294 rfl ?_
          refine g_lcmp X2070 H at_294 (z := (lcmpW u12 (u10 + (3 : Int64)))) rfl 295 rfl ?_
          refine gIfN X2070 H at_295 ((if0 _ _).trans (teq ((lw_eq _ _).mpr (off_eq hc2063))).2) 298 rfl ?_
          refine gIconst X2070 H at_298 (z := 3) rfl 299 rfl ?_
          refine gIstore X2070 H at_299 (Ls' := #[vJ p0, .second, vI p1, vI p2, vI p3, vI 5, vR o6, vR o7, vI u8, vI u9, vJ u10, .second, vJ u12, .second, vI 3, vI 3]) rfl 301 rfl ?_
          refine gGoto X2070 H at_301 (by decide) 349 rfl ?_
          refine gIload X2070 H at_349 rfl 351 rfl ?_
          refine gIload X2070 H at_351 rfl 353 rfl ?_
          refine gCmpN X2070 H at_353 (by decide) 356 rfl ?_
          refine gIconst X2070 H at_356 (z := 1) rfl 357 rfl ?_
          refine gGoto X2070 H at_357 (by decide) 361 rfl ?_
          exact gRetN X2070 H hlk hret (t := .boolean) (by simp) at_361 e2070 ⟨rfl, N2070⟩ hC hS
        · by_cases hc2073 : (u12 - u10) = (4 : Int64)
          · refine gVirt X0 H hZ hown (hw _ wd100) (hw _ wd101) (hw _ wd103) (hw _ wd102) (by decide) qq0 (hw _ wd104) (hw _ wd66) (rm2079_14 B o7 u12 u10 _ O qq2 qq1 hc2073) e0 hml rfl pd12 rfl (W := 0) (argsL := [(.long u12)]) (rest := []) rfl rfl at_207 210 rfl ?_ (hc := hC) (hsl := hS)
            intro v2080 T2080 L2080 hq2080 X2080
            obtain ⟨rfl, e2080, rfl⟩ := hq2080
            have N2080 := Fr.app N0 (Fr.nil _)
            show Go _ _ _ _ (State.setTop _ (mkF _ 210 _ [(.int 4)]))
            refine gIstore X2080 H at_210 (Ls' := #[vJ p0, .second, vI p1, vI p2, vI p3, vI 5, vR o6, vR o7, vI u8, vI u9, vJ u10, .second, vJ u12, .second, vI 4, .unset]) rfl 212 rfl ?_
            refine gIconst X2080 H at_212 (z := (-1)) rfl 213 rfl ?_
            refine gIstore X2080 H at_213 (Ls' := #[vJ p0, .second, vI p1, vI p2, vI p3, vI 5, vR o6, vR o7, vI u8, vI u9, vJ u10, .second, vJ u12, .second, vI 4, vI (-1)]) rfl 215 rfl ?_
            refine gIload X2080 H at_215 rfl 217 rfl ?_
            refine gIfN X2080 H at_217 (by decide) 220 rfl ?_
            refine gLload X2080 H at_220 rfl 222 rfl ?_
            refine gLload X2080 H at_222 rfl 224 rfl ?_
            refine g_lcmp X2080 H at_224 (z := (lcmpW u12 u10)) rfl 225 rfl ?_
            refine gIfY X2080 H at_225 ((if0 _ _).trans (feq (fun q => (off_ne0 (off_two hc2073 (by decide))) ((lw_eq _ _).mp q))).2) (by decide) 234 rfl ?_
            refine gIload X2080 H at_234 rfl 236 rfl ?_
            refine gIconst X2080 H at_236 (z := 1) rfl 237 rfl ?_
            refine gCmpN X2080 H at_237 (by decide) 240 rfl ?_
            refine gLload X2080 H at_240 rfl 242 rfl ?_
            refine gLload X2080 H at_242 rfl 244 rfl ?_
            refine gLconst X2080 H at_244 (z := 1) rfl 245 rfl ?_
            refine g_ladd X2080 H at_245 (z := (u10 + (1 : Int64))) rfl 246 rfl ?_
            refine g_lcmp X2080 H at_246 (z := (lcmpW u12 (u10 + (1 : Int64)))) rfl 247 rfl ?_
            refine gIfY X2080 H at_247 ((if0 _ _).trans (feq (fun q => (off_ne (off_two hc2073 (by decide))) ((lw_eq _ _).mp q))).2) (by decide) 256 rfl ?_
            refine gIload X2080 H at_256 rfl 258 rfl ?_
            refine gIconst X2080 H at_258 (z := 2) rfl 259 rfl ?_
            refine gCmpN X2080 H at_259 (by decide) 262 rfl ?_
            refine gLload X2080 H at_262 rfl 264 rfl ?_
            refine gLload X2080 H at_264 rfl 266 rfl ?_
            refine gLdc2 X2080 H hZ hown (hw _ wd149) at_266 269 rfl ?_
            refine g_ladd X2080 H at_269 (z := (u10 + (2 : Int64))) rfl 270 rfl ?_
            refine g_lcmp X2080 H at_270 (z := (lcmpW u12 (u10 + (2 : Int64)))) rfl 271 rfl ?_
            refine gIfY X2080 H at_271 ((if0 _ _).trans (feq (fun q => (off_ne (off_two hc2073 (by decide))) ((lw_eq _ _).mp q))).2) (by decide) 280 rfl ?_
            refine gIload X2080 H at_280 rfl 282 rfl ?_
            refine gIconst X2080 H at_282 (z := 3) rfl 283 rfl ?_
            refine gCmpN X2080 H at_283 (by decide) 286 rfl ?_
            refine gLload X2080 H at_286 rfl 288 rfl ?_
            refine gLload X2080 H at_288 rfl 290 rfl ?_
            refine gLdc2 X2080 H hZ hown (hw _ wd150) at_290 293 rfl ?_
            refine g_ladd X2080 H at_293 (z := (u10 + (3 : Int64))) rfl 294 rfl ?_
            refine g_lcmp X2080 H at_294 (z := (lcmpW u12 (u10 + (3 : Int64)))) rfl 295 rfl ?_
            refine gIfY X2080 H at_295 ((if0 _ _).trans (feq (fun q => (off_ne (off_two hc2073 (by decide))) ((lw_eq _ _).mp q))).2) (by decide) 304 rfl ?_
            refine gIload X2080 H at_304 rfl 306 rfl ?_
            refine gIconst X2080 H at_306 (z := 4) rfl 307 rfl ?_
            refine gCmpN X2080 H at_307 (by decide) 310 rfl ?_
            refine gLload X2080 H at_310 rfl 312 rfl ?_
            refine gLload X2080 H at_312 rfl 314 rfl ?_
            refine gLdc2 X2080 H hZ hown (hw _ wd151) at_314 317 rfl ?_
            refine g_ladd X2080 H at_317 (z := (u10 + (4 : Int64))) rfl 318 rfl ?_
            refine g_lcmp X2080 H at_318 (z := (lcmpW u12 (u10 + (4 : Int64)))) rfl 319 rfl ?_
            refine gIfN X2080 H at_319 ((if0 _ _).trans (teq ((lw_eq _ _).mpr (off_eq hc2073))).2) 322 rfl ?_
            refine gIconst X2080 H at_322 (z := 4) rfl 323 rfl ?_
            refine gIstore X2080 H at_323 (Ls' := #[vJ p0, .second, vI p1, vI p2, vI p3, vI 5, vR o6, vR o7, vI u8, vI u9, vJ u10, .second, vJ u12, .second, vI 4, vI 4]) rfl 325 rfl ?_
            refine gGoto X2080 H at_325 (by decide) 349 rfl ?_
            refine gIload X2080 H at_349 rfl 351 rfl ?_
            refine gIload X2080 H at_351 rfl 353 rfl ?_
            refine gCmpN X2080 H at_353 (by decide) 356 rfl ?_
            refine gIconst X2080 H at_356 (z := 1) rfl 357 rfl ?_
            refine gGoto X2080 H at_357 (by decide) 361 rfl ?_
            exact gRetN X2080 H hlk hret (t := .boolean) (by simp) at_361 e2080 ⟨rfl, N2080⟩ hC hS
          · by_cases hc2083 : (u12 - u10) < (0 : Int64)
            · refine gVirt X0 H hZ hown (hw _ wd100) (hw _ wd101) (hw _ wd103) (hw _ wd102) (by decide) qq0 (hw _ wd104) (hw _ wd66) (rm595_14 B o7 u12 u10 _ O qq2 hc2083) e0 hml rfl pd12 rfl (W := 0) (argsL := [(.long u12)]) (rest := []) rfl rfl at_207 210 rfl ?_ (hc := hC) (hsl := hS)
              intro v2084 T2084 L2084 hq2084 X2084
              obtain ⟨rfl, e2084, rfl⟩ := hq2084
              have N2084 := Fr.app N0 (Fr.nil _)
              show Go _ _ _ _ (State.setTop _ (mkF _ 210 _ [(.int (-1))]))
              refine gIstore X2084 H at_210 (Ls' := #[vJ p0, .second, vI p1, vI p2, vI p3, vI 5, vR o6, vR o7, vI u8, vI u9, vJ u10, .second, vJ u12, .second, vI (-1), .unset]) rfl 212 rfl ?_
              refine gIconst X2084 H at_212 (z := (-1)) rfl 213 rfl ?_
              refine gIstore X2084 H at_213 (Ls' := #[vJ p0, .second, vI p1, vI p2, vI p3, vI 5, vR o6, vR o7, vI u8, vI u9, vJ u10, .second, vJ u12, .second, vI (-1), vI (-1)]) rfl 215 rfl ?_
              refine gIload X2084 H at_215 rfl 217 rfl ?_
              refine gIfN X2084 H at_217 (by decide) 220 rfl ?_
              refine gLload X2084 H at_220 rfl 222 rfl ?_
              refine gLload X2084 H at_222 rfl 224 rfl ?_
              refine g_lcmp X2084 H at_224 (z := (lcmpW u12 u10)) rfl 225 rfl ?_
              refine gIfY X2084 H at_225 ((if0 _ _).trans (feq (fun q => (off_ne0 hc2033) ((lw_eq _ _).mp q))).2) (by decide) 234 rfl ?_
              refine gIload X2084 H at_234 rfl 236 rfl ?_
              refine gIconst X2084 H at_236 (z := 1) rfl 237 rfl ?_
              refine gCmpN X2084 H at_237 (by decide) 240 rfl ?_
              refine gLload X2084 H at_240 rfl 242 rfl ?_
              refine gLload X2084 H at_242 rfl 244 rfl ?_
              refine gLconst X2084 H at_244 (z := 1) rfl 245 rfl ?_
              refine g_ladd X2084 H at_245 (z := (u10 + (1 : Int64))) rfl 246 rfl ?_
              refine g_lcmp X2084 H at_246 (z := (lcmpW u12 (u10 + (1 : Int64)))) rfl 247 rfl ?_
              refine gIfY X2084 H at_247 ((if0 _ _).trans (feq (fun q => (off_ne hc2043) ((lw_eq _ _).mp q))).2) (by decide) 256 rfl ?_
              refine gIload X2084 H at_256 rfl 258 rfl ?_
              refine gIconst X2084 H at_258 (z := 2) rfl 259 rfl ?_
              refine gCmpN X2084 H at_259 (by decide) 262 rfl ?_
              refine gLload X2084 H at_262 rfl 264 rfl ?_
              refine gLload X2084 H at_264 rfl 266 rfl ?_
              refine gLdc2 X2084 H hZ hown (hw _ wd149) at_266 269 rfl ?_
              refine g_ladd X2084 H at_269 (z := (u10 + (2 : Int64))) rfl 270 rfl ?_
              refine g_lcmp X2084 H at_270 (z := (lcmpW u12 (u10 + (2 : Int64)))) rfl 271 rfl ?_
              refine gIfY X2084 H at_271 ((if0 _ _).trans (feq (fun q => (off_ne hc2053) ((lw_eq _ _).mp q))).2) (by decide) 280 rfl ?_
              refine gIload X2084 H at_280 rfl 282 rfl ?_
              refine gIconst X2084 H at_282 (z := 3) rfl 283 rfl ?_
              refine gCmpN X2084 H at_283 (by decide) 286 rfl ?_
              refine gLload X2084 H at_286 rfl 288 rfl ?_
              refine gLload X2084 H at_288 rfl 290 rfl ?_
              refine gLdc2 X2084 H hZ hown (hw _ wd150) at_290 293 rfl ?_
              refine g_ladd X2084 H at_293 (z := (u10 + (3 : Int64))) rfl 294 rfl ?_
              refine g_lcmp X2084 H at_294 (z := (lcmpW u12 (u10 + (3 : Int64)))) rfl 295 rfl ?_
              refine gIfY X2084 H at_295 ((if0 _ _).trans (feq (fun q => (off_ne hc2063) ((lw_eq _ _).mp q))).2) (by decide) 304 rfl ?_
              refine gIload X2084 H at_304 rfl 306 rfl ?_
              refine gIconst X2084 H at_306 (z := 4) rfl 307 rfl ?_
              refine gCmpN X2084 H at_307 (by decide) 310 rfl ?_
              refine gLload X2084 H at_310 rfl 312 rfl ?_
              refine gLload X2084 H at_312 rfl 314 rfl ?_
              refine gLdc2 X2084 H hZ hown (hw _ wd151) at_314 317 rfl ?_
              refine g_ladd X2084 H at_317 (z := (u10 + (4 : Int64))) rfl 318 rfl ?_
              refine g_lcmp X2084 H at_318 (z := (lcmpW u12 (u10 + (4 : Int64)))) rfl 319 rfl ?_
              refine gIfY X2084 H at_319 ((if0 _ _).trans (feq (fun q => (off_ne hc2073) ((lw_eq _ _).mp q))).2) (by decide) 328 rfl ?_
              refine gIload X2084 H at_328 rfl 330 rfl ?_
              refine gIconst X2084 H at_330 (z := 5) rfl 331 rfl ?_
              refine gCmpY X2084 H at_331 (by decide) (by decide) 349 rfl ?_
              refine gIload X2084 H at_349 rfl 351 rfl ?_
              refine gIload X2084 H at_351 rfl 353 rfl ?_
              refine gCmpN X2084 H at_353 (by decide) 356 rfl ?_
              refine gIconst X2084 H at_356 (z := 1) rfl 357 rfl ?_
              refine gGoto X2084 H at_357 (by decide) 361 rfl ?_
              exact gRetN X2084 H hlk hret (t := .boolean) (by simp) at_361 e2084 ⟨rfl, N2084⟩ hC hS
            · refine gVirt X0 H hZ hown (hw _ wd100) (hw _ wd101) (hw _ wd103) (hw _ wd102) (by decide) qq0 (hw _ wd104) (hw _ wd66) (rm2091_14 B o7 u12 u10 _ O qq2 qq1 hc2083 (off_no (k := 5) hc2083 (by decide) (of5 (fun q => hc2033 (Int64.toInt_inj.mp (q.trans (by decide)))) (fun q => hc2043 (Int64.toInt_inj.mp (q.trans (by decide)))) (fun q => hc2053 (Int64.toInt_inj.mp (q.trans (by decide)))) (fun q => hc2063 (Int64.toInt_inj.mp (q.trans (by decide)))) (fun q => hc2073 (Int64.toInt_inj.mp (q.trans (by decide))))))) e0 hml rfl pd12 rfl (W := 0) (argsL := [(.long u12)]) (rest := []) rfl rfl at_207 210 rfl ?_ (hc := hC) (hsl := hS)
              intro v2092 T2092 L2092 hq2092 X2092
              obtain ⟨rfl, e2092, rfl⟩ := hq2092
              have N2092 := Fr.app N0 (Fr.nil _)
              show Go _ _ _ _ (State.setTop _ (mkF _ 210 _ [(.int (-1))]))
              refine gIstore X2092 H at_210 (Ls' := #[vJ p0, .second, vI p1, vI p2, vI p3, vI 5, vR o6, vR o7, vI u8, vI u9, vJ u10, .second, vJ u12, .second, vI (-1), .unset]) rfl 212 rfl ?_
              refine gIconst X2092 H at_212 (z := (-1)) rfl 213 rfl ?_
              refine gIstore X2092 H at_213 (Ls' := #[vJ p0, .second, vI p1, vI p2, vI p3, vI 5, vR o6, vR o7, vI u8, vI u9, vJ u10, .second, vJ u12, .second, vI (-1), vI (-1)]) rfl 215 rfl ?_
              refine gIload X2092 H at_215 rfl 217 rfl ?_
              refine gIfN X2092 H at_217 (by decide) 220 rfl ?_
              refine gLload X2092 H at_220 rfl 222 rfl ?_
              refine gLload X2092 H at_222 rfl 224 rfl ?_
              refine g_lcmp X2092 H at_224 (z := (lcmpW u12 u10)) rfl 225 rfl ?_
              refine gIfY X2092 H at_225 ((if0 _ _).trans (feq (fun q => (off_ne0 hc2033) ((lw_eq _ _).mp q))).2) (by decide) 234 rfl ?_
              refine gIload X2092 H at_234 rfl 236 rfl ?_
              refine gIconst X2092 H at_236 (z := 1) rfl 237 rfl ?_
              refine gCmpN X2092 H at_237 (by decide) 240 rfl ?_
              refine gLload X2092 H at_240 rfl 242 rfl ?_
              refine gLload X2092 H at_242 rfl 244 rfl ?_
              refine gLconst X2092 H at_244 (z := 1) rfl 245 rfl ?_
              refine g_ladd X2092 H at_245 (z := (u10 + (1 : Int64))) rfl 246 rfl ?_
              refine g_lcmp X2092 H at_246 (z := (lcmpW u12 (u10 + (1 : Int64)))) rfl 247 rfl ?_
              refine gIfY X2092 H at_247 ((if0 _ _).trans (feq (fun q => (off_ne hc2043) ((lw_eq _ _).mp q))).2) (by decide) 256 rfl ?_
              refine gIload X2092 H at_256 rfl 258 rfl ?_
              refine gIconst X2092 H at_258 (z := 2) rfl 259 rfl ?_
              refine gCmpN X2092 H at_259 (by decide) 262 rfl ?_
              refine gLload X2092 H at_262 rfl 264 rfl ?_
              refine gLload X2092 H at_264 rfl 266 rfl ?_
              refine gLdc2 X2092 H hZ hown (hw _ wd149) at_266 269 rfl ?_
              refine g_ladd X2092 H at_269 (z := (u10 + (2 : Int64))) rfl 270 rfl ?_
              refine g_lcmp X2092 H at_270 (z := (lcmpW u12 (u10 + (2 : Int64)))) rfl 271 rfl ?_
              refine gIfY X2092 H at_271 ((if0 _ _).trans (feq (fun q => (off_ne hc2053) ((lw_eq _ _).mp q))).2) (by decide) 280 rfl ?_
              refine gIload X2092 H at_280 rfl 282 rfl ?_
              refine gIconst X2092 H at_282 (z := 3) rfl 283 rfl ?_
              refine gCmpN X2092 H at_283 (by decide) 286 rfl ?_
              refine gLload X2092 H at_286 rfl 288 rfl ?_
              refine gLload X2092 H at_288 rfl 290 rfl ?_
              refine gLdc2 X2092 H hZ hown (hw _ wd150) at_290 293 rfl ?_
              refine g_ladd X2092 H at_293 (z := (u10 + (3 : Int64))) rfl 294 rfl ?_
              refine g_lcmp X2092 H at_294 (z := (lcmpW u12 (u10 + (3 : Int64)))) rfl 295 rfl ?_
              refine gIfY X2092 H at_295 ((if0 _ _).trans (feq (fun q => (off_ne hc2063) ((lw_eq _ _).mp q))).2) (by decide) 304 rfl ?_
              refine gIload X2092 H at_304 rfl 306 rfl ?_
              refine gIconst X2092 H at_306 (z := 4) rfl 307 rfl ?_
              refine gCmpN X2092 H at_307 (by decide) 310 rfl ?_
              refine gLload X2092 H at_310 rfl 312 rfl ?_
              refine gLload X2092 H at_312 rfl 314 rfl ?_
              refine gLdc2 X2092 H hZ hown (hw _ wd151) at_314 317 rfl ?_
              refine g_ladd X2092 H at_317 (z := (u10 + (4 : Int64))) rfl 318 rfl ?_
              refine g_lcmp X2092 H at_318 (z := (lcmpW u12 (u10 + (4 : Int64)))) rfl 319 rfl ?_
              refine gIfY X2092 H at_319 ((if0 _ _).trans (feq (fun q => (off_ne hc2073) ((lw_eq _ _).mp q))).2) (by decide) 328 rfl ?_
              refine gIload X2092 H at_328 rfl 330 rfl ?_
              refine gIconst X2092 H at_330 (z := 5) rfl 331 rfl ?_
              refine gCmpY X2092 H at_331 (by decide) (by decide) 349 rfl ?_
              refine gIload X2092 H at_349 rfl 351 rfl ?_
              refine gIload X2092 H at_351 rfl 353 rfl ?_
              refine gCmpN X2092 H at_353 (by decide) 356 rfl ?_
              refine gIconst X2092 H at_356 (z := 1) rfl 357 rfl ?_
              refine gGoto X2092 H at_357 (by decide) 361 rfl ?_
              exact gRetN X2092 H hlk hret (t := .boolean) (by simp) at_361 e2092 ⟨rfl, N2092⟩ hC hS
theorem tail2028_176 (B : Bg Z a0 wE0 w_cacheI k_wE0 cl_cacheI) (p0 : Int64) (p1 : Int32) (p2 : Int32) (p3 : Int32) (o6 : Addr) (o7 : Addr) (u8 : Int32) (u9 : Int32) (u10 : Int64) {p : Program} {e : Env} {s : State} {m : MethodId} {below : List Frame} {meth : Method} {c : Code} {T0 : State} {locs : List Loc} {cells slots : Nat} {h : Heap} (X0 : Stand p l e room_1 s m #[(.long p0), (.int p1), (.int p2), (.int p3)] below meth c T0 locs cells slots) (H : p.tables.exec = Jvm.exec ∧ c.code = code) (hml : c.maxLocals = maxLocals) (hZ : Z.Warmed39 s.vm) (hown : s.vm.findClass x.cls = some m.cls) (hnm : meth.name = x.name) (hret : meth.sig.returnType = ret) (hlk : meth.locks = false) (N0 : Fr Z.heap.size locs) (hC : cells ≤ room_1.cells) (hS : slots ≤ room_1.slots) (e0 : T0.heap = h) (O : Ext Z.heap h) (qq0 : Exa Z h o7 cs3) (qq1 : Fld Z h o7 cs3 "size" "I" (.int 5)) (qq2 : Fld Z h o7 cs3 "firstNumber" "J" (.long u10)) :
    Go p e below (EndK s below (fun v h' L => v = some (.int 1) ∧ Fr Z.heap.size L) room_1.cells room_1.slots) (T0.setTop (mkF m 176 #[vJ p0, .second, vI p1, vI p2, vI p3, vI 5, vR o6, vR o7, vI u8, vI u9, vJ u10, .second, .unset, .unset, .unset, .unset] [])) := by
  have hw := B.1
  obtain ⟨S_wE0, V_wE0, S_high, S_cacheI, B_cacheI⟩ := B.2
  have M0 := Nat.le_refl h.size
  refine gIloadN X0 H at_176 rfl 177 rfl ?_
  refine gBipush X0 H at_177 (z := 8) rfl 179 rfl ?_
  refine g_iand X0 H at_179 (z := (p1 &&& (8 : Int32))) rfl 180 rfl ?_
  by_cases hc2029 : (p1 &&& (8 : Int32)) = (0 : Int32)
  · refine gIfY X0 H at_180 ((if0 _ _).trans (teq hc2029).1) (by decide) 189 rfl ?_
    refine gLload X0 H at_189 rfl 191 rfl ?_
    refine gIloadN X0 H at_191 rfl 192 rfl ?_
    refine gIconst X0 H at_192 (z := 4) rfl 193 rfl ?_
    refine g_iushr X0 H at_193 (z := ((p1.toUInt32 >>> ((4 : Int32) &&& 31).toUInt32).toInt32)) rfl 194 rfl ?_
    refine gBipush X0 H at_194 (z := 15) rfl 196 rfl ?_
    refine g_iand X0 H at_196 (z := (((p1.toUInt32 >>> ((4 : Int32) &&& 31).toUInt32).toInt32) &&& (15 : Int32))) rfl 197 rfl ?_
    refine gIconst X0 H at_197 (z := 4) rfl 198 rfl ?_
    refine g_isub X0 H at_198 (z := ((((p1.toUInt32 >>> ((4 : Int32) &&& 31).toUInt32).toInt32) &&& (15 : Int32)) - (4 : Int32))) rfl 199 rfl ?_
    refine g_i2l X0 H at_199 (z := (((((p1.toUInt32 >>> ((4 : Int32) &&& 31).toUInt32).toInt32) &&& (15 : Int32)) - (4 : Int32)).toInt64)) rfl 200 rfl ?_
    refine g_ladd X0 H at_200 (z := (u10 + (((((p1.toUInt32 >>> ((4 : Int32) &&& 31).toUInt32).toInt32) &&& (15 : Int32)) - (4 : Int32)).toInt64))) rfl 201 rfl ?_
    refine gLstore X0 H at_201 (Ls' := #[vJ p0, .second, vI p1, vI p2, vI p3, vI 5, vR o6, vR o7, vI u8, vI u9, vJ u10, .second, vJ (u10 + (((((p1.toUInt32 >>> ((4 : Int32) &&& 31).toUInt32).toInt32) &&& (15 : Int32)) - (4 : Int32)).toInt64)), .second, .unset, .unset]) rfl 203 rfl ?_
    exact tail2030_203 B p0 p1 p2 p3 o6 o7 u8 u9 u10 ((u10 + (((((p1.toUInt32 >>> ((4 : Int32) &&& 31).toUInt32).toInt32) &&& (15 : Int32)) - (4 : Int32)).toInt64))) X0 H hml hZ hown hnm hret hlk N0 hC hS e0 O qq0 qq1 qq2
  · refine gIfN X0 H at_180 ((if0 _ _).trans (feq hc2029).1) 183 rfl ?_
    refine gLloadN X0 H at_183 rfl 184 rfl ?_
    refine gLstore X0 H at_184 (Ls' := #[vJ p0, .second, vI p1, vI p2, vI p3, vI 5, vR o6, vR o7, vI u8, vI u9, vJ u10, .second, vJ p0, .second, .unset, .unset]) rfl 186 rfl ?_
    refine gGoto X0 H at_186 (by decide) 203 rfl ?_
    exact tail2030_203 B p0 p1 p2 p3 o6 o7 u8 u9 u10 p0 X0 H hml hZ hown hnm hret hlk N0 hC hS e0 O qq0 qq1 qq2
theorem rm2138_16 (B : Bg Z a0 wE0 w_cacheI k_wE0 cl_cacheI) (ro0 ro1 : Addr) (ck2 : ClassId) (ro3 ro4 : Addr) (h : Heap) (O : Ext Z.heap h) (q2098 : Fld Z h ro0 cs3 "size" "I" (.int 2)) (q2100 : Exa Z h ro0 cs3) (q2101 : Fld Z h ro0 cs3 "buffer" cs2 (.ref ro1)) (q2102 : Fld Z h ro0 cs3 "head" "I" (.int 0)) (q2103 : Arl Z h ro1 (2 : Int32)) (q2104 : Arv Z h ro1 ck2 (.object "java/lang/Object") (2 : Int32) [(.ref ro3), (.ref ro4)] .null) (q2109 : Z.heap.size ≤ ro1) (q2112 : ro0 ≠ ro1) (q2117 : Z.heap.size ≤ ro0) (q2122 : Fld Z h ro0 cs3 "firstNumber" "J" (.long 0)) (q2132 : Fld Z h ro0 cs3 "serial" "I" (.int 1)) :
    Con l Z yM16 prog_50_method_10_code 2 (some (.object "java/lang/Object")) ({ frames := 2, cells := 0, slots := 0, locals := 28 } : Room) #[(.ref ro0)] h (fun v h' L => v = some (.ref ro3) ∧ Fr Z.heap.size L ∧ Keep h h' [ro1, ro0] ∧ Fld Z h' ro0 cs3 "size" "I" (.int 1) ∧ Exa Z h' ro0 cs3 ∧ Fld Z h' ro0 cs3 "buffer" cs2 (.ref ro1) ∧ Fld Z h' ro0 cs3 "head" "I" (.int 1) ∧ Arv Z h' ro1 ck2 (.object "java/lang/Object") (2 : Int32) [.null, (.ref ro4)] .null ∧ Fld Z h' ro0 cs3 "firstNumber" "J" (.long 1) ∧ Fld Z h' ro0 cs3 "serial" "I" (.int 1)) := by
  have hw := B.1
  refine Con.of (plainFor_of_name pn16) (Ls := #[vR ro0, .unset]) (fun _ => rfl) ?_
  intro p e s m below meth c T0 X0 H hml hZ hown hnm hret hlk e0
  have N0 := Fr.nil Z.heap.size
  refine gAloadN X0 H d16_0 rfl rfl 1 rfl ?_
  refine gGetF X0 H hZ hown (hw _ wd98) Via.refl e0 q2098 d16_1 4 rfl ?_
  intro T2099 X2099 e2099
  refine gIfY X2099 H d16_4 (by decide) (by decide) 9 rfl ?_
  refine gAloadN X2099 H d16_9 rfl rfl 10 rfl ?_
  refine gIconst X2099 H d16_10 (z := 0) rfl 11 rfl ?_
  refine gVirt X2099 H hZ hown (hw _ wd116) (hw _ wd117) (hw _ wd119) (hw _ wd118) (by decide) q2100 (hw _ wd120) (hw _ wd66) (rm1574_17 B ro0 ro1 ck2 ro3 ro4 _ O q2101 q2100 q2102 q2103 q2104) e2099 hml rfl pd11 rfl (W := 0) (argsL := [(.int 0)]) (rest := []) rfl rfl d16_11 14 rfl ?_
  intro v2105 T2105 L2105 hq2105 X2105
  obtain ⟨rfl, e2105, rfl⟩ := hq2105
  have N2105 := Fr.app N0 (Fr.nil _)
  show Go _ _ _ _ (State.setTop _ (mkF _ 14 _ [(.ref ro3)]))
  refine gAstoreN X2105 H d16_14 rfl (Ls' := #[vR ro0, vR ro3]) rfl 15 rfl ?_
  refine gAloadN X2105 H d16_15 rfl rfl 16 rfl ?_
  refine gGetF X2105 H hZ hown (hw _ wd96) Via.refl e2105 q2101 d16_16 19 rfl ?_
  intro T2106 X2106 e2106
  refine gAloadN X2106 H d16_19 rfl rfl 20 rfl ?_
  refine gGetF X2106 H hZ hown (hw _ wd125) Via.refl e2106 q2102 d16_20 23 rfl ?_
  intro T2107 X2107 e2107
  refine gNull X2107 H d16_23 24 rfl ?_
  refine gAastore X2107 H hZ e2107 rfl (Or.inl rfl) q2104 ⟨by decide, by decide⟩ (i := 0) rfl (Nat.le_of_ble_eq_true rfl) (vs' := [.null, (.ref ro4)]) rfl d16_24 25 rfl ?_
  intro T2108 h2108 X2108 e2108 W2108 V2108
  have O2108 := extW O W2108 q2109
  have N2108 := Fr.snoc X2108 N2105 q2109
  refine gAloadN X2108 H d16_25 rfl rfl 26 rfl ?_
  refine gAloadN X2108 H d16_26 rfl rfl 27 rfl ?_
  refine gIconst X2108 H d16_27 (z := 1) rfl 28 rfl ?_
  have c2110 := (q2100.wr W2108)
  have c2113 := (q2102.other W2108 (Or.inl q2112))
  have c2114 := (q2101.other W2108 (Or.inl q2112))
  refine gPrivate X2108 H hZ hown (hw _ wd121) (hw _ wd122) (hw _ wd123) (hw _ wd65) (by decide) c2110 (hw _ wd124) (hw _ wd66) (rm289_18 B ro0 ro1 _ O2108 c2113 c2114 (Arv.arl V2108)) e2108 hml rfl pd6 rfl (W := 1) (argsL := [(.int 1)]) (rest := [(.ref ro0)]) rfl rfl d16_28 31 rfl ?_
  intro v2115 T2115 L2115 hq2115 X2115
  obtain ⟨rfl, e2115, rfl⟩ := hq2115
  have N2115 := Fr.app N2108 (Fr.nil _)
  show Go _ _ _ _ (State.setTop _ (mkF _ 31 _ [(.int 1), (.ref ro0)]))
  refine gPutF X2115 H hZ hown (hw _ wd125) Via.refl e2115 c2113 c2110 (Or.inl (hw _ wd126)) (hw _ wd65) (ty := .int) (by decide) (v' := (.int 1)) rfl rfl d16_31 34 rfl ?_
  intro T2116 h2116 X2116 e2116 W2116 F2116
  have O2116 := extW O2108 W2116 q2117
  have N2116 := Fr.snoc X2116 N2115 q2117
  refine gAloadN X2116 H d16_34 rfl rfl 35 rfl ?_
  refine gDup X2116 H d16_35 rfl 36 rfl ?_
  have c2118 := ((q2098.other W2108 (Or.inl q2112)).other W2116 (Or.inr (sn16 hw)))
  refine gGetF X2116 H hZ hown (hw _ wd98) Via.refl e2116 c2118 d16_36 39 rfl ?_
  intro T2119 X2119 e2119
  refine gIconst X2119 H d16_39 (z := 1) rfl 40 rfl ?_
  refine g_isub X2119 H d16_40 (z := 1) (by decide) 41 rfl ?_
  have c2121 := (c2110.wr W2116)
  refine gPutF X2119 H hZ hown (hw _ wd98) Via.refl e2119 c2118 c2121 (Or.inl (hw _ wd99)) (hw _ wd65) (ty := .int) (by decide) (v' := (.int 1)) rfl rfl d16_41 44 rfl ?_
  intro T2120 h2120 X2120 e2120 W2120 F2120
  have O2120 := extW O2116 W2120 q2117
  have N2120 := Fr.snoc X2120 N2116 q2117
  refine gAloadN X2120 H d16_44 rfl rfl 45 rfl ?_
  refine gDup X2120 H d16_45 rfl 46 rfl ?_
  have c2123 := (((q2122.other W2108 (Or.inl q2112)).other W2116 (Or.inr (sn17 hw))).other W2120 (Or.inr (sn12 hw)))
  refine gGetF X2120 H hZ hown (hw _ wd105) Via.refl e2120 c2123 d16_46 49 rfl ?_
  intro T2124 X2124 e2124
  refine gLconst X2124 H d16_49 (z := 1) rfl 50 rfl ?_
  refine g_ladd X2124 H d16_50 (z := 1) (by decide) 51 rfl ?_
  have c2126 := (c2121.wr W2120)
  refine gPutF X2124 H hZ hown (hw _ wd105) Via.refl e2124 c2123 c2126 (Or.inl (hw _ wd106)) (hw _ wd65) (ty := .long) (by decide) (v' := (.long 1)) rfl rfl d16_51 54 rfl ?_
  intro T2125 h2125 X2125 e2125 W2125 F2125
  have O2125 := extW O2120 W2125 q2117
  have N2125 := Fr.snoc X2125 N2120 q2117
  refine gAloadN X2125 H d16_54 rfl rfl 55 rfl ?_
  have c2127 := (((V2108.other W2116 (Ne.symm q2112)).other W2120 (Ne.symm q2112)).other W2125 (Ne.symm q2112))
  have c2128 := (F2120.other W2125 (Or.inr (sn21 hw)))
  have c2129 := (c2126.wr W2125)
  have c2130 := (((c2114.other W2116 (Or.inr (sn18 hw))).other W2120 (Or.inr (sn9 hw))).other W2125 (Or.inr (sn19 hw)))
  have c2131 := ((F2116.other W2120 (Or.inr (sn15 hw))).other W2125 (Or.inr (sn20 hw)))
  have c2133 := ((((q2132.other W2108 (Or.inl q2112)).other W2116 (Or.inr (sn22 hw))).other W2120 (Or.inr (sn8 hw))).other W2125 (Or.inr (sn23 hw)))
  have K_2134 := (Keep.refl h [ro1, ro0]).wr W2108 (Or.inl (List.mem_of_getElem? (i := 0) rfl))
  have K_2135 := K_2134.wr W2116 (Or.inl (List.mem_of_getElem? (i := 1) rfl))
  have K_2136 := K_2135.wr W2120 (Or.inl (List.mem_of_getElem? (i := 1) rfl))
  have K_2137 := K_2136.wr W2125 (Or.inl (List.mem_of_getElem? (i := 1) rfl))
  exact gRetA X2125 H hlk hret rfl rfl rfl d16_55 e2125 ⟨rfl, N2125, K_2137, c2128, c2129, c2130, c2131, c2127, F2125, c2133⟩
theorem rm2150_15 (B : Bg Z a0 wE0 w_cacheI k_wE0 cl_cacheI) (ro0 ro1 : Addr) (ck2 : ClassId) (ro3 ro4 : Addr) (h : Heap) (O : Ext Z.heap h) (q2097 : Exa Z h ro0 cs3) (q2111 : ro0 ≠ ro1) (q2139 : Fld Z h ro0 cs3 "size" "I" (.int 2)) (q2140 : Fld Z h ro0 cs3 "buffer" cs2 (.ref ro1)) (q2141 : Fld Z h ro0 cs3 "head" "I" (.int 0)) (q2142 : Arl Z h ro1 (2 : Int32)) (q2143 : Arv Z h ro1 ck2 (.object "java/lang/Object") (2 : Int32) [(.ref ro3), (.ref ro4)] .null) (q2144 : Z.heap.size ≤ ro1) (q2145 : Z.heap.size ≤ ro0) (q2146 : Fld Z h ro0 cs3 "firstNumber" "J" (.long 0)) (q2147 : Fld Z h ro0 cs3 "serial" "I" (.int 1)) :
    Con l Z yM15 method_2_code 2 none ({ frames := 3, cells := 0, slots := 0, locals := 41 } : Room) #[(.ref ro0), (.int 1)] h (fun v h' L => v = none ∧ Fr Z.heap.size L ∧ Keep h h' [ro1, ro0] ∧ Exa Z h' ro0 cs3 ∧ Fld Z h' ro0 cs3 "size" "I" (.int 1) ∧ Fld Z h' ro0 cs3 "buffer" cs2 (.ref ro1) ∧ Fld Z h' ro0 cs3 "head" "I" (.int 1) ∧ Arv Z h' ro1 ck2 (.object "java/lang/Object") (2 : Int32) [.null, (.ref ro4)] .null ∧ Fld Z h' ro0 cs3 "firstNumber" "J" (.long 1) ∧ Fld Z h' ro0 cs3 "serial" "I" (.int 1)) := by
  have hw := B.1
  refine Con.of (plainFor_of_name pn15) (Ls := #[vR ro0, vI 1]) (fun _ => rfl) ?_
  intro p e s m below meth c T0 X0 H hml hZ hown hnm hret hlk e0
  have N0 := Fr.nil Z.heap.size
  refine gIloadN X0 H d15_0 rfl 1 rfl ?_
  refine gIfN X0 H d15_1 (by decide) 4 rfl ?_
  refine gAloadN X0 H d15_4 rfl rfl 5 rfl ?_
  refine gVirt X0 H hZ hown (hw _ wd111) (hw _ wd112) (hw _ wd114) (hw _ wd113) (by decide) q2097 (hw _ wd115) (hw _ wd66) (rm2138_16 B ro0 ro1 ck2 ro3 ro4 _ O q2139 q2097 q2140 q2141 q2142 q2143 q2144 q2111 q2145 q2146 q2147) e0 hml rfl pd13 rfl (W := 0) (argsL := []) (rest := []) rfl rfl d15_5 8 rfl ?_
  intro v2148 T2148 L2148 hq2148 X2148
  obtain ⟨rfl, N2148q, K2148, f2148_0, f2148_1, f2148_2, f2148_3, f2148_4, f2148_5, f2148_6⟩ := hq2148
  have O2148 := extK O K2148 (allS q2144 (allS q2145 all0))
  have N2148 := Fr.app N0 N2148q
  show Go _ _ _ _ (State.setTop _ (mkF _ 8 _ [(.ref ro3)]))
  refine gPop X2148 H d15_8 rfl 9 rfl ?_
  refine gGoto X2148 H d15_9 (by decide) 21 rfl ?_
  have K_2149 := (Keep.refl h [ro1, ro0]).trans K2148 (allS (Or.inl (List.mem_of_getElem? (i := 0) rfl)) (allS (Or.inl (List.mem_of_getElem? (i := 1) rfl)) all0))
  exact gRetV X2148 H hlk hret d15_21 rfl ⟨rfl, N2148, K_2149, f2148_1, f2148_0, f2148_2, f2148_3, f2148_4, f2148_5, f2148_6⟩
theorem rm2165_17 (B : Bg Z a0 wE0 w_cacheI k_wE0 cl_cacheI) (ro0 ro1 : Addr) (ck2 : ClassId) (ro3 : Addr) (h : Heap) (O : Ext Z.heap h) (q2157 : Fld Z h ro0 cs3 "buffer" cs2 (.ref ro1)) (q2159 : Exa Z h ro0 cs3) (q2160 : Fld Z h ro0 cs3 "head" "I" (.int 1)) (q2161 : Arl Z h ro1 (2 : Int32)) (q2164 : Arv Z h ro1 ck2 (.object "java/lang/Object") (2 : Int32) [.null, (.ref ro3)] .null) :
    Con l Z yM17 prog_50_method_4_code 2 (some (.object "java/lang/Object")) ({ frames := 1, cells := 0, slots := 0, locals := 15 } : Room) #[(.ref ro0), (.int 0)] h (fun v h' L => v = some (.ref ro3) ∧ h' = h ∧ L = []) := by
  have hw := B.1
  refine Con.of (plainFor_of_name pn17) (Ls := #[vR ro0, vI 0]) (fun _ => rfl) ?_
  intro p e s m below meth c T0 X0 H hml hZ hown hnm hret hlk e0
  have N0 := Fr.nil Z.heap.size
  refine gAloadN X0 H d17_0 rfl rfl 1 rfl ?_
  refine gGetF X0 H hZ hown (hw _ wd96) Via.refl e0 q2157 d17_1 4 rfl ?_
  intro T2158 X2158 e2158
  refine gAloadN X2158 H d17_4 rfl rfl 5 rfl ?_
  refine gIloadN X2158 H d17_5 rfl 6 rfl ?_
  refine gPrivate X2158 H hZ hown (hw _ wd121) (hw _ wd122) (hw _ wd123) (hw _ wd65) (by decide) q2159 (hw _ wd124) (hw _ wd66) (rm310_18 B ro0 ro1 _ O q2160 q2157 q2161) e2158 hml rfl pd6 rfl (W := 1) (argsL := [(.int 0)]) (rest := [(.ref ro1)]) rfl rfl d17_6 9 rfl ?_
  intro v2162 T2162 L2162 hq2162 X2162
  obtain ⟨rfl, e2162, rfl⟩ := hq2162
  have N2162 := Fr.app N0 (Fr.nil _)
  show Go _ _ _ _ (State.setTop _ (mkF _ 9 _ [(.int 1), (.ref ro1)]))
  refine gAaload X2162 H hZ e2162 rfl q2164 ⟨by decide, by decide⟩ (v := (.ref ro3)) rfl d17_9 10 rfl ?_
  exact gRetA X2162 H hlk hret rfl rfl rfl d17_10 e2162 ⟨rfl, rfl, rfl⟩
theorem rm2203_16 (B : Bg Z a0 wE0 w_cacheI k_wE0 cl_cacheI) (ro0 ro1 : Addr) (ck2 : ClassId) (ro3 : Addr) (h : Heap) (O : Ext Z.heap h) (q2154 : Fld Z h ro0 cs3 "size" "I" (.int 1)) (q2156 : Exa Z h ro0 cs3) (q2166 : Fld Z h ro0 cs3 "buffer" cs2 (.ref ro1)) (q2167 : Fld Z h ro0 cs3 "head" "I" (.int 1)) (q2168 : Arl Z h ro1 (2 : Int32)) (q2169 : Arv Z h ro1 ck2 (.object "java/lang/Object") (2 : Int32) [.null, (.ref ro3)] .null) (q2174 : Z.heap.size ≤ ro1) (q2177 : ro0 ≠ ro1) (q2182 : Z.heap.size ≤ ro0) (q2187 : Fld Z h ro0 cs3 "firstNumber" "J" (.long 1)) (q2197 : Fld Z h ro0 cs3 "serial" "I" (.int 1)) :
    Con l Z yM16 prog_50_method_10_code 2 (some (.object "java/lang/Object")) ({ frames := 2, cells := 0, slots := 0, locals := 28 } : Room) #[(.ref ro0)] h (fun v h' L => v = some (.ref ro3) ∧ Fr Z.heap.size L ∧ Keep h h' [ro1, ro0] ∧ Fld Z h' ro0 cs3 "size" "I" (.int 0) ∧ Exa Z h' ro0 cs3 ∧ Fld Z h' ro0 cs3 "buffer" cs2 (.ref ro1) ∧ Fld Z h' ro0 cs3 "head" "I" (.int 0) ∧ Arv Z h' ro1 ck2 (.object "java/lang/Object") (2 : Int32) [.null, .null] .null ∧ Fld Z h' ro0 cs3 "firstNumber" "J" (.long 2) ∧ Fld Z h' ro0 cs3 "serial" "I" (.int 1)) := by
  have hw := B.1
  refine Con.of (plainFor_of_name pn16) (Ls := #[vR ro0, .unset]) (fun _ => rfl) ?_
  intro p e s m below meth c T0 X0 H hml hZ hown hnm hret hlk e0
  have N0 := Fr.nil Z.heap.size
  refine gAloadN X0 H d16_0 rfl rfl 1 rfl ?_
  refine gGetF X0 H hZ hown (hw _ wd98) Via.refl e0 q2154 d16_1 4 rfl ?_
  intro T2155 X2155 e2155
  refine gIfY X2155 H d16_4 (by decide) (by decide) 9 rfl ?_
  refine gAloadN X2155 H d16_9 rfl rfl 10 rfl ?_
  refine gIconst X2155 H d16_10 (z := 0) rfl 11 rfl ?_
  refine gVirt X2155 H hZ hown (hw _ wd116) (hw _ wd117) (hw _ wd119) (hw _ wd118) (by decide) q2156 (hw _ wd120) (hw _ wd66) (rm2165_17 B ro0 ro1 ck2 ro3 _ O q2166 q2156 q2167 q2168 q2169) e2155 hml rfl pd11 rfl (W := 0) (argsL := [(.int 0)]) (rest := []) rfl rfl d16_11 14 rfl ?_
  intro v2170 T2170 L2170 hq2170 X2170
  obtain ⟨rfl, e2170, rfl⟩ := hq2170
  have N2170 := Fr.app N0 (Fr.nil _)
  show Go _ _ _ _ (State.setTop _ (mkF _ 14 _ [(.ref ro3)]))
  refine gAstoreN X2170 H d16_14 rfl (Ls' := #[vR ro0, vR ro3]) rfl 15 rfl ?_
  refine gAloadN X2170 H d16_15 rfl rfl 16 rfl ?_
  refine gGetF X2170 H hZ hown (hw _ wd96) Via.refl e2170 q2166 d16_16 19 rfl ?_
  intro T2171 X2171 e2171
  refine gAloadN X2171 H d16_19 rfl rfl 20 rfl ?_
  refine gGetF X2171 H hZ hown (hw _ wd125) Via.refl e2171 q2167 d16_20 23 rfl ?_
  intro T2172 X2172 e2172
  refine gNull X2172 H d16_23 24 rfl ?_
  refine gAastore X2172 H hZ e2172 rfl (Or.inl rfl) q2169 ⟨by decide, by decide⟩ (i := 1) rfl (Nat.le_of_ble_eq_true rfl) (vs' := [.null, .null]) rfl d16_24 25 rfl ?_
  intro T2173 h2173 X2173 e2173 W2173 V2173
  have O2173 := extW O W2173 q2174
  have N2173 := Fr.snoc X2173 N2170 q2174
  refine gAloadN X2173 H d16_25 rfl rfl 26 rfl ?_
  refine gAloadN X2173 H d16_26 rfl rfl 27 rfl ?_
  refine gIconst X2173 H d16_27 (z := 1) rfl 28 rfl ?_
  have c2175 := (q2156.wr W2173)
  have c2178 := (q2167.other W2173 (Or.inl q2177))
  have c2179 := (q2166.other W2173 (Or.inl q2177))
  refine gPrivate X2173 H hZ hown (hw _ wd121) (hw _ wd122) (hw _ wd123) (hw _ wd65) (by decide) c2175 (hw _ wd124) (hw _ wd66) (rm419_18 B ro0 ro1 _ O2173 c2178 c2179 (Arv.arl V2173)) e2173 hml rfl pd6 rfl (W := 1) (argsL := [(.int 1)]) (rest := [(.ref ro0)]) rfl rfl d16_28 31 rfl ?_
  intro v2180 T2180 L2180 hq2180 X2180
  obtain ⟨rfl, e2180, rfl⟩ := hq2180
  have N2180 := Fr.app N2173 (Fr.nil _)
  show Go _ _ _ _ (State.setTop _ (mkF _ 31 _ [(.int 0), (.ref ro0)]))
  refine gPutF X2180 H hZ hown (hw _ wd125) Via.refl e2180 c2178 c2175 (Or.inl (hw _ wd126)) (hw _ wd65) (ty := .int) (by decide) (v' := (.int 0)) rfl rfl d16_31 34 rfl ?_
  intro T2181 h2181 X2181 e2181 W2181 F2181
  have O2181 := extW O2173 W2181 q2182
  have N2181 := Fr.snoc X2181 N2180 q2182
  refine gAloadN X2181 H d16_34 rfl rfl 35 rfl ?_
  refine gDup X2181 H d16_35 rfl 36 rfl ?_
  have c2183 := ((q2154.other W2173 (Or.inl q2177)).other W2181 (Or.inr (sn16 hw)))
  refine gGetF X2181 H hZ hown (hw _ wd98) Via.refl e2181 c2183 d16_36 39 rfl ?_
  intro T2184 X2184 e2184
  refine gIconst X2184 H d16_39 (z := 1) rfl 40 rfl ?_
  refine g_isub X2184 H d16_40 (z := 0) (by decide) 41 rfl ?_
  have c2186 := (c2175.wr W2181)
  refine gPutF X2184 H hZ hown (hw _ wd98) Via.refl e2184 c2183 c2186 (Or.inl (hw _ wd99)) (hw _ wd65) (ty := .int) (by decide) (v' := (.int 0)) rfl rfl d16_41 44 rfl ?_
  intro T2185 h2185 X2185 e2185 W2185 F2185
  have O2185 := extW O2181 W2185 q2182
  have N2185 := Fr.snoc X2185 N2181 q2182
  refine gAloadN X2185 H d16_44 rfl rfl 45 rfl ?_
  refine gDup X2185 H d16_45 rfl 46 rfl ?_
  have c2188 := (((q2187.other W2173 (Or.inl q2177)).other W2181 (Or.inr (sn17 hw))).other W2185 (Or.inr (sn12 hw)))
  refine gGetF X2185 H hZ hown (hw _ wd105) Via.refl e2185 c2188 d16_46 49 rfl ?_
  intro T2189 X2189 e2189
  refine gLconst X2189 H d16_49 (z := 1) rfl 50 rfl ?_
  refine g_ladd X2189 H d16_50 (z := 2) (by decide) 51 rfl ?_
  have c2191 := (c2186.wr W2185)
  refine gPutF X2189 H hZ hown (hw _ wd105) Via.refl e2189 c2188 c2191 (Or.inl (hw _ wd106)) (hw _ wd65) (ty := .long) (by decide) (v' := (.long 2)) rfl rfl d16_51 54 rfl ?_
  intro T2190 h2190 X2190 e2190 W2190 F2190
  have O2190 := extW O2185 W2190 q2182
  have N2190 := Fr.snoc X2190 N2185 q2182
  refine gAloadN X2190 H d16_54 rfl rfl 55 rfl ?_
  have c2192 := (((V2173.other W2181 (Ne.symm q2177)).other W2185 (Ne.symm q2177)).other W2190 (Ne.symm q2177))
  have c2193 := (F2185.other W2190 (Or.inr (sn21 hw)))
  have c2194 := (c2191.wr W2190)
  have c2195 := (((c2179.other W2181 (Or.inr (sn18 hw))).other W2185 (Or.inr (sn9 hw))).other W2190 (Or.inr (sn19 hw)))
  have c2196 := ((F2181.other W2185 (Or.inr (sn15 hw))).other W2190 (Or.inr (sn20 hw)))
  have c2198 := ((((q2197.other W2173 (Or.inl q2177)).other W2181 (Or.inr (sn22 hw))).other W2185 (Or.inr (sn8 hw))).other W2190 (Or.inr (sn23 hw)))
  have K_2199 := (Keep.refl h [ro1, ro0]).wr W2173 (Or.inl (List.mem_of_getElem? (i := 0) rfl))
  have K_2200 := K_2199.wr W2181 (Or.inl (List.mem_of_getElem? (i := 1) rfl))
  have K_2201 := K_2200.wr W2185 (Or.inl (List.mem_of_getElem? (i := 1) rfl))
  have K_2202 := K_2201.wr W2190 (Or.inl (List.mem_of_getElem? (i := 1) rfl))
  exact gRetA X2190 H hlk hret rfl rfl rfl d16_55 e2190 ⟨rfl, N2190, K_2202, c2193, c2194, c2195, c2196, c2192, F2190, c2198⟩
theorem rm2215_15 (B : Bg Z a0 wE0 w_cacheI k_wE0 cl_cacheI) (ro0 ro1 : Addr) (ck2 : ClassId) (ro3 : Addr) (h : Heap) (O : Ext Z.heap h) (q2153 : Exa Z h ro0 cs3) (q2176 : ro0 ≠ ro1) (q2204 : Fld Z h ro0 cs3 "size" "I" (.int 1)) (q2205 : Fld Z h ro0 cs3 "buffer" cs2 (.ref ro1)) (q2206 : Fld Z h ro0 cs3 "head" "I" (.int 1)) (q2207 : Arl Z h ro1 (2 : Int32)) (q2208 : Arv Z h ro1 ck2 (.object "java/lang/Object") (2 : Int32) [.null, (.ref ro3)] .null) (q2209 : Z.heap.size ≤ ro1) (q2210 : Z.heap.size ≤ ro0) (q2211 : Fld Z h ro0 cs3 "firstNumber" "J" (.long 1)) (q2212 : Fld Z h ro0 cs3 "serial" "I" (.int 1)) :
    Con l Z yM15 method_2_code 2 none ({ frames := 3, cells := 0, slots := 0, locals := 41 } : Room) #[(.ref ro0), (.int 1)] h (fun v h' L => v = none ∧ Fr Z.heap.size L ∧ Keep h h' [ro1, ro0] ∧ Exa Z h' ro0 cs3 ∧ Fld Z h' ro0 cs3 "size" "I" (.int 0) ∧ Fld Z h' ro0 cs3 "buffer" cs2 (.ref ro1) ∧ Fld Z h' ro0 cs3 "head" "I" (.int 0) ∧ Arv Z h' ro1 ck2 (.object "java/lang/Object") (2 : Int32) [.null, .null] .null ∧ Fld Z h' ro0 cs3 "firstNumber" "J" (.long 2) ∧ Fld Z h' ro0 cs3 "serial" "I" (.int 1)) := by
  have hw := B.1
  refine Con.of (plainFor_of_name pn15) (Ls := #[vR ro0, vI 1]) (fun _ => rfl) ?_
  intro p e s m below meth c T0 X0 H hml hZ hown hnm hret hlk e0
  have N0 := Fr.nil Z.heap.size
  refine gIloadN X0 H d15_0 rfl 1 rfl ?_
  refine gIfN X0 H d15_1 (by decide) 4 rfl ?_
  refine gAloadN X0 H d15_4 rfl rfl 5 rfl ?_
  refine gVirt X0 H hZ hown (hw _ wd111) (hw _ wd112) (hw _ wd114) (hw _ wd113) (by decide) q2153 (hw _ wd115) (hw _ wd66) (rm2203_16 B ro0 ro1 ck2 ro3 _ O q2204 q2153 q2205 q2206 q2207 q2208 q2209 q2176 q2210 q2211 q2212) e0 hml rfl pd13 rfl (W := 0) (argsL := []) (rest := []) rfl rfl d15_5 8 rfl ?_
  intro v2213 T2213 L2213 hq2213 X2213
  obtain ⟨rfl, N2213q, K2213, f2213_0, f2213_1, f2213_2, f2213_3, f2213_4, f2213_5, f2213_6⟩ := hq2213
  have O2213 := extK O K2213 (allS q2209 (allS q2210 all0))
  have N2213 := Fr.app N0 N2213q
  show Go _ _ _ _ (State.setTop _ (mkF _ 8 _ [(.ref ro3)]))
  refine gPop X2213 H d15_8 rfl 9 rfl ?_
  refine gGoto X2213 H d15_9 (by decide) 21 rfl ?_
  have K_2214 := (Keep.refl h [ro1, ro0]).trans K2213 (allS (Or.inl (List.mem_of_getElem? (i := 0) rfl)) (allS (Or.inl (List.mem_of_getElem? (i := 1) rfl)) all0))
  exact gRetV X2213 H hlk hret d15_21 rfl ⟨rfl, N2213, K_2214, f2213_1, f2213_0, f2213_2, f2213_3, f2213_4, f2213_5, f2213_6⟩
theorem rm2220_19 (B : Bg Z a0 wE0 w_cacheI k_wE0 cl_cacheI) (h : Heap) (O : Ext Z.heap h) :
    Con l Z yM19 jdk_29_method_69_code 2 (some .int) ({ frames := 0, cells := 0, slots := 0, locals := 0 } : Room) #[(.int 3), (.int 2)] h (fun v h' L => v = some (.int 2) ∧ h' = h ∧ L = []) := by
  refine Con.of (Jvm.Free.JP.mathPlain rfl (by decide +kernel)) (Ls := #[vI 3, vI 2]) (fun _ => rfl) ?_
  intro p e s m below meth c T0 X0 H hml hZ hown hnm hret hlk e0
  refine gIloadN X0 H d19_0 rfl 1 rfl ?_
  refine gIloadN X0 H d19_1 rfl 2 rfl ?_
  refine gCmpY X0 H d19_2 (by decide) (by decide) 9 rfl ?_
  refine gIloadN X0 H d19_9 rfl 10 rfl ?_
  exact gRetI X0 H hlk hret d19_10 e0 ⟨rfl, rfl, rfl⟩
theorem rm2223_19 (B : Bg Z a0 wE0 w_cacheI k_wE0 cl_cacheI) (h : Heap) (O : Ext Z.heap h) :
    Con l Z yM19 jdk_29_method_69_code 2 (some .int) ({ frames := 0, cells := 0, slots := 0, locals := 0 } : Room) #[(.int 2), (.int 2)] h (fun v h' L => v = some (.int 2) ∧ h' = h ∧ L = []) := by
  refine Con.of (Jvm.Free.JP.mathPlain rfl (by decide +kernel)) (Ls := #[vI 2, vI 2]) (fun _ => rfl) ?_
  intro p e s m below meth c T0 X0 H hml hZ hown hnm hret hlk e0
  refine gIloadN X0 H d19_0 rfl 1 rfl ?_
  refine gIloadN X0 H d19_1 rfl 2 rfl ?_
  refine gCmpN X0 H d19_2 (by decide) 5 rfl ?_
  refine gIloadN X0 H d19_5 rfl 6 rfl ?_
  refine gGoto X0 H d19_6 (by decide) 10 rfl ?_
  exact gRetI X0 H hlk hret d19_10 e0 ⟨rfl, rfl, rfl⟩
theorem rm2226_19 (B : Bg Z a0 wE0 w_cacheI k_wE0 cl_cacheI) (h : Heap) (O : Ext Z.heap h) :
    Con l Z yM19 jdk_29_method_69_code 2 (some .int) ({ frames := 0, cells := 0, slots := 0, locals := 0 } : Room) #[(.int 1), (.int 2)] h (fun v h' L => v = some (.int 1) ∧ h' = h ∧ L = []) := by
  refine Con.of (Jvm.Free.JP.mathPlain rfl (by decide +kernel)) (Ls := #[vI 1, vI 2]) (fun _ => rfl) ?_
  intro p e s m below meth c T0 X0 H hml hZ hown hnm hret hlk e0
  refine gIloadN X0 H d19_0 rfl 1 rfl ?_
  refine gIloadN X0 H d19_1 rfl 2 rfl ?_
  refine gCmpN X0 H d19_2 (by decide) 5 rfl ?_
  refine gIloadN X0 H d19_5 rfl 6 rfl ?_
  refine gGoto X0 H d19_6 (by decide) 10 rfl ?_
  exact gRetI X0 H hlk hret d19_10 e0 ⟨rfl, rfl, rfl⟩
theorem rm2229_19 (B : Bg Z a0 wE0 w_cacheI k_wE0 cl_cacheI) (h : Heap) (O : Ext Z.heap h) :
    Con l Z yM19 jdk_29_method_69_code 2 (some .int) ({ frames := 0, cells := 0, slots := 0, locals := 0 } : Room) #[(.int 0), (.int 2)] h (fun v h' L => v = some (.int 0) ∧ h' = h ∧ L = []) := by
  refine Con.of (Jvm.Free.JP.mathPlain rfl (by decide +kernel)) (Ls := #[vI 0, vI 2]) (fun _ => rfl) ?_
  intro p e s m below meth c T0 X0 H hml hZ hown hnm hret hlk e0
  refine gIloadN X0 H d19_0 rfl 1 rfl ?_
  refine gIloadN X0 H d19_1 rfl 2 rfl ?_
  refine gCmpN X0 H d19_2 (by decide) 5 rfl ?_
  refine gIloadN X0 H d19_5 rfl 6 rfl ?_
  refine gGoto X0 H d19_6 (by decide) 10 rfl ?_
  exact gRetI X0 H hlk hret d19_10 e0 ⟨rfl, rfl, rfl⟩
theorem tail2231_176 (B : Bg Z a0 wE0 w_cacheI k_wE0 cl_cacheI) (p0 : Int64) (p1 : Int32) (p2 : Int32) (p3 : Int32) (o6 : Addr) (o7 : Addr) (u8 : Int32) (u9 : Int32) (u10 : Int64) (u12 : Int32) {p : Program} {e : Env} {s : State} {m : MethodId} {below : List Frame} {meth : Method} {c : Code} {T0 : State} {locs : List Loc} {cells slots : Nat} {h : Heap} (X0 : Stand p l e room_1 s m #[(.long p0), (.int p1), (.int p2), (.int p3)] below meth c T0 locs cells slots) (H : p.tables.exec = Jvm.exec ∧ c.code = code) (hml : c.maxLocals = maxLocals) (hZ : Z.Warmed39 s.vm) (hown : s.vm.findClass x.cls = some m.cls) (hnm : meth.name = x.name) (hret : meth.sig.returnType = ret) (hlk : meth.locks = false) (N0 : Fr Z.heap.size locs) (hC : cells ≤ room_1.cells) (hS : slots ≤ room_1.slots) (e0 : T0.heap = h) (O : Ext Z.heap h) (qq0 : Exa Z h o7 cs3) (qq1 : Fld Z h o7 cs3 "size" "I" (.int 2)) (qq2 : Fld Z h o7 cs3 "firstNumber" "J" (.long u10)) :
    Go p e below (EndK s below (fun v h' L => v = some (.int 1) ∧ Fr Z.heap.size L) room_1.cells room_1.slots) (T0.setTop (mkF m 176 #[vJ p0, .second, vI p1, vI p2, vI p3, vI 2, vR o6, vR o7, vI u8, vI u9, vJ u10, .second, vI u12, .unset, .unset, .unset] [])) := by
  have hw := B.1
  obtain ⟨S_wE0, V_wE0, S_high, S_cacheI, B_cacheI⟩ := B.2
  have M0 := Nat.le_refl h.size
  refine gIloadN X0 H at_176 rfl 177 rfl ?_
  refine gBipush X0 H at_177 (z := 8) rfl 179 rfl ?_
  refine g_iand X0 H at_179 (z := (p1 &&& (8 : Int32))) rfl 180 rfl ?_
  by_cases hc2232 : (p1 &&& (8 : Int32)) = (0 : Int32)
  · refine gIfY X0 H at_180 ((if0 _ _).trans (teq hc2232).1) (by decide) 189 rfl ?_
    refine gLload X0 H at_189 rfl 191 rfl ?_
    refine gIloadN X0 H at_191 rfl 192 rfl ?_
    refine gIconst X0 H at_192 (z := 4) rfl 193 rfl ?_
    refine g_iushr X0 H at_193 (z := ((p1.toUInt32 >>> ((4 : Int32) &&& 31).toUInt32).toInt32)) rfl 194 rfl ?_
    refine gBipush X0 H at_194 (z := 15) rfl 196 rfl ?_
    refine g_iand X0 H at_196 (z := (((p1.toUInt32 >>> ((4 : Int32) &&& 31).toUInt32).toInt32) &&& (15 : Int32))) rfl 197 rfl ?_
    refine gIconst X0 H at_197 (z := 4) rfl 198 rfl ?_
    refine g_isub X0 H at_198 (z := ((((p1.toUInt32 >>> ((4 : Int32) &&& 31).toUInt32).toInt32) &&& (15 : Int32)) - (4 : Int32))) rfl 199 rfl ?_
    refine g_i2l X0 H at_199 (z := (((((p1.toUInt32 >>> ((4 : Int32) &&& 31).toUInt32).toInt32) &&& (15 : Int32)) - (4 : Int32)).toInt64)) rfl 200 rfl ?_
    refine g_ladd X0 H at_200 (z := (u10 + (((((p1.toUInt32 >>> ((4 : Int32) &&& 31).toUInt32).toInt32) &&& (15 : Int32)) - (4 : Int32)).toInt64))) rfl 201 rfl ?_
    refine gLstore X0 H at_201 (Ls' := #[vJ p0, .second, vI p1, vI p2, vI p3, vI 2, vR o6, vR o7, vI u8, vI u9, vJ u10, .second, vJ (u10 + (((((p1.toUInt32 >>> ((4 : Int32) &&& 31).toUInt32).toInt32) &&& (15 : Int32)) - (4 : Int32)).toInt64)), .second, .unset, .unset]) rfl 203 rfl ?_
    exact tail608_203 B p0 p1 p2 p3 o6 o7 u8 u9 u10 ((u10 + (((((p1.toUInt32 >>> ((4 : Int32) &&& 31).toUInt32).toInt32) &&& (15 : Int32)) - (4 : Int32)).toInt64))) X0 H hml hZ hown hnm hret hlk N0 hC hS e0 O qq0 qq1 qq2
  · refine gIfN X0 H at_180 ((if0 _ _).trans (feq hc2232).1) 183 rfl ?_
    refine gLloadN X0 H at_183 rfl 184 rfl ?_
    refine gLstore X0 H at_184 (Ls' := #[vJ p0, .second, vI p1, vI p2, vI p3, vI 2, vR o6, vR o7, vI u8, vI u9, vJ u10, .second, vJ p0, .second, .unset, .unset]) rfl 186 rfl ?_
    refine gGoto X0 H at_186 (by decide) 203 rfl ?_
    exact tail608_203 B p0 p1 p2 p3 o6 o7 u8 u9 u10 p0 X0 H hml hZ hown hnm hret hlk N0 hC hS e0 O qq0 qq1 qq2
theorem lawAll_2 (B : Bg Z a0 wE0 w_cacheI k_wE0 cl_cacheI) (p0 : Int64) (p1 : Int32) (p2 : Int32) (p3 : Int32) (ha0 : (p2 &&& (3 : Int32)) = (2 : Int32)) :
    Con l Z x code maxLocals ret room_1 #[(.long p0), (.int p1), (.int p2), (.int p3)] Z.heap (fun v h' L => v = some (.int 1) ∧ Fr Z.heap.size L) := by
  have hw := B.1
  obtain ⟨S_wE0, V_wE0, S_high, S_cacheI, B_cacheI⟩ := B.2
  refine Con.of (plainFor_of_name pn0) (Ls := #[vJ p0, .second, vI p1, vI p2, vI p3, .unset, .unset, .unset, .unset, .unset, .unset, .unset, .unset, .unset, .unset, .unset]) (fun _ => by first | (simp [entryFrame, mkF, argsToLocals, Value.category, maxLocals]; done) | rfl) ?_
  intro p e s m below meth c T0 X0 H hml hZ hown hnm hret hlk e0
  have O0 := extR Z.heap
  have M0 := Nat.le_refl Z.heap.size
  have N0 := Fr.nil Z.heap.size
  refine gIloadN X0 H at_0 rfl 1 rfl ?_
  refine gIconst X0 H at_1 (z := 3) rfl 2 rfl ?_
  refine g_iand X0 H at_2 (z := 2) ha0 3 rfl ?_
  refine gIstore X0 H at_3 (Ls' := #[vJ p0, .second, vI p1, vI p2, vI p3, vI 2, .unset, .unset, .unset, .unset, .unset, .unset, .unset, .unset, .unset, .unset]) rfl 5 rfl ?_
  refine gNew X0 H hZ hown (hw _ wd0) (hw _ wd1) (hw _ wd2) e0 (by decide) (by decide) at_5 8 rfl ?_
  intro T1383 h1383 b1383 X1383 e1383 z1383 E1383 A1383 D1383
  have G_b1383 := Nat.le_trans O0.1 (Nat.le_of_eq z1383)
  have sz_b1383 := Nat.le_trans M0 (Nat.le_of_eq z1383)
  have O1383 := extT O0 E1383
  have F1383_modCount : Fld Z h1383 b1383 cs0 "modCount" "I" (.int 0) := D1383 (Or.inl (hw _ wd22)) (ty := .int) (by decide)
  have F1383_elementData : Fld Z h1383 b1383 cs1 "elementData" cs2 .null := D1383 (Or.inl (hw _ wd25)) (ty := (.array (.object "java/lang/Object"))) (by decide)
  have F1383_size : Fld Z h1383 b1383 cs1 "size" "I" (.int 0) := D1383 (Or.inl (hw _ wd41)) (ty := .int) (by decide)
  refine gDup X1383 H at_8 rfl 9 rfl ?_
  refine gSpecial X1383 H hZ hown rfl rfl (hw _ wd3) (hw _ wd4) (by decide) (hw _ wd5) (hw _ wd2) (rm29_1 B b1383 _ O1383 A1383 F1383_modCount G_b1383 F1383_elementData F1383_size) e1383 hml rfl pd0 rfl (W := 1) (argsL := []) (rest := [(.ref b1383)]) rfl rfl at_9 12 rfl ?_
  intro v1384 T1384 L1384 hq1384 X1384
  obtain ⟨rfl, N1384q, K1384, f1384_0, f1384_1, f1384_2, f1384_3⟩ := hq1384
  have O1384 := extK O1383 K1384 (allS G_b1383 all0)
  have N1384 := Fr.app N0 N1384q
  show Go _ _ _ _ (State.setTop _ (mkF _ 12 _ [(.ref b1383)]))
  refine gAstore X1384 H at_12 rfl (Ls' := #[vJ p0, .second, vI p1, vI p2, vI p3, vI 2, vR b1383, .unset, .unset, .unset, .unset, .unset, .unset, .unset, .unset, .unset]) rfl 14 rfl ?_
  refine gIload X1384 H at_14 rfl 16 rfl ?_
  refine gIfN X1384 H at_16 (by decide) 19 rfl ?_
  refine gAload X1384 H at_19 rfl rfl 21 rfl ?_
  refine gBipush X1384 H at_21 (z := 10) rfl 23 rfl ?_
  refine gStatic X1384 H hZ hown (hw _ wd26) (hw _ wd27) (by decide) (hw _ wd29) (hw _ wd28) (rm714_5 B _ O1384) rfl hml rfl pd5 rfl (W := 1) (argsL := [(.int 10)]) (rest := [(.ref b1383)]) rfl rfl at_23 26 rfl ?_
  intro v1385 T1385 L1385 hq1385 X1385
  obtain ⟨b1385_0, rfl, N1385q, K1385, f1385_0⟩ := hq1385
  have O1385 := extK O1384 K1385 all0
  have N1385 := Fr.app N1384 N1385q
  show Go _ _ _ _ (State.setTop _ (mkF _ 26 _ [(.ref b1385_0), (.ref b1383)]))
  have c1386 := (f1384_0.keep K1385)
  have c1387 := (f1384_1.keep K1385 nin0)
  have c1388 := (f1384_2.keep K1385 nin0)
  have c1389 := (f1384_3.keep K1385 nin0)
  refine gVirt X1385 H hZ hown (hw _ wd33) (hw _ wd34) (hw _ wd36) (hw _ wd35) (by decide) c1386 (hw _ wd37) (hw _ wd2) (rm787_6 B b1383 b1385_0 _ O1385 c1387 c1386 G_b1383 c1388 c1389 f1385_0) rfl hml rfl pd17 rfl (W := 0) (argsL := [(.ref b1385_0)]) (rest := []) rfl rfl at_26 29 rfl ?_
  intro v1390 T1390 L1390 hq1390 X1390
  obtain ⟨b1390_0, k1390_0, rfl, N1390q, K1390, s1390_0, f1390_0, f1390_1, f1390_2, f1390_3, f1390_4, f1390_5⟩ := hq1390
  have M1391 := (Nat.le_trans (Nat.le_trans (Nat.le_trans M0 E1383.1) K1384.1) K1385.1)
  have G_b1390_0 := Nat.le_trans O1385.1 s1390_0
  have sz_b1390_0 := Nat.le_trans M1391 s1390_0
  have ne_b1383_b1390_0 : b1383 ≠ b1390_0 := neB c1386.lt s1390_0
  have ne_b1385_0_b1390_0 : b1385_0 ≠ b1390_0 := neB f1385_0.lt s1390_0
  have O1390 := extK O1385 K1390 (allS G_b1383 all0)
  have N1390 := Fr.app N1385 N1390q
  show Go _ _ _ _ (State.setTop _ (mkF _ 29 _ [(.int 1)]))
  refine gPop X1390 H at_29 rfl 30 rfl ?_
  refine gIload X1390 H at_30 rfl 32 rfl ?_
  refine gIconst X1390 H at_32 (z := 1) rfl 33 rfl ?_
  refine gCmpN X1390 H at_33 (by decide) 36 rfl ?_
  refine gAload X1390 H at_36 rfl rfl 38 rfl ?_
  refine gBipush X1390 H at_38 (z := 11) rfl 40 rfl ?_
  refine gStatic X1390 H hZ hown (hw _ wd26) (hw _ wd27) (by decide) (hw _ wd29) (hw _ wd28) (rm1395_5 B _ O1390) rfl hml rfl pd5 rfl (W := 1) (argsL := [(.int 11)]) (rest := [(.ref b1383)]) rfl rfl at_40 43 rfl ?_
  intro v1396 T1396 L1396 hq1396 X1396
  obtain ⟨b1396_0, rfl, N1396q, K1396, f1396_0⟩ := hq1396
  have O1396 := extK O1390 K1396 all0
  have N1396 := Fr.app N1390 N1396q
  show Go _ _ _ _ (State.setTop _ (mkF _ 43 _ [(.ref b1396_0), (.ref b1383)]))
  have c1397 := (f1390_1.keep K1396)
  have c1446 := (f1390_0.keep K1396 nin0)
  have c1447 := (f1390_2.keep K1396 nin0)
  have c1448 := (f1390_3.keep K1396 nin0)
  have c1449 := (f1390_4.keep K1396 nin0)
  refine gVirt X1396 H hZ hown (hw _ wd33) (hw _ wd34) (hw _ wd36) (hw _ wd35) (by decide) c1397 (hw _ wd37) (hw _ wd2) (rm1445_6 B b1383 b1396_0 b1390_0 k1390_0 b1385_0 _ O1396 c1446 c1397 G_b1383 c1447 c1448 ne_b1383_b1390_0 (Arv.arl c1449) c1449 f1396_0 f1390_5 G_b1390_0) rfl hml rfl pd17 rfl (W := 0) (argsL := [(.ref b1396_0)]) (rest := []) rfl rfl at_43 46 rfl ?_
  intro v1450 T1450 L1450 hq1450 X1450
  obtain ⟨rfl, N1450q, K1450, f1450_0, f1450_1, f1450_2, f1450_3, f1450_4⟩ := hq1450
  have O1450 := extK O1396 K1450 (allS G_b1383 (allS G_b1390_0 all0))
  have N1450 := Fr.app N1396 N1450q
  show Go _ _ _ _ (State.setTop _ (mkF _ 46 _ [(.int 1)]))
  refine gPop X1450 H at_46 rfl 47 rfl ?_
  refine gIload X1450 H at_47 rfl 49 rfl ?_
  refine gIconst X1450 H at_49 (z := 2) rfl 50 rfl ?_
  refine gCmpY X1450 H at_50 (by decide) (by decide) 64 rfl ?_
  refine gNew X1450 H hZ hown (hw _ wd64) (hw _ wd65) (hw _ wd66) rfl (by decide) (by decide) at_64 67 rfl ?_
  intro T1451 h1451 b1451 X1451 e1451 z1451 E1451 A1451 D1451
  have M1452 := (Nat.le_trans (Nat.le_trans (Nat.le_trans M1391 K1390.1) K1396.1) K1450.1)
  have G_b1451 := Nat.le_trans O1450.1 (Nat.le_of_eq z1451)
  have sz_b1451 := Nat.le_trans M1452 (Nat.le_of_eq z1451)
  have ne_b1383_b1451 : b1383 ≠ b1451 := neB f1450_1.lt (Nat.le_of_eq z1451)
  have c1453 := (((f1385_0.keep K1390).keep K1396).keep K1450)
  have ne_b1385_0_b1451 : b1385_0 ≠ b1451 := neB c1453.lt (Nat.le_of_eq z1451)
  have ne_b1390_0_b1451 : b1390_0 ≠ b1451 := neB f1450_4.lt (Nat.le_of_eq z1451)
  have c1454 := (f1396_0.keep K1450)
  have ne_b1396_0_b1451 : b1396_0 ≠ b1451 := neB c1454.lt (Nat.le_of_eq z1451)
  have O1451 := extT O1450 E1451
  have F1451_serial : Fld Z h1451 b1451 cs3 "serial" "I" (.int 0) := D1451 (Or.inr (hw _ wd72)) (ty := .int) (by decide)
  have F1451_buffer : Fld Z h1451 b1451 cs3 "buffer" cs2 .null := D1451 (Or.inl (hw _ wd97)) (ty := (.array (.object "java/lang/Object"))) (by decide)
  have F1451_size : Fld Z h1451 b1451 cs3 "size" "I" (.int 0) := D1451 (Or.inl (hw _ wd99)) (ty := .int) (by decide)
  have F1451_firstNumber : Fld Z h1451 b1451 cs3 "firstNumber" "J" (.long 0) := D1451 (Or.inl (hw _ wd106)) (ty := .long) (by decide)
  have F1451_head : Fld Z h1451 b1451 cs3 "head" "I" (.int 0) := D1451 (Or.inl (hw _ wd126)) (ty := .int) (by decide)
  refine gDup X1451 H at_67 rfl 68 rfl ?_
  refine gIconst X1451 H at_68 (z := 1) rfl 69 rfl ?_
  refine gAload X1451 H at_69 rfl rfl 71 rfl ?_
  have c1530 := (f1450_1.ext E1451)
  have c1531 := (f1450_3.ext E1451)
  have c1532 := (f1450_2.ext E1451)
  have c1533 := (f1450_4.ext E1451)
  have c1534 := (c1454.ext E1451)
  have c1535 := (c1453.ext E1451)
  refine gSpecial X1451 H hZ hown rfl rfl (hw _ wd67) (hw _ wd68) (by decide) (hw _ wd69) (hw _ wd66) (rm1529_11 B b1451 b1383 b1390_0 k1390_0 b1385_0 b1396_0 _ O1451 A1451 F1451_serial G_b1451 c1530 c1531 ne_b1383_b1451 c1532 c1533 ne_b1390_0_b1451 c1534 c1535 F1451_buffer F1451_size F1451_firstNumber F1451_head) e1451 hml rfl pd4 rfl (W := 1) (argsL := [(.int 1), (.ref b1383)]) (rest := [(.ref b1451)]) rfl rfl at_71 74 rfl ?_
  intro v1536 T1536 L1536 hq1536 X1536
  obtain ⟨b1536_0, k1536_0, rfl, N1536q, K1536, s1536_0, f1536_0, f1536_1, f1536_2, f1536_3, f1536_4, f1536_5, f1536_6, f1536_7⟩ := hq1536
  have M1537 := (Nat.le_trans M1452 E1451.1)
  have G_b1536_0 := Nat.le_trans O1451.1 s1536_0
  have sz_b1536_0 := Nat.le_trans M1537 s1536_0
  have ne_b1383_b1536_0 : b1383 ≠ b1536_0 := neB c1530.lt s1536_0
  have ne_b1385_0_b1536_0 : b1385_0 ≠ b1536_0 := neB c1535.lt s1536_0
  have ne_b1390_0_b1536_0 : b1390_0 ≠ b1536_0 := neB c1533.lt s1536_0
  have ne_b1396_0_b1536_0 : b1396_0 ≠ b1536_0 := neB c1534.lt s1536_0
  have ne_b1451_b1536_0 : b1451 ≠ b1536_0 := neB A1451.lt s1536_0
  have O1536 := extK O1451 K1536 (allS G_b1451 all0)
  have N1536 := Fr.app N1450 N1536q
  show Go _ _ _ _ (State.setTop _ (mkF _ 74 _ [(.ref b1451)]))
  refine gAstore X1536 H at_74 rfl (Ls' := #[vJ p0, .second, vI p1, vI p2, vI p3, vI 2, vR b1383, vR b1451, .unset, .unset, .unset, .unset, .unset, .unset, .unset, .unset]) rfl 76 rfl ?_
  refine gIload X1536 H at_76 rfl 78 rfl ?_
  refine gIconst X1536 H at_78 (z := 3) rfl 79 rfl ?_
  refine g_iand X1536 H at_79 (z := (p3 &&& (3 : Int32))) rfl 80 rfl ?_
  refine gIstore X1536 H at_80 (Ls' := #[vJ p0, .second, vI p1, vI p2, vI p3, vI 2, vR b1383, vR b1451, vI (p3 &&& (3 : Int32)), .unset, .unset, .unset, .unset, .unset, .unset, .unset]) rfl 82 rfl ?_
  refine gIload X1536 H at_82 rfl 84 rfl ?_
  refine gIconst X1536 H at_84 (z := 4) rfl 85 rfl ?_
  refine g_iand X1536 H at_85 (z := (p3 &&& (4 : Int32))) rfl 86 rfl ?_
  by_cases hc1538 : (p3 &&& (4 : Int32)) = (0 : Int32)
  · refine gIfY X1536 H at_86 ((if0 _ _).trans (teq hc1538).1) (by decide) 93 rfl ?_
    refine gIconst X1536 H at_93 (z := 0) rfl 94 rfl ?_
    refine gIstore X1536 H at_94 (Ls' := #[vJ p0, .second, vI p1, vI p2, vI p3, vI 2, vR b1383, vR b1451, vI (p3 &&& (3 : Int32)), vI 0, .unset, .unset, .unset, .unset, .unset, .unset]) rfl 96 rfl ?_
    refine gIload X1536 H at_96 rfl 98 rfl ?_
    by_cases hc1539 : (0 : Int32) < (p3 &&& (3 : Int32))
    · refine gIfN X1536 H at_98 ((if0 _ _).trans (tlt hc1539).2.2.2) 101 rfl ?_
      refine gAload X1536 H at_101 rfl rfl 103 rfl ?_
      refine gIload X1536 H at_103 rfl 105 rfl ?_
      have c1694 := (c1535.keep K1536)
      have c1695 := (c1534.keep K1536)
      refine gStatic X1536 H hZ hown (hw _ wd107) (hw _ wd108) (by decide) (hw _ wd110) (hw _ wd109) (rm1693_15 B b1451 b1536_0 k1536_0 b1385_0 b1396_0 _ O1536 f1536_0 f1536_4 f1536_3 (Arv.arl f1536_2) f1536_6 f1536_2 c1694 c1695 G_b1451 f1536_1 f1536_5) rfl hml rfl pd9 rfl (W := 0) (argsL := [(.ref b1451), (.int 0)]) (rest := []) rfl rfl at_105 108 rfl ?_
      intro v1696 T1696 L1696 hq1696 X1696
      obtain ⟨b1696_0, b1696_1, k1696_0, rfl, N1696q, K1696, s1696_1, f1696_0, f1696_1, f1696_2, f1696_3, f1696_4, f1696_5, f1696_6, f1696_7, f1696_8, f1696_9⟩ := hq1696
      have M1697 := (Nat.le_trans M1537 K1536.1)
      have G_b1696_1 := Nat.le_trans O1536.1 s1696_1
      have sz_b1696_1 := Nat.le_trans M1697 s1696_1
      have c1698 := (c1530.keep K1536)
      have ne_b1383_b1696_1 : b1383 ≠ b1696_1 := neB c1698.lt s1696_1
      have ne_b1385_0_b1696_1 : b1385_0 ≠ b1696_1 := neB c1694.lt s1696_1
      have c1699 := (c1533.keep K1536 (ninS ne_b1390_0_b1451 nin0))
      have ne_b1390_0_b1696_1 : b1390_0 ≠ b1696_1 := neB c1699.lt s1696_1
      have ne_b1396_0_b1696_1 : b1396_0 ≠ b1696_1 := neB c1695.lt s1696_1
      have ne_b1451_b1696_1 : b1451 ≠ b1696_1 := neB f1536_0.lt s1696_1
      have ne_b1536_0_b1696_1 : b1536_0 ≠ b1696_1 := neB f1536_2.lt s1696_1
      have O1696 := extK O1536 K1696 (allS G_b1451 all0)
      have N1696 := Fr.app N1536 N1696q
      show Go _ _ _ _ (State.setTop _ (mkF _ 108 _ []))
      refine gIload X1696 H at_108 rfl 110 rfl ?_
      refine gIconst X1696 H at_110 (z := 1) rfl 111 rfl ?_
      by_cases hc1700 : (1 : Int32) < (p3 &&& (3 : Int32))
      · refine gCmpN X1696 H at_111 (tlt hc1700).2.2.2 114 rfl ?_
        refine gAload X1696 H at_114 rfl rfl 116 rfl ?_
        refine gIload X1696 H at_116 rfl 118 rfl ?_
        refine gStatic X1696 H hZ hown (hw _ wd107) (hw _ wd108) (by decide) (hw _ wd110) (hw _ wd109) (rm1770_15 B b1451 b1696_1 k1696_0 b1385_0 b1396_0 b1696_0 _ O1696 f1696_1 (Ne.symm ne_b1451_b1696_1) f1696_2 f1696_3 (Arv.arl f1696_7) f1696_4 G_b1451 f1696_6 f1696_7 f1696_9 G_b1696_1 f1696_5) rfl hml rfl pd9 rfl (W := 0) (argsL := [(.ref b1451), (.int 0)]) (rest := []) rfl rfl at_118 121 rfl ?_
        intro v1771 T1771 L1771 hq1771 X1771
        obtain ⟨b1771_0, rfl, N1771q, K1771, f1771_0, f1771_1, f1771_2, f1771_3, f1771_4, f1771_5, f1771_6, f1771_7⟩ := hq1771
        have O1771 := extK O1696 K1771 (allS G_b1451 (allS G_b1696_1 all0))
        have N1771 := Fr.app N1696 N1771q
        show Go _ _ _ _ (State.setTop _ (mkF _ 121 _ []))
        refine gIload X1771 H at_121 rfl 123 rfl ?_
        refine gIconst X1771 H at_123 (z := 2) rfl 124 rfl ?_
        by_cases hc1772 : (2 : Int32) < (p3 &&& (3 : Int32))
        · refine gCmpN X1771 H at_124 (tlt hc1772).2.2.2 127 rfl ?_
          refine gAload X1771 H at_127 rfl rfl 129 rfl ?_
          refine gIload X1771 H at_129 rfl 131 rfl ?_
          have c2019 := (f1696_0.keep K1771)
          have c2020 := ((c1694.keep K1696).keep K1771)
          have c2021 := ((c1695.keep K1696).keep K1771)
          refine gStatic X1771 H hZ hown (hw _ wd107) (hw _ wd108) (by decide) (hw _ wd110) (hw _ wd109) (rm2018_15 B b1451 b1696_1 k1696_0 b1385_0 b1396_0 b1771_0 b1696_0 _ O1771 f1771_1 f1771_2 f1771_3 (Arv.arl f1771_6) f1771_4 f1771_6 f1771_0 c2019 c2020 c2021 G_b1451 f1771_7 f1771_5) rfl hml rfl pd9 rfl (W := 0) (argsL := [(.ref b1451), (.int 0)]) (rest := []) rfl rfl at_131 134 rfl ?_
          intro v2022 T2022 L2022 hq2022 X2022
          obtain ⟨b2022_0, b2022_1, k2022_0, rfl, N2022q, K2022, s2022_1, f2022_0, f2022_1, f2022_2, f2022_3, f2022_4, f2022_5, f2022_6, f2022_7, f2022_8, f2022_9⟩ := hq2022
          have M2023 := (Nat.le_trans (Nat.le_trans M1697 K1696.1) K1771.1)
          have G_b2022_1 := Nat.le_trans O1771.1 s2022_1
          have sz_b2022_1 := Nat.le_trans M2023 s2022_1
          have c2024 := ((c1698.keep K1696).keep K1771)
          have ne_b1383_b2022_1 : b1383 ≠ b2022_1 := neB c2024.lt s2022_1
          have ne_b1385_0_b2022_1 : b1385_0 ≠ b2022_1 := neB c2020.lt s2022_1
          have c2025 := ((c1699.keep K1696 (ninS ne_b1390_0_b1451 nin0)).keep K1771 (ninS ne_b1390_0_b1451 (ninS ne_b1390_0_b1696_1 nin0)))
          have ne_b1390_0_b2022_1 : b1390_0 ≠ b2022_1 := neB c2025.lt s2022_1
          have ne_b1396_0_b2022_1 : b1396_0 ≠ b2022_1 := neB c2021.lt s2022_1
          have ne_b1451_b2022_1 : b1451 ≠ b2022_1 := neB f1771_1.lt s2022_1
          have c2026 := ((f1536_2.keep K1696 (ninS (Ne.symm ne_b1451_b1536_0) nin0)).keep K1771 (ninS (Ne.symm ne_b1451_b1536_0) (ninS ne_b1536_0_b1696_1 nin0)))
          have ne_b1536_0_b2022_1 : b1536_0 ≠ b2022_1 := neB c2026.lt s2022_1
          have ne_b1696_0_b2022_1 : b1696_0 ≠ b2022_1 := neB c2019.lt s2022_1
          have ne_b1696_1_b2022_1 : b1696_1 ≠ b2022_1 := neB f1771_6.lt s2022_1
          have ne_b1771_0_b2022_1 : b1771_0 ≠ b2022_1 := neB f1771_0.lt s2022_1
          have O2022 := extK O1771 K2022 (allS G_b1451 all0)
          have N2022 := Fr.app N1771 N2022q
          show Go _ _ _ _ (State.setTop _ (mkF _ 134 _ []))
          have hP2027 : (p3 &&& (3 : Int32)) = (3 : Int32) := pk3 hc1772
          rw [hP2027]
          refine gIload X2022 H at_134 rfl 136 rfl ?_
          refine gIfY X2022 H at_136 (by decide) (by decide) 163 rfl ?_
          refine gIload X2022 H at_163 rfl 165 rfl ?_
          refine gIload X2022 H at_165 rfl 167 rfl ?_
          refine g_iadd X2022 H at_167 (z := 5) (by decide) 168 rfl ?_
          refine gIstore X2022 H at_168 (Ls' := #[vJ p0, .second, vI p1, vI p2, vI p3, vI 5, vR b1383, vR b1451, vI 3, vI 0, .unset, .unset, .unset, .unset, .unset, .unset]) rfl 170 rfl ?_
          refine gIload X2022 H at_170 rfl 172 rfl ?_
          refine g_ineg X2022 H at_172 (z := (-3)) (by decide) 173 rfl ?_
          refine g_i2l X2022 H at_173 (z := (-3)) (by decide) 174 rfl ?_
          refine gLstore X2022 H at_174 (Ls' := #[vJ p0, .second, vI p1, vI p2, vI p3, vI 5, vR b1383, vR b1451, vI 3, vI 0, vJ (-3), .second, .unset, .unset, .unset, .unset]) rfl 176 rfl ?_
          exact tail2028_176 B p0 p1 p2 p3 b1383 b1451 ((3 : Int32)) ((0 : Int32)) ((-3 : Int64)) X2022 H hml hZ hown hnm hret hlk N2022 (by decide) (by decide) rfl O2022 f2022_1 f2022_2 f2022_6
        · refine gCmpY X1771 H at_124 (flt hc1772).2.2.2 (by decide) 134 rfl ?_
          have hP2093 : (p3 &&& (3 : Int32)) = (2 : Int32) := pk2 hc1700 hc1772
          rw [hP2093]
          refine gIload X1771 H at_134 rfl 136 rfl ?_
          refine gIfY X1771 H at_136 (by decide) (by decide) 163 rfl ?_
          refine gIload X1771 H at_163 rfl 165 rfl ?_
          refine gIload X1771 H at_165 rfl 167 rfl ?_
          refine g_iadd X1771 H at_167 (z := 4) (by decide) 168 rfl ?_
          refine gIstore X1771 H at_168 (Ls' := #[vJ p0, .second, vI p1, vI p2, vI p3, vI 4, vR b1383, vR b1451, vI 2, vI 0, .unset, .unset, .unset, .unset, .unset, .unset]) rfl 170 rfl ?_
          refine gIload X1771 H at_170 rfl 172 rfl ?_
          refine g_ineg X1771 H at_172 (z := (-2)) (by decide) 173 rfl ?_
          refine g_i2l X1771 H at_173 (z := (-2)) (by decide) 174 rfl ?_
          refine gLstore X1771 H at_174 (Ls' := #[vJ p0, .second, vI p1, vI p2, vI p3, vI 4, vR b1383, vR b1451, vI 2, vI 0, vJ (-2), .second, .unset, .unset, .unset, .unset]) rfl 176 rfl ?_
          exact tail1242_176 B p0 p1 p2 p3 b1383 b1451 ((2 : Int32)) ((0 : Int32)) ((-2 : Int64)) X1771 H hml hZ hown hnm hret hlk N1771 (by decide) (by decide) rfl O1771 f1771_1 f1771_2 f1771_5
      · refine gCmpY X1696 H at_111 (flt hc1700).2.2.2 (by decide) 121 rfl ?_
        refine gIload X1696 H at_121 rfl 123 rfl ?_
        refine gIconst X1696 H at_123 (z := 2) rfl 124 rfl ?_
        refine gCmpY X1696 H at_124 (flt (fun q => hc1700 (Int32.lt_trans (by decide) q))).2.2.2 (by decide) 134 rfl ?_
        have hP2094 : (p3 &&& (3 : Int32)) = (1 : Int32) := pk1 hc1539 hc1700
        rw [hP2094]
        refine gIload X1696 H at_134 rfl 136 rfl ?_
        refine gIfY X1696 H at_136 (by decide) (by decide) 163 rfl ?_
        refine gIload X1696 H at_163 rfl 165 rfl ?_
        refine gIload X1696 H at_165 rfl 167 rfl ?_
        refine g_iadd X1696 H at_167 (z := 3) (by decide) 168 rfl ?_
        refine gIstore X1696 H at_168 (Ls' := #[vJ p0, .second, vI p1, vI p2, vI p3, vI 3, vR b1383, vR b1451, vI 1, vI 0, .unset, .unset, .unset, .unset, .unset, .unset]) rfl 170 rfl ?_
        refine gIload X1696 H at_170 rfl 172 rfl ?_
        refine g_ineg X1696 H at_172 (z := (-1)) (by decide) 173 rfl ?_
        refine g_i2l X1696 H at_173 (z := (-1)) (by decide) 174 rfl ?_
        refine gLstore X1696 H at_174 (Ls' := #[vJ p0, .second, vI p1, vI p2, vI p3, vI 3, vR b1383, vR b1451, vI 1, vI 0, vJ (-1), .second, .unset, .unset, .unset, .unset]) rfl 176 rfl ?_
        exact tail556_176 B p0 p1 p2 p3 b1383 b1451 ((1 : Int32)) ((0 : Int32)) ((-1 : Int64)) X1696 H hml hZ hown hnm hret hlk N1696 (by decide) (by decide) rfl O1696 f1696_1 f1696_2 f1696_6
    · refine gIfY X1536 H at_98 ((if0 _ _).trans (flt hc1539).2.2.2) (by decide) 108 rfl ?_
      refine gIload X1536 H at_108 rfl 110 rfl ?_
      refine gIconst X1536 H at_110 (z := 1) rfl 111 rfl ?_
      refine gCmpY X1536 H at_111 (flt (fun q => hc1539 (Int32.lt_trans (by decide) q))).2.2.2 (by decide) 121 rfl ?_
      refine gIload X1536 H at_121 rfl 123 rfl ?_
      refine gIconst X1536 H at_123 (z := 2) rfl 124 rfl ?_
      refine gCmpY X1536 H at_124 (flt (fun q => hc1539 (Int32.lt_trans (by decide) q))).2.2.2 (by decide) 134 rfl ?_
      have hP2095 : (p3 &&& (3 : Int32)) = (0 : Int32) := pk0 hc1539
      rw [hP2095]
      refine gIload X1536 H at_134 rfl 136 rfl ?_
      refine gIfY X1536 H at_136 (by decide) (by decide) 163 rfl ?_
      refine gIload X1536 H at_163 rfl 165 rfl ?_
      refine gIload X1536 H at_165 rfl 167 rfl ?_
      refine g_iadd X1536 H at_167 (z := 2) (by decide) 168 rfl ?_
      refine gIstore X1536 H at_168 (Ls' := #[vJ p0, .second, vI p1, vI p2, vI p3, vI 2, vR b1383, vR b1451, vI 0, vI 0, .unset, .unset, .unset, .unset, .unset, .unset]) rfl 170 rfl ?_
      refine gIload X1536 H at_170 rfl 172 rfl ?_
      refine g_ineg X1536 H at_172 (z := 0) (by decide) 173 rfl ?_
      refine g_i2l X1536 H at_173 (z := 0) (by decide) 174 rfl ?_
      refine gLstore X1536 H at_174 (Ls' := #[vJ p0, .second, vI p1, vI p2, vI p3, vI 2, vR b1383, vR b1451, vI 0, vI 0, vJ 0, .second, .unset, .unset, .unset, .unset]) rfl 176 rfl ?_
      exact tail606_176 B p0 p1 p2 p3 b1383 b1451 ((0 : Int32)) ((0 : Int32)) ((0 : Int64)) X1536 H hml hZ hown hnm hret hlk N1536 (by decide) (by decide) rfl O1536 f1536_0 f1536_4 f1536_5
  · refine gIfN X1536 H at_86 ((if0 _ _).trans (feq hc1538).1) 89 rfl ?_
    refine gIconst X1536 H at_89 (z := 1) rfl 90 rfl ?_
    refine gGoto X1536 H at_90 (by decide) 94 rfl ?_
    refine gIstore X1536 H at_94 (Ls' := #[vJ p0, .second, vI p1, vI p2, vI p3, vI 2, vR b1383, vR b1451, vI (p3 &&& (3 : Int32)), vI 1, .unset, .unset, .unset, .unset, .unset, .unset]) rfl 96 rfl ?_
    refine gIload X1536 H at_96 rfl 98 rfl ?_
    by_cases hc2096 : (0 : Int32) < (p3 &&& (3 : Int32))
    · refine gIfN X1536 H at_98 ((if0 _ _).trans (tlt hc2096).2.2.2) 101 rfl ?_
      refine gAload X1536 H at_101 rfl rfl 103 rfl ?_
      refine gIload X1536 H at_103 rfl 105 rfl ?_
      refine gStatic X1536 H hZ hown (hw _ wd107) (hw _ wd108) (by decide) (hw _ wd110) (hw _ wd109) (rm2150_15 B b1451 b1536_0 k1536_0 b1385_0 b1396_0 _ O1536 f1536_0 ne_b1451_b1536_0 f1536_4 f1536_3 f1536_6 (Arv.arl f1536_2) f1536_2 G_b1536_0 G_b1451 f1536_5 f1536_1) rfl hml rfl pd9 rfl (W := 0) (argsL := [(.ref b1451), (.int 1)]) (rest := []) rfl rfl at_105 108 rfl ?_
      intro v2151 T2151 L2151 hq2151 X2151
      obtain ⟨rfl, N2151q, K2151, f2151_0, f2151_1, f2151_2, f2151_3, f2151_4, f2151_5, f2151_6⟩ := hq2151
      have O2151 := extK O1536 K2151 (allS G_b1536_0 (allS G_b1451 all0))
      have N2151 := Fr.app N1536 N2151q
      show Go _ _ _ _ (State.setTop _ (mkF _ 108 _ []))
      refine gIload X2151 H at_108 rfl 110 rfl ?_
      refine gIconst X2151 H at_110 (z := 1) rfl 111 rfl ?_
      by_cases hc2152 : (1 : Int32) < (p3 &&& (3 : Int32))
      · refine gCmpN X2151 H at_111 (tlt hc2152).2.2.2 114 rfl ?_
        refine gAload X2151 H at_114 rfl rfl 116 rfl ?_
        refine gIload X2151 H at_116 rfl 118 rfl ?_
        refine gStatic X2151 H hZ hown (hw _ wd107) (hw _ wd108) (by decide) (hw _ wd110) (hw _ wd109) (rm2215_15 B b1451 b1536_0 k1536_0 b1396_0 _ O2151 f2151_0 ne_b1451_b1536_0 f2151_1 f2151_2 f2151_3 (Arv.arl f2151_4) f2151_4 G_b1536_0 G_b1451 f2151_5 f2151_6) rfl hml rfl pd9 rfl (W := 0) (argsL := [(.ref b1451), (.int 1)]) (rest := []) rfl rfl at_118 121 rfl ?_
        intro v2216 T2216 L2216 hq2216 X2216
        obtain ⟨rfl, N2216q, K2216, f2216_0, f2216_1, f2216_2, f2216_3, f2216_4, f2216_5, f2216_6⟩ := hq2216
        have O2216 := extK O2151 K2216 (allS G_b1536_0 (allS G_b1451 all0))
        have N2216 := Fr.app N2151 N2216q
        show Go _ _ _ _ (State.setTop _ (mkF _ 121 _ []))
        refine gIload X2216 H at_121 rfl 123 rfl ?_
        refine gIconst X2216 H at_123 (z := 2) rfl 124 rfl ?_
        by_cases hc2217 : (2 : Int32) < (p3 &&& (3 : Int32))
        · refine gCmpN X2216 H at_124 (tlt hc2217).2.2.2 127 rfl ?_
          refine gAload X2216 H at_127 rfl rfl 129 rfl ?_
          refine gIload X2216 H at_129 rfl 131 rfl ?_
          refine gStatic X2216 H hZ hown (hw _ wd107) (hw _ wd108) (by decide) (hw _ wd110) (hw _ wd109) (rm689_15 B b1451 _ O2216 f2216_0 f2216_1) rfl hml rfl pd9 rfl (W := 0) (argsL := [(.ref b1451), (.int 1)]) (rest := []) rfl rfl at_131 134 rfl ?_
          intro v2218 T2218 L2218 hq2218 X2218
          obtain ⟨rfl, e2218, rfl⟩ := hq2218
          have N2218 := Fr.app N2216 (Fr.nil _)
          show Go _ _ _ _ (State.setTop _ (mkF _ 134 _ []))
          have hP2219 : (p3 &&& (3 : Int32)) = (3 : Int32) := pk3 hc2217
          rw [hP2219]
          refine gIload X2218 H at_134 rfl 136 rfl ?_
          refine gIfN X2218 H at_136 (by decide) 139 rfl ?_
          refine gIload X2218 H at_139 rfl 141 rfl ?_
          refine gIload X2218 H at_141 rfl 143 rfl ?_
          refine gStatic X2218 H hZ hown (hw _ wd127) (hw _ wd128) (by decide) (hw _ wd129) (hw _ wd59) (rm2220_19 B _ O2216) e2218 hml rfl pd2 rfl (W := 0) (argsL := [(.int 3), (.int 2)]) (rest := []) rfl rfl at_143 146 rfl ?_
          intro v2221 T2221 L2221 hq2221 X2221
          obtain ⟨rfl, e2221, rfl⟩ := hq2221
          have N2221 := Fr.app N2218 (Fr.nil _)
          show Go _ _ _ _ (State.setTop _ (mkF _ 146 _ [(.int 2)]))
          refine gIstore X2221 H at_146 (Ls' := #[vJ p0, .second, vI p1, vI p2, vI p3, vI 2, vR b1383, vR b1451, vI 3, vI 1, .unset, .unset, vI 2, .unset, .unset, .unset]) rfl 148 rfl ?_
          refine gIload X2221 H at_148 rfl 150 rfl ?_
          refine gIload X2221 H at_150 rfl 152 rfl ?_
          refine g_isub X2221 H at_152 (z := 0) (by decide) 153 rfl ?_
          refine gIstore X2221 H at_153 (Ls' := #[vJ p0, .second, vI p1, vI p2, vI p3, vI 0, vR b1383, vR b1451, vI 3, vI 1, .unset, .unset, vI 2, .unset, .unset, .unset]) rfl 155 rfl ?_
          refine gIload X2221 H at_155 rfl 157 rfl ?_
          refine g_i2l X2221 H at_157 (z := 2) (by decide) 158 rfl ?_
          refine gLstore X2221 H at_158 (Ls' := #[vJ p0, .second, vI p1, vI p2, vI p3, vI 0, vR b1383, vR b1451, vI 3, vI 1, vJ 2, .second, vI 2, .unset, .unset, .unset]) rfl 160 rfl ?_
          refine gGoto X2221 H at_160 (by decide) 176 rfl ?_
          exact tail698_176 B p0 p1 p2 p3 b1383 b1451 ((3 : Int32)) ((1 : Int32)) ((2 : Int64)) ((2 : Int32)) X2221 H hml hZ hown hnm hret hlk N2221 (by decide) (by decide) e2221 O2216 f2216_0 f2216_1 f2216_5
        · refine gCmpY X2216 H at_124 (flt hc2217).2.2.2 (by decide) 134 rfl ?_
          have hP2222 : (p3 &&& (3 : Int32)) = (2 : Int32) := pk2 hc2152 hc2217
          rw [hP2222]
          refine gIload X2216 H at_134 rfl 136 rfl ?_
          refine gIfN X2216 H at_136 (by decide) 139 rfl ?_
          refine gIload X2216 H at_139 rfl 141 rfl ?_
          refine gIload X2216 H at_141 rfl 143 rfl ?_
          refine gStatic X2216 H hZ hown (hw _ wd127) (hw _ wd128) (by decide) (hw _ wd129) (hw _ wd59) (rm2223_19 B _ O2216) rfl hml rfl pd2 rfl (W := 0) (argsL := [(.int 2), (.int 2)]) (rest := []) rfl rfl at_143 146 rfl ?_
          intro v2224 T2224 L2224 hq2224 X2224
          obtain ⟨rfl, e2224, rfl⟩ := hq2224
          have N2224 := Fr.app N2216 (Fr.nil _)
          show Go _ _ _ _ (State.setTop _ (mkF _ 146 _ [(.int 2)]))
          refine gIstore X2224 H at_146 (Ls' := #[vJ p0, .second, vI p1, vI p2, vI p3, vI 2, vR b1383, vR b1451, vI 2, vI 1, .unset, .unset, vI 2, .unset, .unset, .unset]) rfl 148 rfl ?_
          refine gIload X2224 H at_148 rfl 150 rfl ?_
          refine gIload X2224 H at_150 rfl 152 rfl ?_
          refine g_isub X2224 H at_152 (z := 0) (by decide) 153 rfl ?_
          refine gIstore X2224 H at_153 (Ls' := #[vJ p0, .second, vI p1, vI p2, vI p3, vI 0, vR b1383, vR b1451, vI 2, vI 1, .unset, .unset, vI 2, .unset, .unset, .unset]) rfl 155 rfl ?_
          refine gIload X2224 H at_155 rfl 157 rfl ?_
          refine g_i2l X2224 H at_157 (z := 2) (by decide) 158 rfl ?_
          refine gLstore X2224 H at_158 (Ls' := #[vJ p0, .second, vI p1, vI p2, vI p3, vI 0, vR b1383, vR b1451, vI 2, vI 1, vJ 2, .second, vI 2, .unset, .unset, .unset]) rfl 160 rfl ?_
          refine gGoto X2224 H at_160 (by decide) 176 rfl ?_
          exact tail698_176 B p0 p1 p2 p3 b1383 b1451 ((2 : Int32)) ((1 : Int32)) ((2 : Int64)) ((2 : Int32)) X2224 H hml hZ hown hnm hret hlk N2224 (by decide) (by decide) e2224 O2216 f2216_0 f2216_1 f2216_5
      · refine gCmpY X2151 H at_111 (flt hc2152).2.2.2 (by decide) 121 rfl ?_
        refine gIload X2151 H at_121 rfl 123 rfl ?_
        refine gIconst X2151 H at_123 (z := 2) rfl 124 rfl ?_
        refine gCmpY X2151 H at_124 (flt (fun q => hc2152 (Int32.lt_trans (by decide) q))).2.2.2 (by decide) 134 rfl ?_
        have hP2225 : (p3 &&& (3 : Int32)) = (1 : Int32) := pk1 hc2096 hc2152
        rw [hP2225]
        refine gIload X2151 H at_134 rfl 136 rfl ?_
        refine gIfN X2151 H at_136 (by decide) 139 rfl ?_
        refine gIload X2151 H at_139 rfl 141 rfl ?_
        refine gIload X2151 H at_141 rfl 143 rfl ?_
        refine gStatic X2151 H hZ hown (hw _ wd127) (hw _ wd128) (by decide) (hw _ wd129) (hw _ wd59) (rm2226_19 B _ O2151) rfl hml rfl pd2 rfl (W := 0) (argsL := [(.int 1), (.int 2)]) (rest := []) rfl rfl at_143 146 rfl ?_
        intro v2227 T2227 L2227 hq2227 X2227
        obtain ⟨rfl, e2227, rfl⟩ := hq2227
        have N2227 := Fr.app N2151 (Fr.nil _)
        show Go _ _ _ _ (State.setTop _ (mkF _ 146 _ [(.int 1)]))
        refine gIstore X2227 H at_146 (Ls' := #[vJ p0, .second, vI p1, vI p2, vI p3, vI 2, vR b1383, vR b1451, vI 1, vI 1, .unset, .unset, vI 1, .unset, .unset, .unset]) rfl 148 rfl ?_
        refine gIload X2227 H at_148 rfl 150 rfl ?_
        refine gIload X2227 H at_150 rfl 152 rfl ?_
        refine g_isub X2227 H at_152 (z := 1) (by decide) 153 rfl ?_
        refine gIstore X2227 H at_153 (Ls' := #[vJ p0, .second, vI p1, vI p2, vI p3, vI 1, vR b1383, vR b1451, vI 1, vI 1, .unset, .unset, vI 1, .unset, .unset, .unset]) rfl 155 rfl ?_
        refine gIload X2227 H at_155 rfl 157 rfl ?_
        refine g_i2l X2227 H at_157 (z := 1) (by decide) 158 rfl ?_
        refine gLstore X2227 H at_158 (Ls' := #[vJ p0, .second, vI p1, vI p2, vI p3, vI 1, vR b1383, vR b1451, vI 1, vI 1, vJ 1, .second, vI 1, .unset, .unset, .unset]) rfl 160 rfl ?_
        refine gGoto X2227 H at_160 (by decide) 176 rfl ?_
        exact tail1381_176 B p0 p1 p2 p3 b1383 b1451 ((1 : Int32)) ((1 : Int32)) ((1 : Int64)) ((1 : Int32)) X2227 H hml hZ hown hnm hret hlk N2227 (by decide) (by decide) e2227 O2151 f2151_0 f2151_1 f2151_5
    · refine gIfY X1536 H at_98 ((if0 _ _).trans (flt hc2096).2.2.2) (by decide) 108 rfl ?_
      refine gIload X1536 H at_108 rfl 110 rfl ?_
      refine gIconst X1536 H at_110 (z := 1) rfl 111 rfl ?_
      refine gCmpY X1536 H at_111 (flt (fun q => hc2096 (Int32.lt_trans (by decide) q))).2.2.2 (by decide) 121 rfl ?_
      refine gIload X1536 H at_121 rfl 123 rfl ?_
      refine gIconst X1536 H at_123 (z := 2) rfl 124 rfl ?_
      refine gCmpY X1536 H at_124 (flt (fun q => hc2096 (Int32.lt_trans (by decide) q))).2.2.2 (by decide) 134 rfl ?_
      have hP2228 : (p3 &&& (3 : Int32)) = (0 : Int32) := pk0 hc2096
      rw [hP2228]
      refine gIload X1536 H at_134 rfl 136 rfl ?_
      refine gIfN X1536 H at_136 (by decide) 139 rfl ?_
      refine gIload X1536 H at_139 rfl 141 rfl ?_
      refine gIload X1536 H at_141 rfl 143 rfl ?_
      refine gStatic X1536 H hZ hown (hw _ wd127) (hw _ wd128) (by decide) (hw _ wd129) (hw _ wd59) (rm2229_19 B _ O1536) rfl hml rfl pd2 rfl (W := 0) (argsL := [(.int 0), (.int 2)]) (rest := []) rfl rfl at_143 146 rfl ?_
      intro v2230 T2230 L2230 hq2230 X2230
      obtain ⟨rfl, e2230, rfl⟩ := hq2230
      have N2230 := Fr.app N1536 (Fr.nil _)
      show Go _ _ _ _ (State.setTop _ (mkF _ 146 _ [(.int 0)]))
      refine gIstore X2230 H at_146 (Ls' := #[vJ p0, .second, vI p1, vI p2, vI p3, vI 2, vR b1383, vR b1451, vI 0, vI 1, .unset, .unset, vI 0, .unset, .unset, .unset]) rfl 148 rfl ?_
      refine gIload X2230 H at_148 rfl 150 rfl ?_
      refine gIload X2230 H at_150 rfl 152 rfl ?_
      refine g_isub X2230 H at_152 (z := 2) (by decide) 153 rfl ?_
      refine gIstore X2230 H at_153 (Ls' := #[vJ p0, .second, vI p1, vI p2, vI p3, vI 2, vR b1383, vR b1451, vI 0, vI 1, .unset, .unset, vI 0, .unset, .unset, .unset]) rfl 155 rfl ?_
      refine gIload X2230 H at_155 rfl 157 rfl ?_
      refine g_i2l X2230 H at_157 (z := 0) (by decide) 158 rfl ?_
      refine gLstore X2230 H at_158 (Ls' := #[vJ p0, .second, vI p1, vI p2, vI p3, vI 2, vR b1383, vR b1451, vI 0, vI 1, vJ 0, .second, vI 0, .unset, .unset, .unset]) rfl 160 rfl ?_
      refine gGoto X2230 H at_160 (by decide) 176 rfl ?_
      exact tail2231_176 B p0 p1 p2 p3 b1383 b1451 ((0 : Int32)) ((1 : Int32)) ((0 : Int64)) ((0 : Int32)) X2230 H hml hZ hown hnm hret hlk N2230 (by decide) (by decide) e2230 O1536 f1536_0 f1536_4 f1536_5
theorem rm2252_5 (B : Bg Z a0 wE0 w_cacheI k_wE0 cl_cacheI) (h : Heap) (O : Ext Z.heap h) :
    Con l Z yM5 jdk_33_method_22_code 1 (some (.object "java/lang/Integer")) ({ frames := 0, cells := 0, slots := 0, locals := 0 } : Room) #[(.int 12)] h (fun v h' L => ∃ (b2251 : Addr), v = some (.ref b2251) ∧ Fr Z.heap.size L ∧ Keep h h' [] ∧ Exa Z h' b2251 cs4) := by
  have hw := B.1
  obtain ⟨S_wE0, V_wE0, S_high, S_cacheI, B_cacheI⟩ := B.2
  refine Con.of (plainFor_of_name pn5) (Ls := #[vI 12]) (fun _ => rfl) ?_
  intro p e s m below meth c T0 X0 H hml hZ hown hnm hret hlk e0
  have N0 := Fr.nil Z.heap.size
  refine gIloadN X0 H d5_0 rfl 1 rfl ?_
  refine gBipush X0 H d5_1 (z := (-128)) rfl 3 rfl ?_
  refine gCmpN X0 H d5_3 (by decide) 6 rfl ?_
  refine gIloadN X0 H d5_6 rfl 7 rfl ?_
  refine gGetS X0 H hZ hown (hw _ wd30) e0 (S_high.ext O) d5_7 10 rfl ?_
  intro T2249 X2249 e2249
  refine gCmpN X2249 H d5_10 (by decide) 13 rfl ?_
  refine gGetS X2249 H hZ hown (hw _ wd32) e2249 (S_cacheI.ext O) d5_13 16 rfl ?_
  intro T2250 X2250 e2250
  refine gIloadN X2250 H d5_16 rfl 17 rfl ?_
  refine gSipush X2250 H d5_17 (z := 128) rfl 20 rfl ?_
  refine g_iadd X2250 H d5_20 (z := 140) (by decide) 21 rfl ?_
  obtain ⟨b2251, q2251, A2251, f2251⟩ := B_cacheI.2.2.2 (140 : Int32) (inb_of B_cacheI.2.1 ⟨by decide, by decide⟩)
  refine gBoxload X2250 H hZ e2250 rfl (B_cacheI.1.ext O) (inb_of B_cacheI.2.1 ⟨by decide, by decide⟩) q2251 d5_21 22 rfl ?_
  exact gRetA X2250 H hlk hret rfl rfl rfl d5_22 e2250 ⟨b2251, rfl, N0, (Keep.refl h []), (A2251.ext O)⟩
theorem rm2290_7 (B : Bg Z a0 wE0 w_cacheI k_wE0 cl_cacheI) (ro0 ro1 ro2 : Addr) (ck3 : ClassId) (ro4 ro5 : Addr) (h : Heap) (O : Ext Z.heap h) (q2268 : Arl Z h ro2 (10 : Int32)) (q2270 : Arv Z h ro2 ck3 (.object "java/lang/Object") (10 : Int32) [(.ref ro4), (.ref ro5), .null, .null, .null, .null, .null, .null, .null, .null] .null) (q2271 : Exa Z h ro1 cs4) (q2272 : Ovr Z ck3 "java/lang/Object") (q2273 : Z.heap.size ≤ ro2) (q2275 : Exa Z h ro0 cs1) (q2277 : Fld Z h ro0 cs1 "size" "I" (.int 2)) (q2279 : ro0 ≠ ro2) (q2281 : Z.heap.size ≤ ro0) (q2284 : Fld Z h ro0 cs0 "modCount" "I" (.int 3)) (q2286 : Fld Z h ro0 cs1 "elementData" cs2 (.ref ro2)) :
    Con l Z yM7 jdk_38_method_24_code 4 none ({ frames := 0, cells := 0, slots := 0, locals := 0 } : Room) #[(.ref ro0), (.ref ro1), (.ref ro2), (.int 2)] h (fun v h' L => v = none ∧ Fr Z.heap.size L ∧ Keep h h' [ro2, ro0] ∧ Arv Z h' ro2 ck3 (.object "java/lang/Object") (10 : Int32) [(.ref ro4), (.ref ro5), (.ref ro1), .null, .null, .null, .null, .null, .null, .null] .null ∧ Exa Z h' ro0 cs1 ∧ Fld Z h' ro0 cs1 "size" "I" (.int 3) ∧ Fld Z h' ro0 cs0 "modCount" "I" (.int 3) ∧ Fld Z h' ro0 cs1 "elementData" cs2 (.ref ro2)) := by
  have hw := B.1
  refine Con.of (plainFor_of_name pn7) (Ls := #[vR ro0, vR ro1, vR ro2, vI 2]) (fun _ => rfl) ?_
  intro p e s m below meth c T0 X0 H hml hZ hown hnm hret hlk e0
  have N0 := Fr.nil Z.heap.size
  refine gIloadN X0 H d7_0 rfl 1 rfl ?_
  refine gAloadN X0 H d7_1 rfl rfl 2 rfl ?_
  refine gLen X0 H hZ e0 q2268 d7_2 3 rfl ?_
  refine gCmpY X0 H d7_3 (by decide) (by decide) 11 rfl ?_
  refine gAloadN X0 H d7_11 rfl rfl 12 rfl ?_
  refine gIloadN X0 H d7_12 rfl 13 rfl ?_
  refine gAloadN X0 H d7_13 rfl rfl 14 rfl ?_
  refine gAastore X0 H hZ e0 rfl (stoV q2270 q2272 (Ins.of_exa q2271 (hw _ wd63))) q2270 ⟨by decide, by decide⟩ (i := 2) rfl (Nat.le_of_ble_eq_true rfl) (vs' := [(.ref ro4), (.ref ro5), (.ref ro1), .null, .null, .null, .null, .null, .null, .null]) rfl d7_14 15 rfl ?_
  intro T2269 h2269 X2269 e2269 W2269 V2269
  have O2269 := extW O W2269 q2273
  have N2269 := Fr.snoc X2269 N0 q2273
  refine gAloadN X2269 H d7_15 rfl rfl 16 rfl ?_
  refine gIloadN X2269 H d7_16 rfl 17 rfl ?_
  refine gIconst X2269 H d7_17 (z := 1) rfl 18 rfl ?_
  refine g_iadd X2269 H d7_18 (z := 3) (by decide) 19 rfl ?_
  have c2276 := (q2275.wr W2269)
  have c2280 := (q2277.other W2269 (Or.inl q2279))
  refine gPutF X2269 H hZ hown (hw _ wd40) Via.refl e2269 c2280 c2276 (Or.inl (hw _ wd41)) (hw _ wd1) (ty := .int) (by decide) (v' := (.int 3)) rfl rfl d7_19 22 rfl ?_
  intro T2274 h2274 X2274 e2274 W2274 F2274
  have O2274 := extW O2269 W2274 q2281
  have N2274 := Fr.snoc X2274 N2269 q2281
  have c2282 := (V2269.other W2274 (Ne.symm q2279))
  have c2283 := (c2276.wr W2274)
  have c2285 := ((q2284.other W2269 (Or.inl q2279)).other W2274 (Or.inr (sn25 hw)))
  have c2287 := ((q2286.other W2269 (Or.inl q2279)).other W2274 (Or.inr (sn24 hw)))
  have K_2288 := (Keep.refl h [ro2, ro0]).wr W2269 (Or.inl (List.mem_of_getElem? (i := 0) rfl))
  have K_2289 := K_2288.wr W2274 (Or.inl (List.mem_of_getElem? (i := 1) rfl))
  exact gRetV X2274 H hlk hret d7_22 e2274 ⟨rfl, N2274, K_2289, c2282, c2283, F2274, c2285, c2287⟩
theorem rm2302_6 (B : Bg Z a0 wE0 w_cacheI k_wE0 cl_cacheI) (ro0 ro1 ro2 : Addr) (ck3 : ClassId) (ro4 ro5 : Addr) (h : Heap) (O : Ext Z.heap h) (q2255 : Fld Z h ro0 cs0 "modCount" "I" (.int 2)) (q2258 : Exa Z h ro0 cs1) (q2259 : Z.heap.size ≤ ro0) (q2260 : Fld Z h ro0 cs1 "elementData" cs2 (.ref ro2)) (q2263 : Fld Z h ro0 cs1 "size" "I" (.int 2)) (q2278 : ro0 ≠ ro2) (q2291 : Arl Z h ro2 (10 : Int32)) (q2293 : Arv Z h ro2 ck3 (.object "java/lang/Object") (10 : Int32) [(.ref ro4), (.ref ro5), .null, .null, .null, .null, .null, .null, .null, .null] .null) (q2295 : Exa Z h ro1 cs4) (q2297 : Ovr Z ck3 "java/lang/Object") (q2298 : Z.heap.size ≤ ro2) :
    Con l Z yM6 jdk_38_method_25_code 2 (some .boolean) ({ frames := 1, cells := 0, slots := 0, locals := 15 } : Room) #[(.ref ro0), (.ref ro1)] h (fun v h' L => v = some (.int 1) ∧ Fr Z.heap.size L ∧ Keep h h' [ro0, ro2] ∧ Fld Z h' ro0 cs0 "modCount" "I" (.int 3) ∧ Exa Z h' ro0 cs1 ∧ Fld Z h' ro0 cs1 "elementData" cs2 (.ref ro2) ∧ Fld Z h' ro0 cs1 "size" "I" (.int 3) ∧ Arv Z h' ro2 ck3 (.object "java/lang/Object") (10 : Int32) [(.ref ro4), (.ref ro5), (.ref ro1), .null, .null, .null, .null, .null, .null, .null] .null) := by
  have hw := B.1
  refine Con.of (plainFor_of_name pn6) (Ls := #[vR ro0, vR ro1]) (fun _ => rfl) ?_
  intro p e s m below meth c T0 X0 H hml hZ hown hnm hret hlk e0
  have N0 := Fr.nil Z.heap.size
  refine gAloadN X0 H d6_0 rfl rfl 1 rfl ?_
  refine gDup X0 H d6_1 rfl 2 rfl ?_
  refine gGetF X0 H hZ hown (hw _ wd38) (Via.of (hw _ wd39)) e0 q2255 d6_2 5 rfl ?_
  intro T2256 X2256 e2256
  refine gIconst X2256 H d6_5 (z := 1) rfl 6 rfl ?_
  refine g_iadd X2256 H d6_6 (z := 3) (by decide) 7 rfl ?_
  refine gPutF X2256 H hZ hown (hw _ wd38) (Via.of (hw _ wd39)) e2256 q2255 q2258 (Or.inl (hw _ wd22)) (hw _ wd1) (ty := .int) (by decide) (v' := (.int 3)) rfl rfl d6_7 10 rfl ?_
  intro T2257 h2257 X2257 e2257 W2257 F2257
  have O2257 := extW O W2257 q2259
  have N2257 := Fr.snoc X2257 N0 q2259
  refine gAloadN X2257 H d6_10 rfl rfl 11 rfl ?_
  refine gAloadN X2257 H d6_11 rfl rfl 12 rfl ?_
  refine gAloadN X2257 H d6_12 rfl rfl 13 rfl ?_
  have c2261 := (q2260.other W2257 (Or.inr (sn0 hw)))
  refine gGetF X2257 H hZ hown (hw _ wd24) Via.refl e2257 c2261 d6_13 16 rfl ?_
  intro T2262 X2262 e2262
  refine gAloadN X2262 H d6_16 rfl rfl 17 rfl ?_
  have c2264 := (q2263.other W2257 (Or.inr (sn1 hw)))
  refine gGetF X2262 H hZ hown (hw _ wd40) Via.refl e2262 c2264 d6_17 20 rfl ?_
  intro T2265 X2265 e2265
  have c2266 := (q2258.wr W2257)
  have c2292 := (q2291.other W2257 (Ne.symm q2278))
  have c2294 := (q2293.other W2257 (Ne.symm q2278))
  have c2296 := (q2295.wr W2257)
  refine gPrivate X2265 H hZ hown (hw _ wd42) (hw _ wd43) (hw _ wd44) (hw _ wd1) (by decide) c2266 (hw _ wd46) (hw _ wd2) (rm2290_7 B ro0 ro1 ro2 ck3 ro4 ro5 _ O2257 c2292 c2294 c2296 q2297 q2298 c2266 c2264 q2278 q2259 F2257 c2261) e2265 hml rfl pd16 rfl (W := 0) (argsL := [(.ref ro1), (.ref ro2), (.int 2)]) (rest := []) rfl rfl d6_20 23 rfl ?_
  intro v2299 T2299 L2299 hq2299 X2299
  obtain ⟨rfl, N2299q, K2299, f2299_0, f2299_1, f2299_2, f2299_3, f2299_4⟩ := hq2299
  have O2299 := extK O2257 K2299 (allS q2298 (allS q2259 all0))
  have N2299 := Fr.app N2257 N2299q
  show Go _ _ _ _ (State.setTop _ (mkF _ 23 _ []))
  refine gIconst X2299 H d6_23 (z := 1) rfl 24 rfl ?_
  have K_2300 := (Keep.refl h [ro0, ro2]).wr W2257 (Or.inl (List.mem_of_getElem? (i := 0) rfl))
  have K_2301 := K_2300.trans K2299 (allS (Or.inl (List.mem_of_getElem? (i := 1) rfl)) (allS (Or.inl (List.mem_of_getElem? (i := 0) rfl)) all0))
  exact gRetN X2299 H hlk hret (t := .boolean) (by simp) d6_24 rfl ⟨rfl, N2299, K_2301, f2299_3, f2299_1, f2299_4, f2299_2, f2299_0⟩
theorem rm2322_12 (B : Bg Z a0 wE0 w_cacheI k_wE0 cl_cacheI) (ro0 : Addr) (h : Heap) (O : Ext Z.heap h) (q2320 : Fld Z h ro0 cs1 "size" "I" (.int 3)) :
    Con l Z yM12 jdk_38_method_8_code 1 (some .int) ({ frames := 0, cells := 0, slots := 0, locals := 0 } : Room) #[(.ref ro0)] h (fun v h' L => v = some (.int 3) ∧ h' = h ∧ L = []) := by
  have hw := B.1
  refine Con.of (plainFor_of_name pn12) (Ls := #[vR ro0]) (fun _ => rfl) ?_
  intro p e s m below meth c T0 X0 H hml hZ hown hnm hret hlk e0
  refine gAloadN X0 H d12_0 rfl rfl 1 rfl ?_
  refine gGetF X0 H hZ hown (hw _ wd40) Via.refl e0 q2320 d12_1 4 rfl ?_
  intro T2321 X2321 e2321
  exact gRetI X2321 H hlk hret d12_4 e2321 ⟨rfl, rfl, rfl⟩
theorem rm2327_10 (B : Bg Z a0 wE0 w_cacheI k_wE0 cl_cacheI) (h : Heap) (O : Ext Z.heap h) :
    Con l Z yM10 jdk_29_method_65_code 2 (some .int) ({ frames := 0, cells := 0, slots := 0, locals := 0 } : Room) #[(.int 3), (.int 1)] h (fun v h' L => v = some (.int 3) ∧ h' = h ∧ L = []) := by
  refine Con.of (Jvm.Free.JP.mathPlain rfl (by decide +kernel)) (Ls := #[vI 3, vI 1]) (fun _ => rfl) ?_
  intro p e s m below meth c T0 X0 H hml hZ hown hnm hret hlk e0
  refine gIloadN X0 H d10_0 rfl 1 rfl ?_
  refine gIloadN X0 H d10_1 rfl 2 rfl ?_
  refine gCmpN X0 H d10_2 (by decide) 5 rfl ?_
  refine gIloadN X0 H d10_5 rfl 6 rfl ?_
  refine gGoto X0 H d10_6 (by decide) 10 rfl ?_
  exact gRetI X0 H hlk hret d10_10 e0 ⟨rfl, rfl, rfl⟩
theorem rm2352_13 (B : Bg Z a0 wE0 w_cacheI k_wE0 cl_cacheI) (ro0 ro1 ro2 : Addr) (ck3 : ClassId) (ro4 ro5 ro6 : Addr) (ck7 : ClassId) (h : Heap) (O : Ext Z.heap h) (q2333 : Arl Z h ro1 (3 : Int32)) (q2334 : Fld Z h ro0 cs1 "size" "I" (.int 3)) (q2336 : Fld Z h ro0 cs1 "elementData" cs2 (.ref ro2)) (q2339 : Arv Z h ro2 ck3 (.object "java/lang/Object") (10 : Int32) [(.ref ro4), (.ref ro5), (.ref ro6), .null, .null, .null, .null, .null, .null, .null] .null) (q2340 : Arv Z h ro1 ck7 (.object "java/lang/Object") (3 : Int32) [.null, .null, .null] .null) (q2342 : Exa Z h ro6 cs4) (q2343 : Ovr Z ck7 "java/lang/Object") (q2344 : Exa Z h ro5 cs4) (q2345 : Exa Z h ro4 cs4) (q2346 : Z.heap.size ≤ ro1) (q2348 : ro0 ≠ ro1) :
    Con l Z yM13 jdk_38_method_17_code 2 (some (.array (.object "java/lang/Object"))) ({ frames := 1, cells := 0, slots := 0, locals := 18 } : Room) #[(.ref ro0), (.ref ro1)] h (fun v h' L => v = some (.ref ro1) ∧ Fr Z.heap.size L ∧ Keep h h' [ro1] ∧ Arv Z h' ro1 ck7 (.object "java/lang/Object") (3 : Int32) [(.ref ro4), (.ref ro5), (.ref ro6)] .null) := by
  have hw := B.1
  refine Con.of (plainFor_of_name pn13) (Ls := #[vR ro0, vR ro1]) (fun _ => rfl) ?_
  intro p e s m below meth c T0 X0 H hml hZ hown hnm hret hlk e0
  have N0 := Fr.nil Z.heap.size
  refine gAloadN X0 H d13_0 rfl rfl 1 rfl ?_
  refine gLen X0 H hZ e0 q2333 d13_1 2 rfl ?_
  refine gAloadN X0 H d13_2 rfl rfl 3 rfl ?_
  refine gGetF X0 H hZ hown (hw _ wd40) Via.refl e0 q2334 d13_3 6 rfl ?_
  intro T2335 X2335 e2335
  refine gCmpY X2335 H d13_6 (by decide) (by decide) 25 rfl ?_
  refine gAloadN X2335 H d13_25 rfl rfl 26 rfl ?_
  refine gGetF X2335 H hZ hown (hw _ wd24) Via.refl e2335 q2336 d13_26 29 rfl ?_
  intro T2337 X2337 e2337
  refine gIconst X2337 H d13_29 (z := 0) rfl 30 rfl ?_
  refine gAloadN X2337 H d13_30 rfl rfl 31 rfl ?_
  refine gIconst X2337 H d13_31 (z := 0) rfl 32 rfl ?_
  refine gAloadN X2337 H d13_32 rfl rfl 33 rfl ?_
  refine gGetF X2337 H hZ hown (hw _ wd40) Via.refl e2337 q2334 d13_33 36 rfl ?_
  intro T2338 X2338 e2338
  refine gCopy X2338 H hZ hown (hw _ wd92) (hw _ wd95) (hw _ wd93) (hw _ wd94) e2338 q2339 q2340 (us := [(.ref ro4), (.ref ro5), (.ref ro6)]) (Or.inr ⟨rfl, rfl, ⟨(stoV q2340 q2343 (Ins.of_exa q2345 (hw _ wd63))), ⟨(stoV q2340 q2343 (Ins.of_exa q2344 (hw _ wd63))), ⟨(stoV q2340 q2343 (Ins.of_exa q2342 (hw _ wd63))), trivial⟩⟩⟩⟩) (by decide) (by decide) (by decide) (by decide) (by decide) rfl (Nat.le_of_ble_eq_true rfl) N0 q2346 hml rfl (V := 0) (by decide) (Nat.le_of_eq rfl) (by decide) (vd' := [(.ref ro4), (.ref ro5), (.ref ro6)]) rfl d13_36 39 rfl ?_
  intro T2341 h2341 L2341 X2341 e2341 N2341c K2341 V2341
  have O2341 := extK O K2341 (allS q2346 all0)
  refine gAloadN X2341 H d13_39 rfl rfl 40 rfl ?_
  refine gLen X2341 H hZ e2341 (Arv.arl V2341) d13_40 41 rfl ?_
  refine gAloadN X2341 H d13_41 rfl rfl 42 rfl ?_
  have c2349 := (q2334.keep K2341 (ninS q2348 nin0))
  refine gGetF X2341 H hZ hown (hw _ wd40) Via.refl e2341 c2349 d13_42 45 rfl ?_
  intro T2350 X2350 e2350
  refine gCmpY X2350 H d13_45 (by decide) (by decide) 55 rfl ?_
  refine gAloadN X2350 H d13_55 rfl rfl 56 rfl ?_
  have K_2351 := (Keep.refl h [ro1]).trans K2341 (allS (Or.inl (List.mem_of_getElem? (i := 0) rfl)) all0)
  exact gRetA X2350 H hlk hret rfl rfl rfl d13_56 e2350 ⟨rfl, N2341c, K_2351, V2341⟩
theorem rm2390_11 (B : Bg Z a0 wE0 w_cacheI k_wE0 cl_cacheI) (ro0 ro1 ro2 : Addr) (ck3 : ClassId) (ro4 ro5 ro6 : Addr) (h : Heap) (O : Ext Z.heap h) (q2315 : Exa Z h ro0 cs3) (q2316 : Fld Z h ro0 cs3 "serial" "I" (.int 0)) (q2317 : Z.heap.size ≤ ro0) (q2318 : Exa Z h ro1 cs1) (q2323 : Fld Z h ro1 cs1 "size" "I" (.int 3)) (q2324 : ro1 ≠ ro0) (q2354 : Fld Z h ro1 cs1 "elementData" cs2 (.ref ro2)) (q2356 : Arv Z h ro2 ck3 (.object "java/lang/Object") (10 : Int32) [(.ref ro4), (.ref ro5), (.ref ro6), .null, .null, .null, .null, .null, .null, .null] .null) (q2357 : ro2 ≠ ro0) (q2359 : Exa Z h ro6 cs4) (q2361 : Exa Z h ro5 cs4) (q2363 : Exa Z h ro4 cs4) (q2368 : Fld Z h ro0 cs3 "buffer" cs2 .null) (q2375 : Fld Z h ro0 cs3 "size" "I" (.int 0)) (q2380 : Fld Z h ro0 cs3 "firstNumber" "J" (.long 0)) (q2382 : Fld Z h ro0 cs3 "head" "I" (.int 0)) :
    Con l Z yM11 prog_50_method_1_code 3 none ({ frames := 2, cells := 1, slots := 3, locals := 32 } : Room) #[(.ref ro0), (.int 1), (.ref ro1)] h (fun v h' L => ∃ (b2329 : Addr) (k2329 : ClassId), v = none ∧ Fr Z.heap.size L ∧ Keep h h' [ro0] ∧ h.size ≤ b2329 ∧ Exa Z h' ro0 cs3 ∧ Fld Z h' ro0 cs3 "serial" "I" (.int 1) ∧ Arv Z h' b2329 k2329 (.object "java/lang/Object") (3 : Int32) [(.ref ro4), (.ref ro5), (.ref ro6)] .null ∧ Fld Z h' ro0 cs3 "buffer" cs2 (.ref b2329) ∧ Fld Z h' ro0 cs3 "size" "I" (.int 3) ∧ Fld Z h' ro0 cs3 "firstNumber" "J" (.long 0) ∧ Fld Z h' ro0 cs3 "head" "I" (.int 0) ∧ Ovr Z k2329 "java/lang/Object") := by
  have hw := B.1
  refine Con.of (plainFor_of_name pn11) (Ls := #[vR ro0, vI 1, vR ro1]) (fun _ => rfl) ?_
  intro p e s m below meth c T0 X0 H hml hZ hown hnm hret hlk e0
  have M0 := Nat.le_refl h.size
  have N0 := Fr.nil Z.heap.size
  refine gAloadN X0 H d11_0 rfl rfl 1 rfl ?_
  refine gInitO X0 H hZ hown (hw _ wd70) (hw _ wd19) (hw _ wd20) e0 hml rfl (V := 0) (Nat.le_of_eq rfl) (by decide) (by decide) d11_1 4 rfl ?_
  intro T2313 X2313 e2313
  refine gAloadN X2313 H d11_4 rfl rfl 5 rfl ?_
  refine gIloadN X2313 H d11_5 rfl 6 rfl ?_
  refine gPutF X2313 H hZ hown (hw _ wd71) Via.refl e2313 q2316 q2315 (Or.inr ⟨(hw _ wd72), rfl, hnm⟩) (hw _ wd65) (ty := .int) (by decide) (v' := (.int 1)) rfl rfl d11_6 9 rfl ?_
  intro T2314 h2314 X2314 e2314 W2314 F2314
  have O2314 := extW O W2314 q2317
  have N2314 := Fr.snoc X2314 N0 q2317
  refine gAloadN X2314 H d11_9 rfl rfl 10 rfl ?_
  refine gAloadN X2314 H d11_10 rfl rfl 11 rfl ?_
  refine gAloadN X2314 H d11_11 rfl rfl 12 rfl ?_
  have c2319 := (q2318.wr W2314)
  have c2325 := (q2323.other W2314 (Or.inl q2324))
  refine gInterface X2314 H hZ hown (hw _ wd73) (hw _ wd74) (mvT hZ (hw _ wd75)) (hw _ wd76) (hw _ wd77) (hw _ wd78) (hw _ wd79) (hw _ wd80) (by decide) c2319 (hw _ wd81) (hw _ wd2) (rm2322_12 B ro1 _ O2314 c2325) e2314 hml rfl pd1 rfl (W := 2) (argsL := []) (rest := [(.ref ro1), (.ref ro0)]) rfl rfl d11_12 17 rfl ?_
  intro v2326 T2326 L2326 hq2326 X2326
  obtain ⟨rfl, e2326, rfl⟩ := hq2326
  have N2326 := Fr.app N2314 (Fr.nil _)
  show Go _ _ _ _ (State.setTop _ (mkF _ 17 _ [(.int 3), (.ref ro1), (.ref ro0)]))
  refine gIconst X2326 H d11_17 (z := 1) rfl 18 rfl ?_
  refine gStatic X2326 H hZ hown (hw _ wd82) (hw _ wd58) (by decide) (hw _ wd60) (hw _ wd59) (rm2327_10 B _ O2314) e2326 hml rfl pd2 rfl (W := 2) (argsL := [(.int 3), (.int 1)]) (rest := [(.ref ro1), (.ref ro0)]) rfl rfl d11_18 21 rfl ?_
  intro v2328 T2328 L2328 hq2328 X2328
  obtain ⟨rfl, e2328, rfl⟩ := hq2328
  have N2328 := Fr.app N2326 (Fr.nil _)
  show Go _ _ _ _ (State.setTop _ (mkF _ 21 _ [(.int 3), (.ref ro1), (.ref ro0)]))
  refine gNewR X2328 H hZ hown (hw _ wd83) (hw _ wd62) e2328 (by decide) (cap := 3) (by decide) (by decide) (vs := [.null, .null, .null]) rfl (by decide) (by decide) d11_21 24 rfl ?_
  intro T2329 h2329 b2329 k2329 X2329 e2329 z2329 E2329 V2329 Q2329
  have M2330 := (leW M0 W2314)
  have G_b2329 := Nat.le_trans O2314.1 (Nat.le_of_eq z2329)
  have sz_b2329 := Nat.le_trans M2330 (Nat.le_of_eq z2329)
  have O2329 := extT O2314 E2329
  have c2331 := (c2319.ext E2329)
  have c2353 := (c2325.ext E2329)
  have c2355 := ((q2354.other W2314 (Or.inl q2324)).ext E2329)
  have c2358 := ((q2356.other W2314 q2357).ext E2329)
  have c2360 := ((q2359.wr W2314).ext E2329)
  have c2362 := ((q2361.wr W2314).ext E2329)
  have c2364 := ((q2363.wr W2314).ext E2329)
  refine gInterface X2329 H hZ hown (hw _ wd84) (hw _ wd85) (mvT hZ (hw _ wd86)) (hw _ wd87) (hw _ wd88) (hw _ wd89) (hw _ wd90) (hw _ wd80) (by decide) c2331 (hw _ wd91) (hw _ wd2) (rm2352_13 B ro1 b2329 ro2 ck3 ro4 ro5 ro6 k2329 _ O2329 (Arv.arl V2329) c2353 c2355 c2358 V2329 c2360 Q2329 c2362 c2364 G_b2329 (neB q2318.lt sz_b2329)) e2329 hml rfl pd3 rfl (W := 1) (argsL := [(.ref b2329)]) (rest := [(.ref ro0)]) rfl rfl d11_24 29 rfl ?_
  intro v2365 T2365 L2365 hq2365 X2365
  obtain ⟨rfl, N2365q, K2365, f2365_0⟩ := hq2365
  have O2365 := extK O2329 K2365 (allS G_b2329 all0)
  have N2365 := Fr.app N2328 N2365q
  show Go _ _ _ _ (State.setTop _ (mkF _ 29 _ [(.ref b2329), (.ref ro0)]))
  have c2367 := (((q2315.wr W2314).ext E2329).keep K2365)
  have c2369 := (((q2368.other W2314 (Or.inr (sn4 hw))).ext E2329).keep K2365 (ninS (neB q2315.lt sz_b2329) nin0))
  refine gPutF X2365 H hZ hown (hw _ wd96) Via.refl rfl c2369 c2367 (Or.inl (hw _ wd97)) (hw _ wd65) (ty := (.array (.object "java/lang/Object"))) (by decide) (v' := (.ref b2329)) rfl rfl d11_29 32 rfl ?_
  intro T2366 h2366 X2366 e2366 W2366 F2366
  have O2366 := extW O2365 W2366 q2317
  have N2366 := Fr.snoc X2366 N2365 q2317
  refine gAloadN X2366 H d11_32 rfl rfl 33 rfl ?_
  refine gAloadN X2366 H d11_33 rfl rfl 34 rfl ?_
  have c2370 := ((c2331.keep K2365).wr W2366)
  have c2371 := ((c2353.keep K2365 (ninS (neB q2318.lt sz_b2329) nin0)).other W2366 (Or.inl q2324))
  refine gInterface X2366 H hZ hown (hw _ wd73) (hw _ wd74) (mvT hZ (hw _ wd75)) (hw _ wd76) (hw _ wd77) (hw _ wd78) (hw _ wd79) (hw _ wd80) (by decide) c2370 (hw _ wd81) (hw _ wd2) (rm2322_12 B ro1 _ O2366 c2371) e2366 hml rfl pd1 rfl (W := 1) (argsL := []) (rest := [(.ref ro0)]) rfl rfl d11_34 39 rfl ?_
  intro v2372 T2372 L2372 hq2372 X2372
  obtain ⟨rfl, e2372, rfl⟩ := hq2372
  have N2372 := Fr.app N2366 (Fr.nil _)
  show Go _ _ _ _ (State.setTop _ (mkF _ 39 _ [(.int 3), (.ref ro0)]))
  have c2374 := (c2367.wr W2366)
  have c2376 := ((((q2375.other W2314 (Or.inr (sn5 hw))).ext E2329).keep K2365 (ninS (neB q2315.lt sz_b2329) nin0)).other W2366 (Or.inr (sn6 hw)))
  refine gPutF X2372 H hZ hown (hw _ wd98) Via.refl e2372 c2376 c2374 (Or.inl (hw _ wd99)) (hw _ wd65) (ty := .int) (by decide) (v' := (.int 3)) rfl rfl d11_39 42 rfl ?_
  intro T2373 h2373 X2373 e2373 W2373 F2373
  have O2373 := extW O2366 W2373 q2317
  have N2373 := Fr.snoc X2373 N2372 q2317
  have c2377 := (c2374.wr W2373)
  have c2378 := ((((F2314.ext E2329).keep K2365 (ninS (neB q2315.lt sz_b2329) nin0)).other W2366 (Or.inr (sn7 hw))).other W2373 (Or.inr (sn8 hw)))
  have c2379 := (F2366.other W2373 (Or.inr (sn9 hw)))
  have c2381 := (((((q2380.other W2314 (Or.inr (sn10 hw))).ext E2329).keep K2365 (ninS (neB q2315.lt sz_b2329) nin0)).other W2366 (Or.inr (sn11 hw))).other W2373 (Or.inr (sn12 hw)))
  have c2383 := (((((q2382.other W2314 (Or.inr (sn13 hw))).ext E2329).keep K2365 (ninS (neB q2315.lt sz_b2329) nin0)).other W2366 (Or.inr (sn14 hw))).other W2373 (Or.inr (sn15 hw)))
  have c2384 := ((f2365_0.other W2366 (Ne.symm (neB q2315.lt sz_b2329))).other W2373 (Ne.symm (neB q2315.lt sz_b2329)))
  have K_2385 := (Keep.refl h [ro0]).wr W2314 (Or.inl (List.mem_of_getElem? (i := 0) rfl))
  have K_2386 := K_2385.ext E2329
  have K_2387 := K_2386.trans K2365 (allS (Or.inr sz_b2329) all0)
  have K_2388 := K_2387.wr W2366 (Or.inl (List.mem_of_getElem? (i := 0) rfl))
  have K_2389 := K_2388.wr W2373 (Or.inl (List.mem_of_getElem? (i := 0) rfl))
  exact gRetV X2373 H hlk hret d11_42 e2373 ⟨b2329, k2329, rfl, N2373, K_2389, sz_b2329, c2377, c2378, c2384, c2379, F2373, c2381, c2383, Q2329⟩
theorem rm2414_22 (B : Bg Z a0 wE0 w_cacheI k_wE0 cl_cacheI) (h : Heap) (O : Ext Z.heap h) :
    Con l Z yM22 jdk_29_method_70_code 4 (some .long) ({ frames := 0, cells := 0, slots := 0, locals := 0 } : Room) #[(.long 6), (.long 2147483639)] h (fun v h' L => v = some (.long 6) ∧ h' = h ∧ L = []) := by
  refine Con.of (Jvm.Free.JP.mathPlain rfl (by decide +kernel)) (Ls := #[vJ 6, .second, vJ 2147483639, .second]) (fun _ => by first | (simp [entryFrame, mkF, argsToLocals, Value.category, maxLocals]; done) | rfl) ?_
  intro p e s m below meth c T0 X0 H hml hZ hown hnm hret hlk e0
  refine gLloadN X0 H d22_0 rfl 1 rfl ?_
  refine gLloadN X0 H d22_1 rfl 2 rfl ?_
  refine g_lcmp X0 H d22_2 (z := (lcmpW (6 : Int64) (2147483639 : Int64))) rfl 3 rfl ?_
  refine gIfN X0 H d22_3 (by decide) 6 rfl ?_
  refine gLloadN X0 H d22_6 rfl 7 rfl ?_
  refine gGoto X0 H d22_7 (by decide) 11 rfl ?_
  exact gRetL X0 H hlk hret d22_11 e0 ⟨rfl, rfl, rfl⟩
theorem rm2431_18 (B : Bg Z a0 wE0 w_cacheI k_wE0 cl_cacheI) (ro0 ro1 : Addr) (h : Heap) (O : Ext Z.heap h) (q2425 : Fld Z h ro0 cs3 "head" "I" (.int 0)) (q2427 : Fld Z h ro0 cs3 "buffer" cs2 (.ref ro1)) (q2430 : Arl Z h ro1 (3 : Int32)) :
    Con l Z yM18 prog_50_method_12_code 3 (some .int) ({ frames := 0, cells := 0, slots := 0, locals := 0 } : Room) #[(.ref ro0), (.int 0)] h (fun v h' L => v = some (.int 0) ∧ h' = h ∧ L = []) := by
  have hw := B.1
  refine Con.of (plainFor_of_name pn18) (Ls := #[vR ro0, vI 0, .unset]) (fun _ => rfl) ?_
  intro p e s m below meth c T0 X0 H hml hZ hown hnm hret hlk e0
  refine gAloadN X0 H d18_0 rfl rfl 1 rfl ?_
  refine gGetF X0 H hZ hown (hw _ wd125) Via.refl e0 q2425 d18_1 4 rfl ?_
  intro T2426 X2426 e2426
  refine gIloadN X2426 H d18_4 rfl 5 rfl ?_
  refine g_iadd X2426 H d18_5 (z := 0) (by decide) 6 rfl ?_
  refine gIstoreN X2426 H d18_6 (Ls' := #[vR ro0, vI 0, vI 0]) rfl 7 rfl ?_
  refine gIloadN X2426 H d18_7 rfl 8 rfl ?_
  refine gAloadN X2426 H d18_8 rfl rfl 9 rfl ?_
  refine gGetF X2426 H hZ hown (hw _ wd96) Via.refl e2426 q2427 d18_9 12 rfl ?_
  intro T2428 X2428 e2428
  refine gLen X2428 H hZ e2428 q2430 d18_12 13 rfl ?_
  refine gCmpN X2428 H d18_13 (by decide) 16 rfl ?_
  refine gIloadN X2428 H d18_16 rfl 17 rfl ?_
  refine gGoto X2428 H d18_17 (by decide) 27 rfl ?_
  exact gRetI X2428 H hlk hret d18_27 e2428 ⟨rfl, rfl, rfl⟩
theorem rm2437_17 (B : Bg Z a0 wE0 w_cacheI k_wE0 cl_cacheI) (ro0 ro1 : Addr) (ck2 : ClassId) (ro3 ro4 ro5 : Addr) (h : Heap) (O : Ext Z.heap h) (q2422 : Fld Z h ro0 cs3 "buffer" cs2 (.ref ro1)) (q2424 : Exa Z h ro0 cs3) (q2432 : Fld Z h ro0 cs3 "head" "I" (.int 0)) (q2433 : Arl Z h ro1 (3 : Int32)) (q2436 : Arv Z h ro1 ck2 (.object "java/lang/Object") (3 : Int32) [(.ref ro3), (.ref ro4), (.ref ro5)] .null) :
    Con l Z yM17 prog_50_method_4_code 2 (some (.object "java/lang/Object")) ({ frames := 1, cells := 0, slots := 0, locals := 15 } : Room) #[(.ref ro0), (.int 0)] h (fun v h' L => v = some (.ref ro3) ∧ h' = h ∧ L = []) := by
  have hw := B.1
  refine Con.of (plainFor_of_name pn17) (Ls := #[vR ro0, vI 0]) (fun _ => rfl) ?_
  intro p e s m below meth c T0 X0 H hml hZ hown hnm hret hlk e0
  have N0 := Fr.nil Z.heap.size
  refine gAloadN X0 H d17_0 rfl rfl 1 rfl ?_
  refine gGetF X0 H hZ hown (hw _ wd96) Via.refl e0 q2422 d17_1 4 rfl ?_
  intro T2423 X2423 e2423
  refine gAloadN X2423 H d17_4 rfl rfl 5 rfl ?_
  refine gIloadN X2423 H d17_5 rfl 6 rfl ?_
  refine gPrivate X2423 H hZ hown (hw _ wd121) (hw _ wd122) (hw _ wd123) (hw _ wd65) (by decide) q2424 (hw _ wd124) (hw _ wd66) (rm2431_18 B ro0 ro1 _ O q2432 q2422 q2433) e2423 hml rfl pd6 rfl (W := 1) (argsL := [(.int 0)]) (rest := [(.ref ro1)]) rfl rfl d17_6 9 rfl ?_
  intro v2434 T2434 L2434 hq2434 X2434
  obtain ⟨rfl, e2434, rfl⟩ := hq2434
  have N2434 := Fr.app N0 (Fr.nil _)
  show Go _ _ _ _ (State.setTop _ (mkF _ 9 _ [(.int 0), (.ref ro1)]))
  refine gAaload X2434 H hZ e2434 rfl q2436 ⟨by decide, by decide⟩ (v := (.ref ro3)) rfl d17_9 10 rfl ?_
  exact gRetA X2434 H hlk hret rfl rfl rfl d17_10 e2434 ⟨rfl, rfl, rfl⟩
theorem rm2460_18 (B : Bg Z a0 wE0 w_cacheI k_wE0 cl_cacheI) (ro0 ro1 : Addr) (h : Heap) (O : Ext Z.heap h) (q2454 : Fld Z h ro0 cs3 "head" "I" (.int 0)) (q2456 : Fld Z h ro0 cs3 "buffer" cs2 (.ref ro1)) (q2459 : Arl Z h ro1 (3 : Int32)) :
    Con l Z yM18 prog_50_method_12_code 3 (some .int) ({ frames := 0, cells := 0, slots := 0, locals := 0 } : Room) #[(.ref ro0), (.int 1)] h (fun v h' L => v = some (.int 1) ∧ h' = h ∧ L = []) := by
  have hw := B.1
  refine Con.of (plainFor_of_name pn18) (Ls := #[vR ro0, vI 1, .unset]) (fun _ => rfl) ?_
  intro p e s m below meth c T0 X0 H hml hZ hown hnm hret hlk e0
  refine gAloadN X0 H d18_0 rfl rfl 1 rfl ?_
  refine gGetF X0 H hZ hown (hw _ wd125) Via.refl e0 q2454 d18_1 4 rfl ?_
  intro T2455 X2455 e2455
  refine gIloadN X2455 H d18_4 rfl 5 rfl ?_
  refine g_iadd X2455 H d18_5 (z := 1) (by decide) 6 rfl ?_
  refine gIstoreN X2455 H d18_6 (Ls' := #[vR ro0, vI 1, vI 1]) rfl 7 rfl ?_
  refine gIloadN X2455 H d18_7 rfl 8 rfl ?_
  refine gAloadN X2455 H d18_8 rfl rfl 9 rfl ?_
  refine gGetF X2455 H hZ hown (hw _ wd96) Via.refl e2455 q2456 d18_9 12 rfl ?_
  intro T2457 X2457 e2457
  refine gLen X2457 H hZ e2457 q2459 d18_12 13 rfl ?_
  refine gCmpN X2457 H d18_13 (by decide) 16 rfl ?_
  refine gIloadN X2457 H d18_16 rfl 17 rfl ?_
  refine gGoto X2457 H d18_17 (by decide) 27 rfl ?_
  exact gRetI X2457 H hlk hret d18_27 e2457 ⟨rfl, rfl, rfl⟩
theorem rm2466_17 (B : Bg Z a0 wE0 w_cacheI k_wE0 cl_cacheI) (ro0 ro1 : Addr) (ck2 : ClassId) (ro3 ro4 ro5 : Addr) (h : Heap) (O : Ext Z.heap h) (q2451 : Fld Z h ro0 cs3 "buffer" cs2 (.ref ro1)) (q2453 : Exa Z h ro0 cs3) (q2461 : Fld Z h ro0 cs3 "head" "I" (.int 0)) (q2462 : Arl Z h ro1 (3 : Int32)) (q2465 : Arv Z h ro1 ck2 (.object "java/lang/Object") (3 : Int32) [(.ref ro3), (.ref ro4), (.ref ro5)] .null) :
    Con l Z yM17 prog_50_method_4_code 2 (some (.object "java/lang/Object")) ({ frames := 1, cells := 0, slots := 0, locals := 15 } : Room) #[(.ref ro0), (.int 1)] h (fun v h' L => v = some (.ref ro4) ∧ h' = h ∧ L = []) := by
  have hw := B.1
  refine Con.of (plainFor_of_name pn17) (Ls := #[vR ro0, vI 1]) (fun _ => rfl) ?_
  intro p e s m below meth c T0 X0 H hml hZ hown hnm hret hlk e0
  have N0 := Fr.nil Z.heap.size
  refine gAloadN X0 H d17_0 rfl rfl 1 rfl ?_
  refine gGetF X0 H hZ hown (hw _ wd96) Via.refl e0 q2451 d17_1 4 rfl ?_
  intro T2452 X2452 e2452
  refine gAloadN X2452 H d17_4 rfl rfl 5 rfl ?_
  refine gIloadN X2452 H d17_5 rfl 6 rfl ?_
  refine gPrivate X2452 H hZ hown (hw _ wd121) (hw _ wd122) (hw _ wd123) (hw _ wd65) (by decide) q2453 (hw _ wd124) (hw _ wd66) (rm2460_18 B ro0 ro1 _ O q2461 q2451 q2462) e2452 hml rfl pd6 rfl (W := 1) (argsL := [(.int 1)]) (rest := [(.ref ro1)]) rfl rfl d17_6 9 rfl ?_
  intro v2463 T2463 L2463 hq2463 X2463
  obtain ⟨rfl, e2463, rfl⟩ := hq2463
  have N2463 := Fr.app N0 (Fr.nil _)
  show Go _ _ _ _ (State.setTop _ (mkF _ 9 _ [(.int 1), (.ref ro1)]))
  refine gAaload X2463 H hZ e2463 rfl q2465 ⟨by decide, by decide⟩ (v := (.ref ro4)) rfl d17_9 10 rfl ?_
  exact gRetA X2463 H hlk hret rfl rfl rfl d17_10 e2463 ⟨rfl, rfl, rfl⟩
theorem rm2486_18 (B : Bg Z a0 wE0 w_cacheI k_wE0 cl_cacheI) (ro0 ro1 : Addr) (h : Heap) (O : Ext Z.heap h) (q2480 : Fld Z h ro0 cs3 "head" "I" (.int 0)) (q2482 : Fld Z h ro0 cs3 "buffer" cs2 (.ref ro1)) (q2485 : Arl Z h ro1 (3 : Int32)) :
    Con l Z yM18 prog_50_method_12_code 3 (some .int) ({ frames := 0, cells := 0, slots := 0, locals := 0 } : Room) #[(.ref ro0), (.int 2)] h (fun v h' L => v = some (.int 2) ∧ h' = h ∧ L = []) := by
  have hw := B.1
  refine Con.of (plainFor_of_name pn18) (Ls := #[vR ro0, vI 2, .unset]) (fun _ => rfl) ?_
  intro p e s m below meth c T0 X0 H hml hZ hown hnm hret hlk e0
  refine gAloadN X0 H d18_0 rfl rfl 1 rfl ?_
  refine gGetF X0 H hZ hown (hw _ wd125) Via.refl e0 q2480 d18_1 4 rfl ?_
  intro T2481 X2481 e2481
  refine gIloadN X2481 H d18_4 rfl 5 rfl ?_
  refine g_iadd X2481 H d18_5 (z := 2) (by decide) 6 rfl ?_
  refine gIstoreN X2481 H d18_6 (Ls' := #[vR ro0, vI 2, vI 2]) rfl 7 rfl ?_
  refine gIloadN X2481 H d18_7 rfl 8 rfl ?_
  refine gAloadN X2481 H d18_8 rfl rfl 9 rfl ?_
  refine gGetF X2481 H hZ hown (hw _ wd96) Via.refl e2481 q2482 d18_9 12 rfl ?_
  intro T2483 X2483 e2483
  refine gLen X2483 H hZ e2483 q2485 d18_12 13 rfl ?_
  refine gCmpN X2483 H d18_13 (by decide) 16 rfl ?_
  refine gIloadN X2483 H d18_16 rfl 17 rfl ?_
  refine gGoto X2483 H d18_17 (by decide) 27 rfl ?_
  exact gRetI X2483 H hlk hret d18_27 e2483 ⟨rfl, rfl, rfl⟩
theorem rm2492_17 (B : Bg Z a0 wE0 w_cacheI k_wE0 cl_cacheI) (ro0 ro1 : Addr) (ck2 : ClassId) (ro3 ro4 ro5 : Addr) (h : Heap) (O : Ext Z.heap h) (q2477 : Fld Z h ro0 cs3 "buffer" cs2 (.ref ro1)) (q2479 : Exa Z h ro0 cs3) (q2487 : Fld Z h ro0 cs3 "head" "I" (.int 0)) (q2488 : Arl Z h ro1 (3 : Int32)) (q2491 : Arv Z h ro1 ck2 (.object "java/lang/Object") (3 : Int32) [(.ref ro3), (.ref ro4), (.ref ro5)] .null) :
    Con l Z yM17 prog_50_method_4_code 2 (some (.object "java/lang/Object")) ({ frames := 1, cells := 0, slots := 0, locals := 15 } : Room) #[(.ref ro0), (.int 2)] h (fun v h' L => v = some (.ref ro5) ∧ h' = h ∧ L = []) := by
  have hw := B.1
  refine Con.of (plainFor_of_name pn17) (Ls := #[vR ro0, vI 2]) (fun _ => rfl) ?_
  intro p e s m below meth c T0 X0 H hml hZ hown hnm hret hlk e0
  have N0 := Fr.nil Z.heap.size
  refine gAloadN X0 H d17_0 rfl rfl 1 rfl ?_
  refine gGetF X0 H hZ hown (hw _ wd96) Via.refl e0 q2477 d17_1 4 rfl ?_
  intro T2478 X2478 e2478
  refine gAloadN X2478 H d17_4 rfl rfl 5 rfl ?_
  refine gIloadN X2478 H d17_5 rfl 6 rfl ?_
  refine gPrivate X2478 H hZ hown (hw _ wd121) (hw _ wd122) (hw _ wd123) (hw _ wd65) (by decide) q2479 (hw _ wd124) (hw _ wd66) (rm2486_18 B ro0 ro1 _ O q2487 q2477 q2488) e2478 hml rfl pd6 rfl (W := 1) (argsL := [(.int 2)]) (rest := [(.ref ro1)]) rfl rfl d17_6 9 rfl ?_
  intro v2489 T2489 L2489 hq2489 X2489
  obtain ⟨rfl, e2489, rfl⟩ := hq2489
  have N2489 := Fr.app N0 (Fr.nil _)
  show Go _ _ _ _ (State.setTop _ (mkF _ 9 _ [(.int 2), (.ref ro1)]))
  refine gAaload X2489 H hZ e2489 rfl q2491 ⟨by decide, by decide⟩ (v := (.ref ro5)) rfl d17_9 10 rfl ?_
  exact gRetA X2489 H hlk hret rfl rfl rfl d17_10 e2489 ⟨rfl, rfl, rfl⟩
theorem rm2523_21 (B : Bg Z a0 wE0 w_cacheI k_wE0 cl_cacheI) (ro0 ro1 : Addr) (ck2 : ClassId) (ro3 ro4 ro5 : Addr) (h : Heap) (O : Ext Z.heap h) (q2406 : Fld Z h ro0 cs3 "size" "I" (.int 3)) (q2408 : Fld Z h ro0 cs3 "buffer" cs2 (.ref ro1)) (q2411 : Arl Z h ro1 (3 : Int32)) (q2420 : Exa Z h ro0 cs3) (q2439 : Fld Z h ro0 cs3 "head" "I" (.int 0)) (q2442 : Arv Z h ro1 ck2 (.object "java/lang/Object") (3 : Int32) [(.ref ro3), (.ref ro4), (.ref ro5)] .null) (q2446 : Exa Z h ro3 cs4) (q2472 : Exa Z h ro4 cs4) (q2498 : Exa Z h ro5 cs4) (q2505 : Z.heap.size ≤ ro0) (q2512 : Fld Z h ro0 cs3 "serial" "I" (.int 1)) (q2514 : Fld Z h ro0 cs3 "firstNumber" "J" (.long 0)) :
    Con l Z yM21 prog_50_method_13_code 4 none ({ frames := 2, cells := 1, slots := 6, locals := 30 } : Room) #[(.ref ro0)] h (fun v h' L => ∃ (b2417 : Addr) (k2417 : ClassId), v = none ∧ Fr Z.heap.size L ∧ Keep h h' [ro0] ∧ h.size ≤ b2417 ∧ Fld Z h' ro0 cs3 "size" "I" (.int 3) ∧ Fld Z h' ro0 cs3 "buffer" cs2 (.ref b2417) ∧ Arv Z h' b2417 k2417 (.object "java/lang/Object") (6 : Int32) [(.ref ro3), (.ref ro4), (.ref ro5), .null, .null, .null] .null ∧ Exa Z h' ro0 cs3 ∧ Fld Z h' ro0 cs3 "head" "I" (.int 0) ∧ Fld Z h' ro0 cs3 "serial" "I" (.int 1) ∧ Fld Z h' ro0 cs3 "firstNumber" "J" (.long 0) ∧ Ovr Z k2417 "java/lang/Object") := by
  have hw := B.1
  refine Con.of (plainFor_of_name pn21) (Ls := #[vR ro0, .unset, .unset, .unset]) (fun _ => rfl) ?_
  intro p e s m below meth c T0 X0 H hml hZ hown hnm hret hlk e0
  have M0 := Nat.le_refl h.size
  have N0 := Fr.nil Z.heap.size
  refine gAloadN X0 H d21_0 rfl rfl 1 rfl ?_
  refine gGetF X0 H hZ hown (hw _ wd98) Via.refl e0 q2406 d21_1 4 rfl ?_
  intro T2407 X2407 e2407
  refine gAloadN X2407 H d21_4 rfl rfl 5 rfl ?_
  refine gGetF X2407 H hZ hown (hw _ wd96) Via.refl e2407 q2408 d21_5 8 rfl ?_
  intro T2409 X2409 e2409
  refine gLen X2409 H hZ e2409 q2411 d21_8 9 rfl ?_
  refine gCmpY X2409 H d21_9 (by decide) (by decide) 13 rfl ?_
  refine gLdc2 X2409 H hZ hown (hw _ wd139) d21_13 16 rfl ?_
  refine gAloadN X2409 H d21_16 rfl rfl 17 rfl ?_
  refine gGetF X2409 H hZ hown (hw _ wd96) Via.refl e2409 q2408 d21_17 20 rfl ?_
  intro T2412 X2412 e2412
  refine gLen X2412 H hZ e2412 q2411 d21_20 21 rfl ?_
  refine g_i2l X2412 H d21_21 (z := 3) (by decide) 22 rfl ?_
  refine g_lmul X2412 H d21_22 (z := 6) (by decide) 23 rfl ?_
  refine gLdc2 X2412 H hZ hown (hw _ wd140) d21_23 26 rfl ?_
  refine gStatic X2412 H hZ hown (hw _ wd141) (hw _ wd142) (by decide) (hw _ wd143) (hw _ wd59) (rm2414_22 B _ O) e2412 hml rfl pd10 rfl (W := 0) (argsL := [(.long 6), (.long 2147483639)]) (rest := []) rfl rfl d21_26 29 rfl ?_
  intro v2415 T2415 L2415 hq2415 X2415
  obtain ⟨rfl, e2415, rfl⟩ := hq2415
  have N2415 := Fr.app N0 (Fr.nil _)
  show Go _ _ _ _ (State.setTop _ (mkF _ 29 _ [(.long 6)]))
  refine g_l2i X2415 H d21_29 (z := 6) (by decide) 30 rfl ?_
  refine gIstoreN X2415 H d21_30 (Ls' := #[vR ro0, vI 6, .unset, .unset]) rfl 31 rfl ?_
  refine gIloadN X2415 H d21_31 rfl 32 rfl ?_
  refine gAloadN X2415 H d21_32 rfl rfl 33 rfl ?_
  refine gGetF X2415 H hZ hown (hw _ wd98) Via.refl e2415 q2406 d21_33 36 rfl ?_
  intro T2416 X2416 e2416
  refine gCmpY X2416 H d21_36 (by decide) (by decide) 49 rfl ?_
  refine gIloadN X2416 H d21_49 rfl 50 rfl ?_
  refine gNewR X2416 H hZ hown (hw _ wd83) (hw _ wd62) e2416 (by decide) (cap := 6) (by decide) (by decide) (vs := [.null, .null, .null, .null, .null, .null]) rfl (by decide) (by decide) d21_50 53 rfl ?_
  intro T2417 h2417 b2417 k2417 X2417 e2417 z2417 E2417 V2417 Q2417
  have G_b2417 := Nat.le_trans O.1 (Nat.le_of_eq z2417)
  have sz_b2417 := Nat.le_trans M0 (Nat.le_of_eq z2417)
  have O2417 := extT O E2417
  refine gAstoreN X2417 H d21_53 rfl (Ls' := #[vR ro0, vI 6, vR b2417, .unset]) rfl 54 rfl ?_
  refine gIconst X2417 H d21_54 (z := 0) rfl 55 rfl ?_
  refine gIstoreN X2417 H d21_55 (Ls' := #[vR ro0, vI 6, vR b2417, vI 0]) rfl 56 rfl ?_
  refine gIloadN X2417 H d21_56 rfl 57 rfl ?_
  refine gAloadN X2417 H d21_57 rfl rfl 58 rfl ?_
  have c2418 := (q2406.ext E2417)
  refine gGetF X2417 H hZ hown (hw _ wd98) Via.refl e2417 c2418 d21_58 61 rfl ?_
  intro T2419 X2419 e2419
  refine gCmpN X2419 H d21_61 (by decide) 64 rfl ?_
  refine gAloadN X2419 H d21_64 rfl rfl 65 rfl ?_
  refine gIloadN X2419 H d21_65 rfl 66 rfl ?_
  refine gAloadN X2419 H d21_66 rfl rfl 67 rfl ?_
  refine gIloadN X2419 H d21_67 rfl 68 rfl ?_
  have c2421 := (q2420.ext E2417)
  have c2438 := (q2408.ext E2417)
  have c2440 := (q2439.ext E2417)
  have c2441 := (q2411.ext E2417)
  have c2443 := (q2442.ext E2417)
  refine gVirt X2419 H hZ hown (hw _ wd116) (hw _ wd117) (hw _ wd119) (hw _ wd118) (by decide) c2421 (hw _ wd120) (hw _ wd66) (rm2437_17 B ro0 ro1 ck2 ro3 ro4 ro5 _ O2417 c2438 c2421 c2440 c2441 c2443) e2419 hml rfl pd11 rfl (W := 2) (argsL := [(.int 0)]) (rest := [(.int 0), (.ref b2417)]) rfl rfl d21_68 71 rfl ?_
  intro v2444 T2444 L2444 hq2444 X2444
  obtain ⟨rfl, e2444, rfl⟩ := hq2444
  have N2444 := Fr.app N2415 (Fr.nil _)
  show Go _ _ _ _ (State.setTop _ (mkF _ 71 _ [(.ref ro3), (.int 0), (.ref b2417)]))
  have c2447 := (q2446.ext E2417)
  refine gAastore X2444 H hZ e2444 rfl (stoV V2417 Q2417 (Ins.of_exa c2447 (hw _ wd63))) V2417 ⟨by decide, by decide⟩ (i := 0) rfl (Nat.le_of_ble_eq_true rfl) (vs' := [(.ref ro3), .null, .null, .null, .null, .null]) rfl d21_71 72 rfl ?_
  intro T2445 h2445 X2445 e2445 W2445 V2445
  have O2445 := extW O2417 W2445 G_b2417
  have N2445 := Fr.snoc X2445 N2444 G_b2417
  refine gIinc X2445 H d21_72 rfl (Ls' := #[vR ro0, vI 6, vR b2417, vI 1]) rfl 75 rfl ?_
  refine gGoto X2445 H d21_75 (by decide) 56 rfl ?_
  refine gIloadN X2445 H d21_56 rfl 57 rfl ?_
  refine gAloadN X2445 H d21_57 rfl rfl 58 rfl ?_
  have c2448 := (c2418.other W2445 (Or.inl (neB q2406.lt sz_b2417)))
  refine gGetF X2445 H hZ hown (hw _ wd98) Via.refl e2445 c2448 d21_58 61 rfl ?_
  intro T2449 X2449 e2449
  refine gCmpN X2449 H d21_61 (by decide) 64 rfl ?_
  refine gAloadN X2449 H d21_64 rfl rfl 65 rfl ?_
  refine gIloadN X2449 H d21_65 rfl 66 rfl ?_
  refine gAloadN X2449 H d21_66 rfl rfl 67 rfl ?_
  refine gIloadN X2449 H d21_67 rfl 68 rfl ?_
  have c2450 := (c2421.wr W2445)
  have c2467 := (c2438.other W2445 (Or.inl (neB q2406.lt sz_b2417)))
  have c2468 := (c2440.other W2445 (Or.inl (neB q2406.lt sz_b2417)))
  have c2469 := (c2443.other W2445 (neB q2411.lt sz_b2417))
  refine gVirt X2449 H hZ hown (hw _ wd116) (hw _ wd117) (hw _ wd119) (hw _ wd118) (by decide) c2450 (hw _ wd120) (hw _ wd66) (rm2466_17 B ro0 ro1 ck2 ro3 ro4 ro5 _ O2445 c2467 c2450 c2468 (Arv.arl c2469) c2469) e2449 hml rfl pd11 rfl (W := 2) (argsL := [(.int 1)]) (rest := [(.int 1), (.ref b2417)]) rfl rfl d21_68 71 rfl ?_
  intro v2470 T2470 L2470 hq2470 X2470
  obtain ⟨rfl, e2470, rfl⟩ := hq2470
  have N2470 := Fr.app N2445 (Fr.nil _)
  show Go _ _ _ _ (State.setTop _ (mkF _ 71 _ [(.ref ro4), (.int 1), (.ref b2417)]))
  have c2473 := ((q2472.ext E2417).wr W2445)
  refine gAastore X2470 H hZ e2470 rfl (stoV V2445 Q2417 (Ins.of_exa c2473 (hw _ wd63))) V2445 ⟨by decide, by decide⟩ (i := 1) rfl (Nat.le_of_ble_eq_true rfl) (vs' := [(.ref ro3), (.ref ro4), .null, .null, .null, .null]) rfl d21_71 72 rfl ?_
  intro T2471 h2471 X2471 e2471 W2471 V2471
  have O2471 := extW O2445 W2471 G_b2417
  have N2471 := Fr.snoc X2471 N2470 G_b2417
  refine gIinc X2471 H d21_72 rfl (Ls' := #[vR ro0, vI 6, vR b2417, vI 2]) rfl 75 rfl ?_
  refine gGoto X2471 H d21_75 (by decide) 56 rfl ?_
  refine gIloadN X2471 H d21_56 rfl 57 rfl ?_
  refine gAloadN X2471 H d21_57 rfl rfl 58 rfl ?_
  have c2474 := (c2448.other W2471 (Or.inl (neB q2406.lt sz_b2417)))
  refine gGetF X2471 H hZ hown (hw _ wd98) Via.refl e2471 c2474 d21_58 61 rfl ?_
  intro T2475 X2475 e2475
  refine gCmpN X2475 H d21_61 (by decide) 64 rfl ?_
  refine gAloadN X2475 H d21_64 rfl rfl 65 rfl ?_
  refine gIloadN X2475 H d21_65 rfl 66 rfl ?_
  refine gAloadN X2475 H d21_66 rfl rfl 67 rfl ?_
  refine gIloadN X2475 H d21_67 rfl 68 rfl ?_
  have c2476 := (c2450.wr W2471)
  have c2493 := (c2467.other W2471 (Or.inl (neB q2406.lt sz_b2417)))
  have c2494 := (c2468.other W2471 (Or.inl (neB q2406.lt sz_b2417)))
  have c2495 := (c2469.other W2471 (neB q2411.lt sz_b2417))
  refine gVirt X2475 H hZ hown (hw _ wd116) (hw _ wd117) (hw _ wd119) (hw _ wd118) (by decide) c2476 (hw _ wd120) (hw _ wd66) (rm2492_17 B ro0 ro1 ck2 ro3 ro4 ro5 _ O2471 c2493 c2476 c2494 (Arv.arl c2495) c2495) e2475 hml rfl pd11 rfl (W := 2) (argsL := [(.int 2)]) (rest := [(.int 2), (.ref b2417)]) rfl rfl d21_68 71 rfl ?_
  intro v2496 T2496 L2496 hq2496 X2496
  obtain ⟨rfl, e2496, rfl⟩ := hq2496
  have N2496 := Fr.app N2471 (Fr.nil _)
  show Go _ _ _ _ (State.setTop _ (mkF _ 71 _ [(.ref ro5), (.int 2), (.ref b2417)]))
  have c2499 := (((q2498.ext E2417).wr W2445).wr W2471)
  refine gAastore X2496 H hZ e2496 rfl (stoV V2471 Q2417 (Ins.of_exa c2499 (hw _ wd63))) V2471 ⟨by decide, by decide⟩ (i := 2) rfl (Nat.le_of_ble_eq_true rfl) (vs' := [(.ref ro3), (.ref ro4), (.ref ro5), .null, .null, .null]) rfl d21_71 72 rfl ?_
  intro T2497 h2497 X2497 e2497 W2497 V2497
  have O2497 := extW O2471 W2497 G_b2417
  have N2497 := Fr.snoc X2497 N2496 G_b2417
  refine gIinc X2497 H d21_72 rfl (Ls' := #[vR ro0, vI 6, vR b2417, vI 3]) rfl 75 rfl ?_
  refine gGoto X2497 H d21_75 (by decide) 56 rfl ?_
  refine gIloadN X2497 H d21_56 rfl 57 rfl ?_
  refine gAloadN X2497 H d21_57 rfl rfl 58 rfl ?_
  have c2500 := (c2474.other W2497 (Or.inl (neB q2406.lt sz_b2417)))
  refine gGetF X2497 H hZ hown (hw _ wd98) Via.refl e2497 c2500 d21_58 61 rfl ?_
  intro T2501 X2501 e2501
  refine gCmpY X2501 H d21_61 (by decide) (by decide) 78 rfl ?_
  refine gAloadN X2501 H d21_78 rfl rfl 79 rfl ?_
  refine gAloadN X2501 H d21_79 rfl rfl 80 rfl ?_
  have c2503 := (c2476.wr W2497)
  have c2504 := (c2493.other W2497 (Or.inl (neB q2406.lt sz_b2417)))
  refine gPutF X2501 H hZ hown (hw _ wd96) Via.refl e2501 c2504 c2503 (Or.inl (hw _ wd97)) (hw _ wd65) (ty := (.array (.object "java/lang/Object"))) (by decide) (v' := (.ref b2417)) rfl rfl d21_80 83 rfl ?_
  intro T2502 h2502 X2502 e2502 W2502 F2502
  have O2502 := extW O2497 W2502 q2505
  have N2502 := Fr.snoc X2502 N2497 q2505
  refine gAloadN X2502 H d21_83 rfl rfl 84 rfl ?_
  refine gIconst X2502 H d21_84 (z := 0) rfl 85 rfl ?_
  have c2507 := (c2503.wr W2502)
  have c2508 := ((c2494.other W2497 (Or.inl (neB q2406.lt sz_b2417))).other W2502 (Or.inr (sn14 hw)))
  refine gPutF X2502 H hZ hown (hw _ wd125) Via.refl e2502 c2508 c2507 (Or.inl (hw _ wd126)) (hw _ wd65) (ty := .int) (by decide) (v' := (.int 0)) rfl rfl d21_85 88 rfl ?_
  intro T2506 h2506 X2506 e2506 W2506 F2506
  have O2506 := extW O2502 W2506 q2505
  have N2506 := Fr.snoc X2506 N2502 q2505
  have c2509 := ((c2500.other W2502 (Or.inr (sn6 hw))).other W2506 (Or.inr (sn16 hw)))
  have c2510 := (F2502.other W2506 (Or.inr (sn18 hw)))
  have c2511 := (c2507.wr W2506)
  have c2513 := ((((((q2512.ext E2417).other W2445 (Or.inl (neB q2406.lt sz_b2417))).other W2471 (Or.inl (neB q2406.lt sz_b2417))).other W2497 (Or.inl (neB q2406.lt sz_b2417))).other W2502 (Or.inr (sn7 hw))).other W2506 (Or.inr (sn22 hw)))
  have c2515 := ((((((q2514.ext E2417).other W2445 (Or.inl (neB q2406.lt sz_b2417))).other W2471 (Or.inl (neB q2406.lt sz_b2417))).other W2497 (Or.inl (neB q2406.lt sz_b2417))).other W2502 (Or.inr (sn11 hw))).other W2506 (Or.inr (sn17 hw)))
  have c2516 := ((V2497.other W2502 (Ne.symm (neB q2406.lt sz_b2417))).other W2506 (Ne.symm (neB q2406.lt sz_b2417)))
  have K_2517 := (Keep.refl h [ro0]).ext E2417
  have K_2518 := K_2517.wr W2445 (Or.inr sz_b2417)
  have K_2519 := K_2518.wr W2471 (Or.inr sz_b2417)
  have K_2520 := K_2519.wr W2497 (Or.inr sz_b2417)
  have K_2521 := K_2520.wr W2502 (Or.inl (List.mem_of_getElem? (i := 0) rfl))
  have K_2522 := K_2521.wr W2506 (Or.inl (List.mem_of_getElem? (i := 0) rfl))
  exact gRetV X2506 H hlk hret d21_88 e2506 ⟨b2417, k2417, rfl, N2506, K_2522, sz_b2417, c2509, c2510, c2516, c2511, F2506, c2513, c2515, Q2417⟩
theorem rm2544_18 (B : Bg Z a0 wE0 w_cacheI k_wE0 cl_cacheI) (ro0 ro1 : Addr) (h : Heap) (O : Ext Z.heap h) (q2538 : Fld Z h ro0 cs3 "head" "I" (.int 0)) (q2540 : Fld Z h ro0 cs3 "buffer" cs2 (.ref ro1)) (q2543 : Arl Z h ro1 (6 : Int32)) :
    Con l Z yM18 prog_50_method_12_code 3 (some .int) ({ frames := 0, cells := 0, slots := 0, locals := 0 } : Room) #[(.ref ro0), (.int 5)] h (fun v h' L => v = some (.int 5) ∧ h' = h ∧ L = []) := by
  have hw := B.1
  refine Con.of (plainFor_of_name pn18) (Ls := #[vR ro0, vI 5, .unset]) (fun _ => rfl) ?_
  intro p e s m below meth c T0 X0 H hml hZ hown hnm hret hlk e0
  refine gAloadN X0 H d18_0 rfl rfl 1 rfl ?_
  refine gGetF X0 H hZ hown (hw _ wd125) Via.refl e0 q2538 d18_1 4 rfl ?_
  intro T2539 X2539 e2539
  refine gIloadN X2539 H d18_4 rfl 5 rfl ?_
  refine g_iadd X2539 H d18_5 (z := 5) (by decide) 6 rfl ?_
  refine gIstoreN X2539 H d18_6 (Ls' := #[vR ro0, vI 5, vI 5]) rfl 7 rfl ?_
  refine gIloadN X2539 H d18_7 rfl 8 rfl ?_
  refine gAloadN X2539 H d18_8 rfl rfl 9 rfl ?_
  refine gGetF X2539 H hZ hown (hw _ wd96) Via.refl e2539 q2540 d18_9 12 rfl ?_
  intro T2541 X2541 e2541
  refine gLen X2541 H hZ e2541 q2543 d18_12 13 rfl ?_
  refine gCmpN X2541 H d18_13 (by decide) 16 rfl ?_
  refine gIloadN X2541 H d18_16 rfl 17 rfl ?_
  refine gGoto X2541 H d18_17 (by decide) 27 rfl ?_
  exact gRetI X2541 H hlk hret d18_27 e2541 ⟨rfl, rfl, rfl⟩
theorem rm2565_18 (B : Bg Z a0 wE0 w_cacheI k_wE0 cl_cacheI) (ro0 ro1 : Addr) (h : Heap) (O : Ext Z.heap h) (q2559 : Fld Z h ro0 cs3 "head" "I" (.int 5)) (q2561 : Fld Z h ro0 cs3 "buffer" cs2 (.ref ro1)) (q2564 : Arl Z h ro1 (6 : Int32)) :
    Con l Z yM18 prog_50_method_12_code 3 (some .int) ({ frames := 0, cells := 0, slots := 0, locals := 0 } : Room) #[(.ref ro0), (.int 0)] h (fun v h' L => v = some (.int 5) ∧ h' = h ∧ L = []) := by
  have hw := B.1
  refine Con.of (plainFor_of_name pn18) (Ls := #[vR ro0, vI 0, .unset]) (fun _ => rfl) ?_
  intro p e s m below meth c T0 X0 H hml hZ hown hnm hret hlk e0
  refine gAloadN X0 H d18_0 rfl rfl 1 rfl ?_
  refine gGetF X0 H hZ hown (hw _ wd125) Via.refl e0 q2559 d18_1 4 rfl ?_
  intro T2560 X2560 e2560
  refine gIloadN X2560 H d18_4 rfl 5 rfl ?_
  refine g_iadd X2560 H d18_5 (z := 5) (by decide) 6 rfl ?_
  refine gIstoreN X2560 H d18_6 (Ls' := #[vR ro0, vI 0, vI 5]) rfl 7 rfl ?_
  refine gIloadN X2560 H d18_7 rfl 8 rfl ?_
  refine gAloadN X2560 H d18_8 rfl rfl 9 rfl ?_
  refine gGetF X2560 H hZ hown (hw _ wd96) Via.refl e2560 q2561 d18_9 12 rfl ?_
  intro T2562 X2562 e2562
  refine gLen X2562 H hZ e2562 q2564 d18_12 13 rfl ?_
  refine gCmpN X2562 H d18_13 (by decide) 16 rfl ?_
  refine gIloadN X2562 H d18_16 rfl 17 rfl ?_
  refine gGoto X2562 H d18_17 (by decide) 27 rfl ?_
  exact gRetI X2562 H hlk hret d18_27 e2562 ⟨rfl, rfl, rfl⟩
theorem rm2575_23 (B : Bg Z a0 wE0 w_cacheI k_wE0 cl_cacheI) (ro0 ro1 ro2 : Addr) (ck3 : ClassId) (ro4 ro5 ro6 : Addr) (h : Heap) (O : Ext Z.heap h) (q2556 : Fld Z h ro0 cs3 "buffer" cs2 (.ref ro2)) (q2558 : Exa Z h ro0 cs3) (q2566 : Fld Z h ro0 cs3 "head" "I" (.int 5)) (q2567 : Arl Z h ro2 (6 : Int32)) (q2570 : Arv Z h ro2 ck3 (.object "java/lang/Object") (6 : Int32) [(.ref ro4), (.ref ro5), (.ref ro6), .null, .null, .null] .null) (q2571 : Exa Z h ro1 cs4) (q2572 : Ovr Z ck3 "java/lang/Object") (q2573 : Z.heap.size ≤ ro2) :
    Con l Z yM23 prog_50_method_5_code 3 none ({ frames := 1, cells := 0, slots := 0, locals := 15 } : Room) #[(.ref ro0), (.int 0), (.ref ro1)] h (fun v h' L => v = none ∧ Fr Z.heap.size L ∧ Keep h h' [ro2] ∧ Arv Z h' ro2 ck3 (.object "java/lang/Object") (6 : Int32) [(.ref ro4), (.ref ro5), (.ref ro6), .null, .null, (.ref ro1)] .null) := by
  have hw := B.1
  refine Con.of (plainFor_of_name pn23) (Ls := #[vR ro0, vI 0, vR ro1]) (fun _ => rfl) ?_
  intro p e s m below meth c T0 X0 H hml hZ hown hnm hret hlk e0
  have N0 := Fr.nil Z.heap.size
  refine gAloadN X0 H d23_0 rfl rfl 1 rfl ?_
  refine gGetF X0 H hZ hown (hw _ wd96) Via.refl e0 q2556 d23_1 4 rfl ?_
  intro T2557 X2557 e2557
  refine gAloadN X2557 H d23_4 rfl rfl 5 rfl ?_
  refine gIloadN X2557 H d23_5 rfl 6 rfl ?_
  refine gPrivate X2557 H hZ hown (hw _ wd121) (hw _ wd122) (hw _ wd123) (hw _ wd65) (by decide) q2558 (hw _ wd124) (hw _ wd66) (rm2565_18 B ro0 ro2 _ O q2566 q2556 q2567) e2557 hml rfl pd6 rfl (W := 1) (argsL := [(.int 0)]) (rest := [(.ref ro2)]) rfl rfl d23_6 9 rfl ?_
  intro v2568 T2568 L2568 hq2568 X2568
  obtain ⟨rfl, e2568, rfl⟩ := hq2568
  have N2568 := Fr.app N0 (Fr.nil _)
  show Go _ _ _ _ (State.setTop _ (mkF _ 9 _ [(.int 5), (.ref ro2)]))
  refine gAloadN X2568 H d23_9 rfl rfl 10 rfl ?_
  refine gAastore X2568 H hZ e2568 rfl (stoV q2570 q2572 (Ins.of_exa q2571 (hw _ wd63))) q2570 ⟨by decide, by decide⟩ (i := 5) rfl (Nat.le_of_ble_eq_true rfl) (vs' := [(.ref ro4), (.ref ro5), (.ref ro6), .null, .null, (.ref ro1)]) rfl d23_10 11 rfl ?_
  intro T2569 h2569 X2569 e2569 W2569 V2569
  have O2569 := extW O W2569 q2573
  have N2569 := Fr.snoc X2569 N2568 q2573
  have K_2574 := (Keep.refl h [ro2]).wr W2569 (Or.inl (List.mem_of_getElem? (i := 0) rfl))
  exact gRetV X2569 H hlk hret d23_11 e2569 ⟨rfl, N2569, K_2574, V2569⟩
theorem rm2593_20 (B : Bg Z a0 wE0 w_cacheI k_wE0 cl_cacheI) (ro0 ro1 ro2 : Addr) (ck3 : ClassId) (ro4 ro5 ro6 : Addr) (h : Heap) (O : Ext Z.heap h) (q2405 : Exa Z h ro0 cs3) (q2524 : Fld Z h ro0 cs3 "size" "I" (.int 3)) (q2525 : Fld Z h ro0 cs3 "buffer" cs2 (.ref ro2)) (q2526 : Arl Z h ro2 (3 : Int32)) (q2527 : Fld Z h ro0 cs3 "head" "I" (.int 0)) (q2528 : Arv Z h ro2 ck3 (.object "java/lang/Object") (3 : Int32) [(.ref ro4), (.ref ro5), (.ref ro6)] .null) (q2529 : Exa Z h ro4 cs4) (q2530 : Exa Z h ro5 cs4) (q2531 : Exa Z h ro6 cs4) (q2532 : Z.heap.size ≤ ro0) (q2533 : Fld Z h ro0 cs3 "serial" "I" (.int 1)) (q2534 : Fld Z h ro0 cs3 "firstNumber" "J" (.long 0)) (q2579 : Exa Z h ro1 cs4) :
    Con l Z yM20 prog_50_method_9_code 2 none ({ frames := 3, cells := 1, slots := 6, locals := 45 } : Room) #[(.ref ro0), (.ref ro1)] h (fun v h' L => ∃ (b2535_0 : Addr) (k2535_0 : ClassId), v = none ∧ Fr Z.heap.size L ∧ Keep h h' [ro0] ∧ h.size ≤ b2535_0 ∧ Exa Z h' ro0 cs3 ∧ Fld Z h' ro0 cs3 "size" "I" (.int 4) ∧ Fld Z h' ro0 cs3 "buffer" cs2 (.ref b2535_0) ∧ Fld Z h' ro0 cs3 "head" "I" (.int 5) ∧ Fld Z h' ro0 cs3 "serial" "I" (.int 1) ∧ Fld Z h' ro0 cs3 "firstNumber" "J" (.long (-1)) ∧ Arv Z h' b2535_0 k2535_0 (.object "java/lang/Object") (6 : Int32) [(.ref ro4), (.ref ro5), (.ref ro6), .null, .null, (.ref ro1)] .null ∧ Ovr Z k2535_0 "java/lang/Object") := by
  have hw := B.1
  refine Con.of (plainFor_of_name pn20) (Ls := #[vR ro0, vR ro1]) (fun _ => rfl) ?_
  intro p e s m below meth c T0 X0 H hml hZ hown hnm hret hlk e0
  have M0 := Nat.le_refl h.size
  have N0 := Fr.nil Z.heap.size
  refine gAloadN X0 H d20_0 rfl rfl 1 rfl ?_
  refine gPrivate X0 H hZ hown (hw _ wd135) (hw _ wd136) (hw _ wd137) (hw _ wd65) (by decide) q2405 (hw _ wd138) (hw _ wd66) (rm2523_21 B ro0 ro2 ck3 ro4 ro5 ro6 _ O q2524 q2525 q2526 q2405 q2527 q2528 q2529 q2530 q2531 q2532 q2533 q2534) e0 hml rfl pd0 rfl (W := 0) (argsL := []) (rest := []) rfl rfl d20_1 4 rfl ?_
  intro v2535 T2535 L2535 hq2535 X2535
  obtain ⟨b2535_0, k2535_0, rfl, N2535q, K2535, s2535_0, f2535_0, f2535_1, f2535_2, f2535_3, f2535_4, f2535_5, f2535_6, f2535_7⟩ := hq2535
  have G_b2535_0 := Nat.le_trans O.1 s2535_0
  have sz_b2535_0 := Nat.le_trans M0 s2535_0
  have O2535 := extK O K2535 (allS q2532 all0)
  have N2535 := Fr.app N0 N2535q
  show Go _ _ _ _ (State.setTop _ (mkF _ 4 _ []))
  refine gAloadN X2535 H d20_4 rfl rfl 5 rfl ?_
  refine gAloadN X2535 H d20_5 rfl rfl 6 rfl ?_
  refine gAloadN X2535 H d20_6 rfl rfl 7 rfl ?_
  refine gGetF X2535 H hZ hown (hw _ wd96) Via.refl rfl f2535_1 d20_7 10 rfl ?_
  intro T2536 X2536 e2536
  refine gLen X2536 H hZ e2536 (Arv.arl f2535_2) d20_10 11 rfl ?_
  refine gIconst X2536 H d20_11 (z := 1) rfl 12 rfl ?_
  refine g_isub X2536 H d20_12 (z := 5) (by decide) 13 rfl ?_
  refine gPrivate X2536 H hZ hown (hw _ wd121) (hw _ wd122) (hw _ wd123) (hw _ wd65) (by decide) f2535_3 (hw _ wd124) (hw _ wd66) (rm2544_18 B ro0 b2535_0 _ O2535 f2535_4 f2535_1 (Arv.arl f2535_2)) e2536 hml rfl pd6 rfl (W := 1) (argsL := [(.int 5)]) (rest := [(.ref ro0)]) rfl rfl d20_13 16 rfl ?_
  intro v2545 T2545 L2545 hq2545 X2545
  obtain ⟨rfl, e2545, rfl⟩ := hq2545
  have N2545 := Fr.app N2535 (Fr.nil _)
  show Go _ _ _ _ (State.setTop _ (mkF _ 16 _ [(.int 5), (.ref ro0)]))
  refine gPutF X2545 H hZ hown (hw _ wd125) Via.refl e2545 f2535_4 f2535_3 (Or.inl (hw _ wd126)) (hw _ wd65) (ty := .int) (by decide) (v' := (.int 5)) rfl rfl d20_16 19 rfl ?_
  intro T2546 h2546 X2546 e2546 W2546 F2546
  have O2546 := extW O2535 W2546 q2532
  have N2546 := Fr.snoc X2546 N2545 q2532
  refine gAloadN X2546 H d20_19 rfl rfl 20 rfl ?_
  refine gDup X2546 H d20_20 rfl 21 rfl ?_
  have c2547 := (f2535_0.other W2546 (Or.inr (sn16 hw)))
  refine gGetF X2546 H hZ hown (hw _ wd98) Via.refl e2546 c2547 d20_21 24 rfl ?_
  intro T2548 X2548 e2548
  refine gIconst X2548 H d20_24 (z := 1) rfl 25 rfl ?_
  refine g_iadd X2548 H d20_25 (z := 4) (by decide) 26 rfl ?_
  have c2550 := (f2535_3.wr W2546)
  refine gPutF X2548 H hZ hown (hw _ wd98) Via.refl e2548 c2547 c2550 (Or.inl (hw _ wd99)) (hw _ wd65) (ty := .int) (by decide) (v' := (.int 4)) rfl rfl d20_26 29 rfl ?_
  intro T2549 h2549 X2549 e2549 W2549 F2549
  have O2549 := extW O2546 W2549 q2532
  have N2549 := Fr.snoc X2549 N2546 q2532
  refine gAloadN X2549 H d20_29 rfl rfl 30 rfl ?_
  refine gDup X2549 H d20_30 rfl 31 rfl ?_
  have c2551 := ((f2535_6.other W2546 (Or.inr (sn17 hw))).other W2549 (Or.inr (sn12 hw)))
  refine gGetF X2549 H hZ hown (hw _ wd105) Via.refl e2549 c2551 d20_31 34 rfl ?_
  intro T2552 X2552 e2552
  refine gLconst X2552 H d20_34 (z := 1) rfl 35 rfl ?_
  refine g_lsub X2552 H d20_35 (z := (-1)) (by decide) 36 rfl ?_
  have c2554 := (c2550.wr W2549)
  refine gPutF X2552 H hZ hown (hw _ wd105) Via.refl e2552 c2551 c2554 (Or.inl (hw _ wd106)) (hw _ wd65) (ty := .long) (by decide) (v' := (.long (-1))) rfl rfl d20_36 39 rfl ?_
  intro T2553 h2553 X2553 e2553 W2553 F2553
  have O2553 := extW O2549 W2553 q2532
  have N2553 := Fr.snoc X2553 N2549 q2532
  refine gAloadN X2553 H d20_39 rfl rfl 40 rfl ?_
  refine gIconst X2553 H d20_40 (z := 0) rfl 41 rfl ?_
  refine gAloadN X2553 H d20_41 rfl rfl 42 rfl ?_
  have c2555 := (c2554.wr W2553)
  have c2576 := (((f2535_1.other W2546 (Or.inr (sn18 hw))).other W2549 (Or.inr (sn9 hw))).other W2553 (Or.inr (sn19 hw)))
  have c2577 := ((F2546.other W2549 (Or.inr (sn15 hw))).other W2553 (Or.inr (sn20 hw)))
  have c2578 := (((f2535_2.other W2546 (Ne.symm (neB q2405.lt sz_b2535_0))).other W2549 (Ne.symm (neB q2405.lt sz_b2535_0))).other W2553 (Ne.symm (neB q2405.lt sz_b2535_0)))
  have c2580 := ((((q2579.keep K2535).wr W2546).wr W2549).wr W2553)
  refine gVirt X2553 H hZ hown (hw _ wd144) (hw _ wd145) (hw _ wd147) (hw _ wd146) (by decide) c2555 (hw _ wd148) (hw _ wd66) (rm2575_23 B ro0 ro1 b2535_0 k2535_0 ro4 ro5 ro6 _ O2553 c2576 c2555 c2577 (Arv.arl c2578) c2578 c2580 f2535_7 G_b2535_0) e2553 hml rfl pd7 rfl (W := 0) (argsL := [(.int 0), (.ref ro1)]) (rest := []) rfl rfl d20_42 45 rfl ?_
  intro v2581 T2581 L2581 hq2581 X2581
  obtain ⟨rfl, N2581q, K2581, f2581_0⟩ := hq2581
  have O2581 := extK O2553 K2581 (allS G_b2535_0 all0)
  have N2581 := Fr.app N2553 N2581q
  show Go _ _ _ _ (State.setTop _ (mkF _ 45 _ []))
  have c2582 := (c2555.keep K2581)
  have c2583 := ((F2549.other W2553 (Or.inr (sn21 hw))).keep K2581 (ninS (neB q2405.lt sz_b2535_0) nin0))
  have c2584 := (c2576.keep K2581 (ninS (neB q2405.lt sz_b2535_0) nin0))
  have c2585 := (c2577.keep K2581 (ninS (neB q2405.lt sz_b2535_0) nin0))
  have c2586 := ((((f2535_5.other W2546 (Or.inr (sn22 hw))).other W2549 (Or.inr (sn8 hw))).other W2553 (Or.inr (sn23 hw))).keep K2581 (ninS (neB q2405.lt sz_b2535_0) nin0))
  have c2587 := (F2553.keep K2581 (ninS (neB q2405.lt sz_b2535_0) nin0))
  have K_2588 := (Keep.refl h [ro0]).trans K2535 (allS (Or.inl (List.mem_of_getElem? (i := 0) rfl)) all0)
  have K_2589 := K_2588.wr W2546 (Or.inl (List.mem_of_getElem? (i := 0) rfl))
  have K_2590 := K_2589.wr W2549 (Or.inl (List.mem_of_getElem? (i := 0) rfl))
  have K_2591 := K_2590.wr W2553 (Or.inl (List.mem_of_getElem? (i := 0) rfl))
  have K_2592 := K_2591.trans K2581 (allS (Or.inr sz_b2535_0) all0)
  exact gRetV X2581 H hlk hret d20_45 rfl ⟨b2535_0, k2535_0, rfl, N2581, K_2592, sz_b2535_0, c2582, c2583, c2584, c2585, c2586, c2587, f2581_0, f2535_7⟩
theorem rm2620_15 (B : Bg Z a0 wE0 w_cacheI k_wE0 cl_cacheI) (ro0 ro1 : Addr) (ck2 : ClassId) (ro3 ro4 ro5 : Addr) (h : Heap) (O : Ext Z.heap h) (q2403 : Exa Z h ro0 cs3) (q2594 : Fld Z h ro0 cs3 "size" "I" (.int 3)) (q2596 : Fld Z h ro0 cs3 "buffer" cs2 (.ref ro1)) (q2598 : Arl Z h ro1 (3 : Int32)) (q2600 : Fld Z h ro0 cs3 "head" "I" (.int 0)) (q2602 : Arv Z h ro1 ck2 (.object "java/lang/Object") (3 : Int32) [(.ref ro3), (.ref ro4), (.ref ro5)] .null) (q2604 : Exa Z h ro3 cs4) (q2606 : Exa Z h ro4 cs4) (q2608 : Exa Z h ro5 cs4) (q2610 : Z.heap.size ≤ ro0) (q2611 : Fld Z h ro0 cs3 "serial" "I" (.int 1)) (q2613 : Fld Z h ro0 cs3 "firstNumber" "J" (.long 0)) :
    Con l Z yM15 method_2_code 2 none ({ frames := 4, cells := 1, slots := 6, locals := 58 } : Room) #[(.ref ro0), (.int 0)] h (fun v h' L => ∃ (b2402_0 b2615_0 : Addr) (k2615_0 : ClassId), v = none ∧ Fr Z.heap.size L ∧ Keep h h' [ro0] ∧ h.size ≤ b2615_0 ∧ Exa Z h' b2402_0 cs4 ∧ Exa Z h' ro0 cs3 ∧ Fld Z h' ro0 cs3 "size" "I" (.int 4) ∧ Fld Z h' ro0 cs3 "buffer" cs2 (.ref b2615_0) ∧ Fld Z h' ro0 cs3 "head" "I" (.int 5) ∧ Fld Z h' ro0 cs3 "serial" "I" (.int 1) ∧ Fld Z h' ro0 cs3 "firstNumber" "J" (.long (-1)) ∧ Arv Z h' b2615_0 k2615_0 (.object "java/lang/Object") (6 : Int32) [(.ref ro3), (.ref ro4), (.ref ro5), .null, .null, (.ref b2402_0)] .null ∧ b2402_0 ≠ b2615_0 ∧ Ovr Z k2615_0 "java/lang/Object") := by
  have hw := B.1
  refine Con.of (plainFor_of_name pn15) (Ls := #[vR ro0, vI 0]) (fun _ => rfl) ?_
  intro p e s m below meth c T0 X0 H hml hZ hown hnm hret hlk e0
  have M0 := Nat.le_refl h.size
  have N0 := Fr.nil Z.heap.size
  refine gIloadN X0 H d15_0 rfl 1 rfl ?_
  refine gIfY X0 H d15_1 (by decide) (by decide) 12 rfl ?_
  refine gAloadN X0 H d15_12 rfl rfl 13 rfl ?_
  refine gBipush X0 H d15_13 (z := 20) rfl 15 rfl ?_
  refine gStatic X0 H hZ hown (hw _ wd26) (hw _ wd27) (by decide) (hw _ wd29) (hw _ wd28) (rm110_5 B _ O) e0 hml rfl pd5 rfl (W := 1) (argsL := [(.int 20)]) (rest := [(.ref ro0)]) rfl rfl d15_15 18 rfl ?_
  intro v2402 T2402 L2402 hq2402 X2402
  obtain ⟨b2402_0, rfl, N2402q, K2402, f2402_0⟩ := hq2402
  have O2402 := extK O K2402 all0
  have N2402 := Fr.app N0 N2402q
  show Go _ _ _ _ (State.setTop _ (mkF _ 18 _ [(.ref b2402_0), (.ref ro0)]))
  have c2404 := (q2403.keep K2402)
  have c2595 := (q2594.keep K2402 nin0)
  have c2597 := (q2596.keep K2402 nin0)
  have c2599 := (q2598.keep K2402 nin0)
  have c2601 := (q2600.keep K2402 nin0)
  have c2603 := (q2602.keep K2402 nin0)
  have c2605 := (q2604.keep K2402)
  have c2607 := (q2606.keep K2402)
  have c2609 := (q2608.keep K2402)
  have c2612 := (q2611.keep K2402 nin0)
  have c2614 := (q2613.keep K2402 nin0)
  refine gVirt X2402 H hZ hown (hw _ wd130) (hw _ wd131) (hw _ wd133) (hw _ wd132) (by decide) c2404 (hw _ wd134) (hw _ wd66) (rm2593_20 B ro0 b2402_0 ro1 ck2 ro3 ro4 ro5 _ O2402 c2404 c2595 c2597 c2599 c2601 c2603 c2605 c2607 c2609 q2610 c2612 c2614 f2402_0) rfl hml rfl pd8 rfl (W := 0) (argsL := [(.ref b2402_0)]) (rest := []) rfl rfl d15_18 21 rfl ?_
  intro v2615 T2615 L2615 hq2615 X2615
  obtain ⟨b2615_0, k2615_0, rfl, N2615q, K2615, s2615_0, f2615_0, f2615_1, f2615_2, f2615_3, f2615_4, f2615_5, f2615_6, f2615_7⟩ := hq2615
  have M2616 := (Nat.le_trans M0 K2402.1)
  have G_b2615_0 := Nat.le_trans O2402.1 s2615_0
  have sz_b2615_0 := Nat.le_trans M2616 s2615_0
  have ne_b2402_0_b2615_0 : b2402_0 ≠ b2615_0 := neB f2402_0.lt s2615_0
  have O2615 := extK O2402 K2615 (allS q2610 all0)
  have N2615 := Fr.app N2402 N2615q
  show Go _ _ _ _ (State.setTop _ (mkF _ 21 _ []))
  have c2617 := (f2402_0.keep K2615)
  have K_2618 := (Keep.refl h [ro0]).trans K2402 all0
  have K_2619 := K_2618.trans K2615 (allS (Or.inl (List.mem_of_getElem? (i := 0) rfl)) all0)
  exact gRetV X2615 H hlk hret d15_21 rfl ⟨b2402_0, b2615_0, k2615_0, rfl, N2615, K_2619, sz_b2615_0, c2617, f2615_0, f2615_1, f2615_2, f2615_3, f2615_4, f2615_5, f2615_6, ne_b2402_0_b2615_0, f2615_7⟩
theorem rm2639_21 (B : Bg Z a0 wE0 w_cacheI k_wE0 cl_cacheI) (ro0 ro1 : Addr) (h : Heap) (O : Ext Z.heap h) (q2633 : Fld Z h ro0 cs3 "size" "I" (.int 4)) (q2635 : Fld Z h ro0 cs3 "buffer" cs2 (.ref ro1)) (q2638 : Arl Z h ro1 (6 : Int32)) :
    Con l Z yM21 prog_50_method_13_code 4 none ({ frames := 0, cells := 0, slots := 0, locals := 0 } : Room) #[(.ref ro0)] h (fun v h' L => v = none ∧ h' = h ∧ L = []) := by
  have hw := B.1
  refine Con.of (plainFor_of_name pn21) (Ls := #[vR ro0, .unset, .unset, .unset]) (fun _ => rfl) ?_
  intro p e s m below meth c T0 X0 H hml hZ hown hnm hret hlk e0
  refine gAloadN X0 H d21_0 rfl rfl 1 rfl ?_
  refine gGetF X0 H hZ hown (hw _ wd98) Via.refl e0 q2633 d21_1 4 rfl ?_
  intro T2634 X2634 e2634
  refine gAloadN X2634 H d21_4 rfl rfl 5 rfl ?_
  refine gGetF X2634 H hZ hown (hw _ wd96) Via.refl e2634 q2635 d21_5 8 rfl ?_
  intro T2636 X2636 e2636
  refine gLen X2636 H hZ e2636 q2638 d21_8 9 rfl ?_
  refine gCmpN X2636 H d21_9 (by decide) 12 rfl ?_
  exact gRetV X2636 H hlk hret d21_12 e2636 ⟨rfl, rfl, rfl⟩
theorem rm2654_18 (B : Bg Z a0 wE0 w_cacheI k_wE0 cl_cacheI) (ro0 ro1 : Addr) (h : Heap) (O : Ext Z.heap h) (q2646 : Fld Z h ro0 cs3 "head" "I" (.int 5)) (q2648 : Fld Z h ro0 cs3 "buffer" cs2 (.ref ro1)) (q2651 : Arl Z h ro1 (6 : Int32)) :
    Con l Z yM18 prog_50_method_12_code 3 (some .int) ({ frames := 0, cells := 0, slots := 0, locals := 0 } : Room) #[(.ref ro0), (.int 5)] h (fun v h' L => v = some (.int 4) ∧ h' = h ∧ L = []) := by
  have hw := B.1
  refine Con.of (plainFor_of_name pn18) (Ls := #[vR ro0, vI 5, .unset]) (fun _ => rfl) ?_
  intro p e s m below meth c T0 X0 H hml hZ hown hnm hret hlk e0
  refine gAloadN X0 H d18_0 rfl rfl 1 rfl ?_
  refine gGetF X0 H hZ hown (hw _ wd125) Via.refl e0 q2646 d18_1 4 rfl ?_
  intro T2647 X2647 e2647
  refine gIloadN X2647 H d18_4 rfl 5 rfl ?_
  refine g_iadd X2647 H d18_5 (z := 10) (by decide) 6 rfl ?_
  refine gIstoreN X2647 H d18_6 (Ls' := #[vR ro0, vI 5, vI 10]) rfl 7 rfl ?_
  refine gIloadN X2647 H d18_7 rfl 8 rfl ?_
  refine gAloadN X2647 H d18_8 rfl rfl 9 rfl ?_
  refine gGetF X2647 H hZ hown (hw _ wd96) Via.refl e2647 q2648 d18_9 12 rfl ?_
  intro T2649 X2649 e2649
  refine gLen X2649 H hZ e2649 q2651 d18_12 13 rfl ?_
  refine gCmpY X2649 H d18_13 (by decide) (by decide) 20 rfl ?_
  refine gIloadN X2649 H d18_20 rfl 21 rfl ?_
  refine gAloadN X2649 H d18_21 rfl rfl 22 rfl ?_
  refine gGetF X2649 H hZ hown (hw _ wd96) Via.refl e2649 q2648 d18_22 25 rfl ?_
  intro T2652 X2652 e2652
  refine gLen X2652 H hZ e2652 q2651 d18_25 26 rfl ?_
  refine g_isub X2652 H d18_26 (z := 4) (by decide) 27 rfl ?_
  exact gRetI X2652 H hlk hret d18_27 e2652 ⟨rfl, rfl, rfl⟩
theorem rm2678_18 (B : Bg Z a0 wE0 w_cacheI k_wE0 cl_cacheI) (ro0 ro1 : Addr) (h : Heap) (O : Ext Z.heap h) (q2672 : Fld Z h ro0 cs3 "head" "I" (.int 4)) (q2674 : Fld Z h ro0 cs3 "buffer" cs2 (.ref ro1)) (q2677 : Arl Z h ro1 (6 : Int32)) :
    Con l Z yM18 prog_50_method_12_code 3 (some .int) ({ frames := 0, cells := 0, slots := 0, locals := 0 } : Room) #[(.ref ro0), (.int 0)] h (fun v h' L => v = some (.int 4) ∧ h' = h ∧ L = []) := by
  have hw := B.1
  refine Con.of (plainFor_of_name pn18) (Ls := #[vR ro0, vI 0, .unset]) (fun _ => rfl) ?_
  intro p e s m below meth c T0 X0 H hml hZ hown hnm hret hlk e0
  refine gAloadN X0 H d18_0 rfl rfl 1 rfl ?_
  refine gGetF X0 H hZ hown (hw _ wd125) Via.refl e0 q2672 d18_1 4 rfl ?_
  intro T2673 X2673 e2673
  refine gIloadN X2673 H d18_4 rfl 5 rfl ?_
  refine g_iadd X2673 H d18_5 (z := 4) (by decide) 6 rfl ?_
  refine gIstoreN X2673 H d18_6 (Ls' := #[vR ro0, vI 0, vI 4]) rfl 7 rfl ?_
  refine gIloadN X2673 H d18_7 rfl 8 rfl ?_
  refine gAloadN X2673 H d18_8 rfl rfl 9 rfl ?_
  refine gGetF X2673 H hZ hown (hw _ wd96) Via.refl e2673 q2674 d18_9 12 rfl ?_
  intro T2675 X2675 e2675
  refine gLen X2675 H hZ e2675 q2677 d18_12 13 rfl ?_
  refine gCmpN X2675 H d18_13 (by decide) 16 rfl ?_
  refine gIloadN X2675 H d18_16 rfl 17 rfl ?_
  refine gGoto X2675 H d18_17 (by decide) 27 rfl ?_
  exact gRetI X2675 H hlk hret d18_27 e2675 ⟨rfl, rfl, rfl⟩
theorem rm2688_23 (B : Bg Z a0 wE0 w_cacheI k_wE0 cl_cacheI) (ro0 ro1 ro2 : Addr) (ck3 : ClassId) (ro4 ro5 ro6 ro7 : Addr) (h : Heap) (O : Ext Z.heap h) (q2669 : Fld Z h ro0 cs3 "buffer" cs2 (.ref ro2)) (q2671 : Exa Z h ro0 cs3) (q2679 : Fld Z h ro0 cs3 "head" "I" (.int 4)) (q2680 : Arl Z h ro2 (6 : Int32)) (q2683 : Arv Z h ro2 ck3 (.object "java/lang/Object") (6 : Int32) [(.ref ro4), (.ref ro5), (.ref ro6), .null, .null, (.ref ro7)] .null) (q2684 : Exa Z h ro1 cs4) (q2685 : Ovr Z ck3 "java/lang/Object") (q2686 : Z.heap.size ≤ ro2) :
    Con l Z yM23 prog_50_method_5_code 3 none ({ frames := 1, cells := 0, slots := 0, locals := 15 } : Room) #[(.ref ro0), (.int 0), (.ref ro1)] h (fun v h' L => v = none ∧ Fr Z.heap.size L ∧ Keep h h' [ro2] ∧ Arv Z h' ro2 ck3 (.object "java/lang/Object") (6 : Int32) [(.ref ro4), (.ref ro5), (.ref ro6), .null, (.ref ro1), (.ref ro7)] .null) := by
  have hw := B.1
  refine Con.of (plainFor_of_name pn23) (Ls := #[vR ro0, vI 0, vR ro1]) (fun _ => rfl) ?_
  intro p e s m below meth c T0 X0 H hml hZ hown hnm hret hlk e0
  have N0 := Fr.nil Z.heap.size
  refine gAloadN X0 H d23_0 rfl rfl 1 rfl ?_
  refine gGetF X0 H hZ hown (hw _ wd96) Via.refl e0 q2669 d23_1 4 rfl ?_
  intro T2670 X2670 e2670
  refine gAloadN X2670 H d23_4 rfl rfl 5 rfl ?_
  refine gIloadN X2670 H d23_5 rfl 6 rfl ?_
  refine gPrivate X2670 H hZ hown (hw _ wd121) (hw _ wd122) (hw _ wd123) (hw _ wd65) (by decide) q2671 (hw _ wd124) (hw _ wd66) (rm2678_18 B ro0 ro2 _ O q2679 q2669 q2680) e2670 hml rfl pd6 rfl (W := 1) (argsL := [(.int 0)]) (rest := [(.ref ro2)]) rfl rfl d23_6 9 rfl ?_
  intro v2681 T2681 L2681 hq2681 X2681
  obtain ⟨rfl, e2681, rfl⟩ := hq2681
  have N2681 := Fr.app N0 (Fr.nil _)
  show Go _ _ _ _ (State.setTop _ (mkF _ 9 _ [(.int 4), (.ref ro2)]))
  refine gAloadN X2681 H d23_9 rfl rfl 10 rfl ?_
  refine gAastore X2681 H hZ e2681 rfl (stoV q2683 q2685 (Ins.of_exa q2684 (hw _ wd63))) q2683 ⟨by decide, by decide⟩ (i := 4) rfl (Nat.le_of_ble_eq_true rfl) (vs' := [(.ref ro4), (.ref ro5), (.ref ro6), .null, (.ref ro1), (.ref ro7)]) rfl d23_10 11 rfl ?_
  intro T2682 h2682 X2682 e2682 W2682 V2682
  have O2682 := extW O W2682 q2686
  have N2682 := Fr.snoc X2682 N2681 q2686
  have K_2687 := (Keep.refl h [ro2]).wr W2682 (Or.inl (List.mem_of_getElem? (i := 0) rfl))
  exact gRetV X2682 H hlk hret d23_11 e2682 ⟨rfl, N2682, K_2687, V2682⟩
theorem rm2712_20 (B : Bg Z a0 wE0 w_cacheI k_wE0 cl_cacheI) (ro0 ro1 ro2 : Addr) (ck3 : ClassId) (ro4 ro5 ro6 ro7 : Addr) (h : Heap) (O : Ext Z.heap h) (q2632 : Exa Z h ro0 cs3) (q2640 : Fld Z h ro0 cs3 "size" "I" (.int 4)) (q2641 : Fld Z h ro0 cs3 "buffer" cs2 (.ref ro2)) (q2642 : Arl Z h ro2 (6 : Int32)) (q2655 : Fld Z h ro0 cs3 "head" "I" (.int 5)) (q2658 : Z.heap.size ≤ ro0) (q2663 : Fld Z h ro0 cs3 "firstNumber" "J" (.long (-1))) (q2692 : ro2 ≠ ro0) (q2694 : Arv Z h ro2 ck3 (.object "java/lang/Object") (6 : Int32) [(.ref ro4), (.ref ro5), (.ref ro6), .null, .null, (.ref ro7)] .null) (q2696 : Exa Z h ro1 cs4) (q2698 : Ovr Z ck3 "java/lang/Object") (q2699 : Z.heap.size ≤ ro2) (q2706 : Fld Z h ro0 cs3 "serial" "I" (.int 1)) :
    Con l Z yM20 prog_50_method_9_code 2 none ({ frames := 2, cells := 0, slots := 0, locals := 29 } : Room) #[(.ref ro0), (.ref ro1)] h (fun v h' L => v = none ∧ Fr Z.heap.size L ∧ Keep h h' [ro0, ro2] ∧ Exa Z h' ro0 cs3 ∧ Fld Z h' ro0 cs3 "size" "I" (.int 5) ∧ Fld Z h' ro0 cs3 "buffer" cs2 (.ref ro2) ∧ Fld Z h' ro0 cs3 "head" "I" (.int 4) ∧ Fld Z h' ro0 cs3 "firstNumber" "J" (.long (-2)) ∧ Arv Z h' ro2 ck3 (.object "java/lang/Object") (6 : Int32) [(.ref ro4), (.ref ro5), (.ref ro6), .null, (.ref ro1), (.ref ro7)] .null ∧ Fld Z h' ro0 cs3 "serial" "I" (.int 1)) := by
  have hw := B.1
  refine Con.of (plainFor_of_name pn20) (Ls := #[vR ro0, vR ro1]) (fun _ => rfl) ?_
  intro p e s m below meth c T0 X0 H hml hZ hown hnm hret hlk e0
  have N0 := Fr.nil Z.heap.size
  refine gAloadN X0 H d20_0 rfl rfl 1 rfl ?_
  refine gPrivate X0 H hZ hown (hw _ wd135) (hw _ wd136) (hw _ wd137) (hw _ wd65) (by decide) q2632 (hw _ wd138) (hw _ wd66) (rm2639_21 B ro0 ro2 _ O q2640 q2641 q2642) e0 hml rfl pd0 rfl (W := 0) (argsL := []) (rest := []) rfl rfl d20_1 4 rfl ?_
  intro v2643 T2643 L2643 hq2643 X2643
  obtain ⟨rfl, e2643, rfl⟩ := hq2643
  have N2643 := Fr.app N0 (Fr.nil _)
  show Go _ _ _ _ (State.setTop _ (mkF _ 4 _ []))
  refine gAloadN X2643 H d20_4 rfl rfl 5 rfl ?_
  refine gAloadN X2643 H d20_5 rfl rfl 6 rfl ?_
  refine gAloadN X2643 H d20_6 rfl rfl 7 rfl ?_
  refine gGetF X2643 H hZ hown (hw _ wd96) Via.refl e2643 q2641 d20_7 10 rfl ?_
  intro T2644 X2644 e2644
  refine gLen X2644 H hZ e2644 q2642 d20_10 11 rfl ?_
  refine gIconst X2644 H d20_11 (z := 1) rfl 12 rfl ?_
  refine g_isub X2644 H d20_12 (z := 5) (by decide) 13 rfl ?_
  refine gPrivate X2644 H hZ hown (hw _ wd121) (hw _ wd122) (hw _ wd123) (hw _ wd65) (by decide) q2632 (hw _ wd124) (hw _ wd66) (rm2654_18 B ro0 ro2 _ O q2655 q2641 q2642) e2644 hml rfl pd6 rfl (W := 1) (argsL := [(.int 5)]) (rest := [(.ref ro0)]) rfl rfl d20_13 16 rfl ?_
  intro v2656 T2656 L2656 hq2656 X2656
  obtain ⟨rfl, e2656, rfl⟩ := hq2656
  have N2656 := Fr.app N2643 (Fr.nil _)
  show Go _ _ _ _ (State.setTop _ (mkF _ 16 _ [(.int 4), (.ref ro0)]))
  refine gPutF X2656 H hZ hown (hw _ wd125) Via.refl e2656 q2655 q2632 (Or.inl (hw _ wd126)) (hw _ wd65) (ty := .int) (by decide) (v' := (.int 4)) rfl rfl d20_16 19 rfl ?_
  intro T2657 h2657 X2657 e2657 W2657 F2657
  have O2657 := extW O W2657 q2658
  have N2657 := Fr.snoc X2657 N2656 q2658
  refine gAloadN X2657 H d20_19 rfl rfl 20 rfl ?_
  refine gDup X2657 H d20_20 rfl 21 rfl ?_
  have c2659 := (q2640.other W2657 (Or.inr (sn16 hw)))
  refine gGetF X2657 H hZ hown (hw _ wd98) Via.refl e2657 c2659 d20_21 24 rfl ?_
  intro T2660 X2660 e2660
  refine gIconst X2660 H d20_24 (z := 1) rfl 25 rfl ?_
  refine g_iadd X2660 H d20_25 (z := 5) (by decide) 26 rfl ?_
  have c2662 := (q2632.wr W2657)
  refine gPutF X2660 H hZ hown (hw _ wd98) Via.refl e2660 c2659 c2662 (Or.inl (hw _ wd99)) (hw _ wd65) (ty := .int) (by decide) (v' := (.int 5)) rfl rfl d20_26 29 rfl ?_
  intro T2661 h2661 X2661 e2661 W2661 F2661
  have O2661 := extW O2657 W2661 q2658
  have N2661 := Fr.snoc X2661 N2657 q2658
  refine gAloadN X2661 H d20_29 rfl rfl 30 rfl ?_
  refine gDup X2661 H d20_30 rfl 31 rfl ?_
  have c2664 := ((q2663.other W2657 (Or.inr (sn17 hw))).other W2661 (Or.inr (sn12 hw)))
  refine gGetF X2661 H hZ hown (hw _ wd105) Via.refl e2661 c2664 d20_31 34 rfl ?_
  intro T2665 X2665 e2665
  refine gLconst X2665 H d20_34 (z := 1) rfl 35 rfl ?_
  refine g_lsub X2665 H d20_35 (z := (-2)) (by decide) 36 rfl ?_
  have c2667 := (c2662.wr W2661)
  refine gPutF X2665 H hZ hown (hw _ wd105) Via.refl e2665 c2664 c2667 (Or.inl (hw _ wd106)) (hw _ wd65) (ty := .long) (by decide) (v' := (.long (-2))) rfl rfl d20_36 39 rfl ?_
  intro T2666 h2666 X2666 e2666 W2666 F2666
  have O2666 := extW O2661 W2666 q2658
  have N2666 := Fr.snoc X2666 N2661 q2658
  refine gAloadN X2666 H d20_39 rfl rfl 40 rfl ?_
  refine gIconst X2666 H d20_40 (z := 0) rfl 41 rfl ?_
  refine gAloadN X2666 H d20_41 rfl rfl 42 rfl ?_
  have c2668 := (c2667.wr W2666)
  have c2689 := (((q2641.other W2657 (Or.inr (sn18 hw))).other W2661 (Or.inr (sn9 hw))).other W2666 (Or.inr (sn19 hw)))
  have c2690 := ((F2657.other W2661 (Or.inr (sn15 hw))).other W2666 (Or.inr (sn20 hw)))
  have c2693 := (((q2642.other W2657 q2692).other W2661 q2692).other W2666 q2692)
  have c2695 := (((q2694.other W2657 q2692).other W2661 q2692).other W2666 q2692)
  have c2697 := (((q2696.wr W2657).wr W2661).wr W2666)
  refine gVirt X2666 H hZ hown (hw _ wd144) (hw _ wd145) (hw _ wd147) (hw _ wd146) (by decide) c2668 (hw _ wd148) (hw _ wd66) (rm2688_23 B ro0 ro1 ro2 ck3 ro4 ro5 ro6 ro7 _ O2666 c2689 c2668 c2690 c2693 c2695 c2697 q2698 q2699) e2666 hml rfl pd7 rfl (W := 0) (argsL := [(.int 0), (.ref ro1)]) (rest := []) rfl rfl d20_42 45 rfl ?_
  intro v2700 T2700 L2700 hq2700 X2700
  obtain ⟨rfl, N2700q, K2700, f2700_0⟩ := hq2700
  have O2700 := extK O2666 K2700 (allS q2699 all0)
  have N2700 := Fr.app N2666 N2700q
  show Go _ _ _ _ (State.setTop _ (mkF _ 45 _ []))
  have c2701 := (c2668.keep K2700)
  have c2702 := ((F2661.other W2666 (Or.inr (sn21 hw))).keep K2700 (ninS (Ne.symm q2692) nin0))
  have c2703 := (c2689.keep K2700 (ninS (Ne.symm q2692) nin0))
  have c2704 := (c2690.keep K2700 (ninS (Ne.symm q2692) nin0))
  have c2705 := (F2666.keep K2700 (ninS (Ne.symm q2692) nin0))
  have c2707 := ((((q2706.other W2657 (Or.inr (sn22 hw))).other W2661 (Or.inr (sn8 hw))).other W2666 (Or.inr (sn23 hw))).keep K2700 (ninS (Ne.symm q2692) nin0))
  have K_2708 := (Keep.refl h [ro0, ro2]).wr W2657 (Or.inl (List.mem_of_getElem? (i := 0) rfl))
  have K_2709 := K_2708.wr W2661 (Or.inl (List.mem_of_getElem? (i := 0) rfl))
  have K_2710 := K_2709.wr W2666 (Or.inl (List.mem_of_getElem? (i := 0) rfl))
  have K_2711 := K_2710.trans K2700 (allS (Or.inl (List.mem_of_getElem? (i := 1) rfl)) all0)
  exact gRetV X2700 H hlk hret d20_45 rfl ⟨rfl, N2700, K_2711, c2701, c2702, c2703, c2704, c2705, f2700_0, c2707⟩
theorem rm2734_15 (B : Bg Z a0 wE0 w_cacheI k_wE0 cl_cacheI) (ro0 ro1 : Addr) (ck2 : ClassId) (ro3 ro4 ro5 ro6 : Addr) (h : Heap) (O : Ext Z.heap h) (q2630 : Exa Z h ro0 cs3) (q2691 : ro1 ≠ ro0) (q2713 : Fld Z h ro0 cs3 "size" "I" (.int 4)) (q2715 : Fld Z h ro0 cs3 "buffer" cs2 (.ref ro1)) (q2717 : Arl Z h ro1 (6 : Int32)) (q2719 : Fld Z h ro0 cs3 "head" "I" (.int 5)) (q2721 : Z.heap.size ≤ ro0) (q2722 : Fld Z h ro0 cs3 "firstNumber" "J" (.long (-1))) (q2724 : Arv Z h ro1 ck2 (.object "java/lang/Object") (6 : Int32) [(.ref ro3), (.ref ro4), (.ref ro5), .null, .null, (.ref ro6)] .null) (q2726 : Ovr Z ck2 "java/lang/Object") (q2727 : Z.heap.size ≤ ro1) (q2728 : Fld Z h ro0 cs3 "serial" "I" (.int 1)) :
    Con l Z yM15 method_2_code 2 none ({ frames := 3, cells := 0, slots := 0, locals := 42 } : Room) #[(.ref ro0), (.int 0)] h (fun v h' L => ∃ (b2629_0 : Addr), v = none ∧ Fr Z.heap.size L ∧ Keep h h' [ro0, ro1] ∧ Exa Z h' b2629_0 cs4 ∧ Exa Z h' ro0 cs3 ∧ Fld Z h' ro0 cs3 "size" "I" (.int 5) ∧ Fld Z h' ro0 cs3 "buffer" cs2 (.ref ro1) ∧ Fld Z h' ro0 cs3 "head" "I" (.int 4) ∧ Fld Z h' ro0 cs3 "firstNumber" "J" (.long (-2)) ∧ Arv Z h' ro1 ck2 (.object "java/lang/Object") (6 : Int32) [(.ref ro3), (.ref ro4), (.ref ro5), .null, (.ref b2629_0), (.ref ro6)] .null ∧ Fld Z h' ro0 cs3 "serial" "I" (.int 1)) := by
  have hw := B.1
  refine Con.of (plainFor_of_name pn15) (Ls := #[vR ro0, vI 0]) (fun _ => rfl) ?_
  intro p e s m below meth c T0 X0 H hml hZ hown hnm hret hlk e0
  have N0 := Fr.nil Z.heap.size
  refine gIloadN X0 H d15_0 rfl 1 rfl ?_
  refine gIfY X0 H d15_1 (by decide) (by decide) 12 rfl ?_
  refine gAloadN X0 H d15_12 rfl rfl 13 rfl ?_
  refine gBipush X0 H d15_13 (z := 20) rfl 15 rfl ?_
  refine gStatic X0 H hZ hown (hw _ wd26) (hw _ wd27) (by decide) (hw _ wd29) (hw _ wd28) (rm110_5 B _ O) e0 hml rfl pd5 rfl (W := 1) (argsL := [(.int 20)]) (rest := [(.ref ro0)]) rfl rfl d15_15 18 rfl ?_
  intro v2629 T2629 L2629 hq2629 X2629
  obtain ⟨b2629_0, rfl, N2629q, K2629, f2629_0⟩ := hq2629
  have O2629 := extK O K2629 all0
  have N2629 := Fr.app N0 N2629q
  show Go _ _ _ _ (State.setTop _ (mkF _ 18 _ [(.ref b2629_0), (.ref ro0)]))
  have c2631 := (q2630.keep K2629)
  have c2714 := (q2713.keep K2629 nin0)
  have c2716 := (q2715.keep K2629 nin0)
  have c2718 := (q2717.keep K2629 nin0)
  have c2720 := (q2719.keep K2629 nin0)
  have c2723 := (q2722.keep K2629 nin0)
  have c2725 := (q2724.keep K2629 nin0)
  have c2729 := (q2728.keep K2629 nin0)
  refine gVirt X2629 H hZ hown (hw _ wd130) (hw _ wd131) (hw _ wd133) (hw _ wd132) (by decide) c2631 (hw _ wd134) (hw _ wd66) (rm2712_20 B ro0 b2629_0 ro1 ck2 ro3 ro4 ro5 ro6 _ O2629 c2631 c2714 c2716 c2718 c2720 q2721 c2723 q2691 c2725 f2629_0 q2726 q2727 c2729) rfl hml rfl pd8 rfl (W := 0) (argsL := [(.ref b2629_0)]) (rest := []) rfl rfl d15_18 21 rfl ?_
  intro v2730 T2730 L2730 hq2730 X2730
  obtain ⟨rfl, N2730q, K2730, f2730_0, f2730_1, f2730_2, f2730_3, f2730_4, f2730_5, f2730_6⟩ := hq2730
  have O2730 := extK O2629 K2730 (allS q2721 (allS q2727 all0))
  have N2730 := Fr.app N2629 N2730q
  show Go _ _ _ _ (State.setTop _ (mkF _ 21 _ []))
  have c2731 := (f2629_0.keep K2730)
  have K_2732 := (Keep.refl h [ro0, ro1]).trans K2629 all0
  have K_2733 := K_2732.trans K2730 (allS (Or.inl (List.mem_of_getElem? (i := 0) rfl)) (allS (Or.inl (List.mem_of_getElem? (i := 1) rfl)) all0))
  exact gRetV X2730 H hlk hret d15_21 rfl ⟨b2629_0, rfl, N2730, K_2733, c2731, f2730_0, f2730_1, f2730_2, f2730_3, f2730_4, f2730_5, f2730_6⟩
theorem rm2747_21 (B : Bg Z a0 wE0 w_cacheI k_wE0 cl_cacheI) (ro0 ro1 : Addr) (h : Heap) (O : Ext Z.heap h) (q2741 : Fld Z h ro0 cs3 "size" "I" (.int 5)) (q2743 : Fld Z h ro0 cs3 "buffer" cs2 (.ref ro1)) (q2746 : Arl Z h ro1 (6 : Int32)) :
    Con l Z yM21 prog_50_method_13_code 4 none ({ frames := 0, cells := 0, slots := 0, locals := 0 } : Room) #[(.ref ro0)] h (fun v h' L => v = none ∧ h' = h ∧ L = []) := by
  have hw := B.1
  refine Con.of (plainFor_of_name pn21) (Ls := #[vR ro0, .unset, .unset, .unset]) (fun _ => rfl) ?_
  intro p e s m below meth c T0 X0 H hml hZ hown hnm hret hlk e0
  refine gAloadN X0 H d21_0 rfl rfl 1 rfl ?_
  refine gGetF X0 H hZ hown (hw _ wd98) Via.refl e0 q2741 d21_1 4 rfl ?_
  intro T2742 X2742 e2742
  refine gAloadN X2742 H d21_4 rfl rfl 5 rfl ?_
  refine gGetF X2742 H hZ hown (hw _ wd96) Via.refl e2742 q2743 d21_5 8 rfl ?_
  intro T2744 X2744 e2744
  refine gLen X2744 H hZ e2744 q2746 d21_8 9 rfl ?_
  refine gCmpN X2744 H d21_9 (by decide) 12 rfl ?_
  exact gRetV X2744 H hlk hret d21_12 e2744 ⟨rfl, rfl, rfl⟩
theorem rm2762_18 (B : Bg Z a0 wE0 w_cacheI k_wE0 cl_cacheI) (ro0 ro1 : Addr) (h : Heap) (O : Ext Z.heap h) (q2754 : Fld Z h ro0 cs3 "head" "I" (.int 4)) (q2756 : Fld Z h ro0 cs3 "buffer" cs2 (.ref ro1)) (q2759 : Arl Z h ro1 (6 : Int32)) :
    Con l Z yM18 prog_50_method_12_code 3 (some .int) ({ frames := 0, cells := 0, slots := 0, locals := 0 } : Room) #[(.ref ro0), (.int 5)] h (fun v h' L => v = some (.int 3) ∧ h' = h ∧ L = []) := by
  have hw := B.1
  refine Con.of (plainFor_of_name pn18) (Ls := #[vR ro0, vI 5, .unset]) (fun _ => rfl) ?_
  intro p e s m below meth c T0 X0 H hml hZ hown hnm hret hlk e0
  refine gAloadN X0 H d18_0 rfl rfl 1 rfl ?_
  refine gGetF X0 H hZ hown (hw _ wd125) Via.refl e0 q2754 d18_1 4 rfl ?_
  intro T2755 X2755 e2755
  refine gIloadN X2755 H d18_4 rfl 5 rfl ?_
  refine g_iadd X2755 H d18_5 (z := 9) (by decide) 6 rfl ?_
  refine gIstoreN X2755 H d18_6 (Ls' := #[vR ro0, vI 5, vI 9]) rfl 7 rfl ?_
  refine gIloadN X2755 H d18_7 rfl 8 rfl ?_
  refine gAloadN X2755 H d18_8 rfl rfl 9 rfl ?_
  refine gGetF X2755 H hZ hown (hw _ wd96) Via.refl e2755 q2756 d18_9 12 rfl ?_
  intro T2757 X2757 e2757
  refine gLen X2757 H hZ e2757 q2759 d18_12 13 rfl ?_
  refine gCmpY X2757 H d18_13 (by decide) (by decide) 20 rfl ?_
  refine gIloadN X2757 H d18_20 rfl 21 rfl ?_
  refine gAloadN X2757 H d18_21 rfl rfl 22 rfl ?_
  refine gGetF X2757 H hZ hown (hw _ wd96) Via.refl e2757 q2756 d18_22 25 rfl ?_
  intro T2760 X2760 e2760
  refine gLen X2760 H hZ e2760 q2759 d18_25 26 rfl ?_
  refine g_isub X2760 H d18_26 (z := 3) (by decide) 27 rfl ?_
  exact gRetI X2760 H hlk hret d18_27 e2760 ⟨rfl, rfl, rfl⟩
theorem rm2786_18 (B : Bg Z a0 wE0 w_cacheI k_wE0 cl_cacheI) (ro0 ro1 : Addr) (h : Heap) (O : Ext Z.heap h) (q2780 : Fld Z h ro0 cs3 "head" "I" (.int 3)) (q2782 : Fld Z h ro0 cs3 "buffer" cs2 (.ref ro1)) (q2785 : Arl Z h ro1 (6 : Int32)) :
    Con l Z yM18 prog_50_method_12_code 3 (some .int) ({ frames := 0, cells := 0, slots := 0, locals := 0 } : Room) #[(.ref ro0), (.int 0)] h (fun v h' L => v = some (.int 3) ∧ h' = h ∧ L = []) := by
  have hw := B.1
  refine Con.of (plainFor_of_name pn18) (Ls := #[vR ro0, vI 0, .unset]) (fun _ => rfl) ?_
  intro p e s m below meth c T0 X0 H hml hZ hown hnm hret hlk e0
  refine gAloadN X0 H d18_0 rfl rfl 1 rfl ?_
  refine gGetF X0 H hZ hown (hw _ wd125) Via.refl e0 q2780 d18_1 4 rfl ?_
  intro T2781 X2781 e2781
  refine gIloadN X2781 H d18_4 rfl 5 rfl ?_
  refine g_iadd X2781 H d18_5 (z := 3) (by decide) 6 rfl ?_
  refine gIstoreN X2781 H d18_6 (Ls' := #[vR ro0, vI 0, vI 3]) rfl 7 rfl ?_
  refine gIloadN X2781 H d18_7 rfl 8 rfl ?_
  refine gAloadN X2781 H d18_8 rfl rfl 9 rfl ?_
  refine gGetF X2781 H hZ hown (hw _ wd96) Via.refl e2781 q2782 d18_9 12 rfl ?_
  intro T2783 X2783 e2783
  refine gLen X2783 H hZ e2783 q2785 d18_12 13 rfl ?_
  refine gCmpN X2783 H d18_13 (by decide) 16 rfl ?_
  refine gIloadN X2783 H d18_16 rfl 17 rfl ?_
  refine gGoto X2783 H d18_17 (by decide) 27 rfl ?_
  exact gRetI X2783 H hlk hret d18_27 e2783 ⟨rfl, rfl, rfl⟩
theorem rm2796_23 (B : Bg Z a0 wE0 w_cacheI k_wE0 cl_cacheI) (ro0 ro1 ro2 : Addr) (ck3 : ClassId) (ro4 ro5 ro6 ro7 ro8 : Addr) (h : Heap) (O : Ext Z.heap h) (q2777 : Fld Z h ro0 cs3 "buffer" cs2 (.ref ro2)) (q2779 : Exa Z h ro0 cs3) (q2787 : Fld Z h ro0 cs3 "head" "I" (.int 3)) (q2788 : Arl Z h ro2 (6 : Int32)) (q2791 : Arv Z h ro2 ck3 (.object "java/lang/Object") (6 : Int32) [(.ref ro4), (.ref ro5), (.ref ro6), .null, (.ref ro7), (.ref ro8)] .null) (q2792 : Exa Z h ro1 cs4) (q2793 : Ovr Z ck3 "java/lang/Object") (q2794 : Z.heap.size ≤ ro2) :
    Con l Z yM23 prog_50_method_5_code 3 none ({ frames := 1, cells := 0, slots := 0, locals := 15 } : Room) #[(.ref ro0), (.int 0), (.ref ro1)] h (fun v h' L => v = none ∧ Fr Z.heap.size L ∧ Keep h h' [ro2] ∧ Arv Z h' ro2 ck3 (.object "java/lang/Object") (6 : Int32) [(.ref ro4), (.ref ro5), (.ref ro6), (.ref ro1), (.ref ro7), (.ref ro8)] .null) := by
  have hw := B.1
  refine Con.of (plainFor_of_name pn23) (Ls := #[vR ro0, vI 0, vR ro1]) (fun _ => rfl) ?_
  intro p e s m below meth c T0 X0 H hml hZ hown hnm hret hlk e0
  have N0 := Fr.nil Z.heap.size
  refine gAloadN X0 H d23_0 rfl rfl 1 rfl ?_
  refine gGetF X0 H hZ hown (hw _ wd96) Via.refl e0 q2777 d23_1 4 rfl ?_
  intro T2778 X2778 e2778
  refine gAloadN X2778 H d23_4 rfl rfl 5 rfl ?_
  refine gIloadN X2778 H d23_5 rfl 6 rfl ?_
  refine gPrivate X2778 H hZ hown (hw _ wd121) (hw _ wd122) (hw _ wd123) (hw _ wd65) (by decide) q2779 (hw _ wd124) (hw _ wd66) (rm2786_18 B ro0 ro2 _ O q2787 q2777 q2788) e2778 hml rfl pd6 rfl (W := 1) (argsL := [(.int 0)]) (rest := [(.ref ro2)]) rfl rfl d23_6 9 rfl ?_
  intro v2789 T2789 L2789 hq2789 X2789
  obtain ⟨rfl, e2789, rfl⟩ := hq2789
  have N2789 := Fr.app N0 (Fr.nil _)
  show Go _ _ _ _ (State.setTop _ (mkF _ 9 _ [(.int 3), (.ref ro2)]))
  refine gAloadN X2789 H d23_9 rfl rfl 10 rfl ?_
  refine gAastore X2789 H hZ e2789 rfl (stoV q2791 q2793 (Ins.of_exa q2792 (hw _ wd63))) q2791 ⟨by decide, by decide⟩ (i := 3) rfl (Nat.le_of_ble_eq_true rfl) (vs' := [(.ref ro4), (.ref ro5), (.ref ro6), (.ref ro1), (.ref ro7), (.ref ro8)]) rfl d23_10 11 rfl ?_
  intro T2790 h2790 X2790 e2790 W2790 V2790
  have O2790 := extW O W2790 q2794
  have N2790 := Fr.snoc X2790 N2789 q2794
  have K_2795 := (Keep.refl h [ro2]).wr W2790 (Or.inl (List.mem_of_getElem? (i := 0) rfl))
  exact gRetV X2790 H hlk hret d23_11 e2790 ⟨rfl, N2790, K_2795, V2790⟩
theorem rm2820_20 (B : Bg Z a0 wE0 w_cacheI k_wE0 cl_cacheI) (ro0 ro1 ro2 : Addr) (ck3 : ClassId) (ro4 ro5 ro6 ro7 ro8 : Addr) (h : Heap) (O : Ext Z.heap h) (q2740 : Exa Z h ro0 cs3) (q2748 : Fld Z h ro0 cs3 "size" "I" (.int 5)) (q2749 : Fld Z h ro0 cs3 "buffer" cs2 (.ref ro2)) (q2750 : Arl Z h ro2 (6 : Int32)) (q2763 : Fld Z h ro0 cs3 "head" "I" (.int 4)) (q2766 : Z.heap.size ≤ ro0) (q2771 : Fld Z h ro0 cs3 "firstNumber" "J" (.long (-2))) (q2800 : ro2 ≠ ro0) (q2802 : Arv Z h ro2 ck3 (.object "java/lang/Object") (6 : Int32) [(.ref ro4), (.ref ro5), (.ref ro6), .null, (.ref ro7), (.ref ro8)] .null) (q2804 : Exa Z h ro1 cs4) (q2806 : Ovr Z ck3 "java/lang/Object") (q2807 : Z.heap.size ≤ ro2) (q2814 : Fld Z h ro0 cs3 "serial" "I" (.int 1)) :
    Con l Z yM20 prog_50_method_9_code 2 none ({ frames := 2, cells := 0, slots := 0, locals := 29 } : Room) #[(.ref ro0), (.ref ro1)] h (fun v h' L => v = none ∧ Fr Z.heap.size L ∧ Keep h h' [ro0, ro2] ∧ Exa Z h' ro0 cs3 ∧ Fld Z h' ro0 cs3 "size" "I" (.int 6) ∧ Fld Z h' ro0 cs3 "buffer" cs2 (.ref ro2) ∧ Fld Z h' ro0 cs3 "head" "I" (.int 3) ∧ Fld Z h' ro0 cs3 "firstNumber" "J" (.long (-3)) ∧ Arv Z h' ro2 ck3 (.object "java/lang/Object") (6 : Int32) [(.ref ro4), (.ref ro5), (.ref ro6), (.ref ro1), (.ref ro7), (.ref ro8)] .null ∧ Fld Z h' ro0 cs3 "serial" "I" (.int 1)) := by
  have hw := B.1
  refine Con.of (plainFor_of_name pn20) (Ls := #[vR ro0, vR ro1]) (fun _ => rfl) ?_
  intro p e s m below meth c T0 X0 H hml hZ hown hnm hret hlk e0
  have N0 := Fr.nil Z.heap.size
  refine gAloadN X0 H d20_0 rfl rfl 1 rfl ?_
  refine gPrivate X0 H hZ hown (hw _ wd135) (hw _ wd136) (hw _ wd137) (hw _ wd65) (by decide) q2740 (hw _ wd138) (hw _ wd66) (rm2747_21 B ro0 ro2 _ O q2748 q2749 q2750) e0 hml rfl pd0 rfl (W := 0) (argsL := []) (rest := []) rfl rfl d20_1 4 rfl ?_
  intro v2751 T2751 L2751 hq2751 X2751
  obtain ⟨rfl, e2751, rfl⟩ := hq2751
  have N2751 := Fr.app N0 (Fr.nil _)
  show Go _ _ _ _ (State.setTop _ (mkF _ 4 _ []))
  refine gAloadN X2751 H d20_4 rfl rfl 5 rfl ?_
  refine gAloadN X2751 H d20_5 rfl rfl 6 rfl ?_
  refine gAloadN X2751 H d20_6 rfl rfl 7 rfl ?_
  refine gGetF X2751 H hZ hown (hw _ wd96) Via.refl e2751 q2749 d20_7 10 rfl ?_
  intro T2752 X2752 e2752
  refine gLen X2752 H hZ e2752 q2750 d20_10 11 rfl ?_
  refine gIconst X2752 H d20_11 (z := 1) rfl 12 rfl ?_
  refine g_isub X2752 H d20_12 (z := 5) (by decide) 13 rfl ?_
  refine gPrivate X2752 H hZ hown (hw _ wd121) (hw _ wd122) (hw _ wd123) (hw _ wd65) (by decide) q2740 (hw _ wd124) (hw _ wd66) (rm2762_18 B ro0 ro2 _ O q2763 q2749 q2750) e2752 hml rfl pd6 rfl (W := 1) (argsL := [(.int 5)]) (rest := [(.ref ro0)]) rfl rfl d20_13 16 rfl ?_
  intro v2764 T2764 L2764 hq2764 X2764
  obtain ⟨rfl, e2764, rfl⟩ := hq2764
  have N2764 := Fr.app N2751 (Fr.nil _)
  show Go _ _ _ _ (State.setTop _ (mkF _ 16 _ [(.int 3), (.ref ro0)]))
  refine gPutF X2764 H hZ hown (hw _ wd125) Via.refl e2764 q2763 q2740 (Or.inl (hw _ wd126)) (hw _ wd65) (ty := .int) (by decide) (v' := (.int 3)) rfl rfl d20_16 19 rfl ?_
  intro T2765 h2765 X2765 e2765 W2765 F2765
  have O2765 := extW O W2765 q2766
  have N2765 := Fr.snoc X2765 N2764 q2766
  refine gAloadN X2765 H d20_19 rfl rfl 20 rfl ?_
  refine gDup X2765 H d20_20 rfl 21 rfl ?_
  have c2767 := (q2748.other W2765 (Or.inr (sn16 hw)))
  refine gGetF X2765 H hZ hown (hw _ wd98) Via.refl e2765 c2767 d20_21 24 rfl ?_
  intro T2768 X2768 e2768
  refine gIconst X2768 H d20_24 (z := 1) rfl 25 rfl ?_
  refine g_iadd X2768 H d20_25 (z := 6) (by decide) 26 rfl ?_
  have c2770 := (q2740.wr W2765)
  refine gPutF X2768 H hZ hown (hw _ wd98) Via.refl e2768 c2767 c2770 (Or.inl (hw _ wd99)) (hw _ wd65) (ty := .int) (by decide) (v' := (.int 6)) rfl rfl d20_26 29 rfl ?_
  intro T2769 h2769 X2769 e2769 W2769 F2769
  have O2769 := extW O2765 W2769 q2766
  have N2769 := Fr.snoc X2769 N2765 q2766
  refine gAloadN X2769 H d20_29 rfl rfl 30 rfl ?_
  refine gDup X2769 H d20_30 rfl 31 rfl ?_
  have c2772 := ((q2771.other W2765 (Or.inr (sn17 hw))).other W2769 (Or.inr (sn12 hw)))
  refine gGetF X2769 H hZ hown (hw _ wd105) Via.refl e2769 c2772 d20_31 34 rfl ?_
  intro T2773 X2773 e2773
  refine gLconst X2773 H d20_34 (z := 1) rfl 35 rfl ?_
  refine g_lsub X2773 H d20_35 (z := (-3)) (by decide) 36 rfl ?_
  have c2775 := (c2770.wr W2769)
  refine gPutF X2773 H hZ hown (hw _ wd105) Via.refl e2773 c2772 c2775 (Or.inl (hw _ wd106)) (hw _ wd65) (ty := .long) (by decide) (v' := (.long (-3))) rfl rfl d20_36 39 rfl ?_
  intro T2774 h2774 X2774 e2774 W2774 F2774
  have O2774 := extW O2769 W2774 q2766
  have N2774 := Fr.snoc X2774 N2769 q2766
  refine gAloadN X2774 H d20_39 rfl rfl 40 rfl ?_
  refine gIconst X2774 H d20_40 (z := 0) rfl 41 rfl ?_
  refine gAloadN X2774 H d20_41 rfl rfl 42 rfl ?_
  have c2776 := (c2775.wr W2774)
  have c2797 := (((q2749.other W2765 (Or.inr (sn18 hw))).other W2769 (Or.inr (sn9 hw))).other W2774 (Or.inr (sn19 hw)))
  have c2798 := ((F2765.other W2769 (Or.inr (sn15 hw))).other W2774 (Or.inr (sn20 hw)))
  have c2801 := (((q2750.other W2765 q2800).other W2769 q2800).other W2774 q2800)
  have c2803 := (((q2802.other W2765 q2800).other W2769 q2800).other W2774 q2800)
  have c2805 := (((q2804.wr W2765).wr W2769).wr W2774)
  refine gVirt X2774 H hZ hown (hw _ wd144) (hw _ wd145) (hw _ wd147) (hw _ wd146) (by decide) c2776 (hw _ wd148) (hw _ wd66) (rm2796_23 B ro0 ro1 ro2 ck3 ro4 ro5 ro6 ro7 ro8 _ O2774 c2797 c2776 c2798 c2801 c2803 c2805 q2806 q2807) e2774 hml rfl pd7 rfl (W := 0) (argsL := [(.int 0), (.ref ro1)]) (rest := []) rfl rfl d20_42 45 rfl ?_
  intro v2808 T2808 L2808 hq2808 X2808
  obtain ⟨rfl, N2808q, K2808, f2808_0⟩ := hq2808
  have O2808 := extK O2774 K2808 (allS q2807 all0)
  have N2808 := Fr.app N2774 N2808q
  show Go _ _ _ _ (State.setTop _ (mkF _ 45 _ []))
  have c2809 := (c2776.keep K2808)
  have c2810 := ((F2769.other W2774 (Or.inr (sn21 hw))).keep K2808 (ninS (Ne.symm q2800) nin0))
  have c2811 := (c2797.keep K2808 (ninS (Ne.symm q2800) nin0))
  have c2812 := (c2798.keep K2808 (ninS (Ne.symm q2800) nin0))
  have c2813 := (F2774.keep K2808 (ninS (Ne.symm q2800) nin0))
  have c2815 := ((((q2814.other W2765 (Or.inr (sn22 hw))).other W2769 (Or.inr (sn8 hw))).other W2774 (Or.inr (sn23 hw))).keep K2808 (ninS (Ne.symm q2800) nin0))
  have K_2816 := (Keep.refl h [ro0, ro2]).wr W2765 (Or.inl (List.mem_of_getElem? (i := 0) rfl))
  have K_2817 := K_2816.wr W2769 (Or.inl (List.mem_of_getElem? (i := 0) rfl))
  have K_2818 := K_2817.wr W2774 (Or.inl (List.mem_of_getElem? (i := 0) rfl))
  have K_2819 := K_2818.trans K2808 (allS (Or.inl (List.mem_of_getElem? (i := 1) rfl)) all0)
  exact gRetV X2808 H hlk hret d20_45 rfl ⟨rfl, N2808, K_2819, c2809, c2810, c2811, c2812, c2813, f2808_0, c2815⟩
theorem rm2842_15 (B : Bg Z a0 wE0 w_cacheI k_wE0 cl_cacheI) (ro0 ro1 : Addr) (ck2 : ClassId) (ro3 ro4 ro5 ro6 ro7 : Addr) (h : Heap) (O : Ext Z.heap h) (q2738 : Exa Z h ro0 cs3) (q2799 : ro1 ≠ ro0) (q2821 : Fld Z h ro0 cs3 "size" "I" (.int 5)) (q2823 : Fld Z h ro0 cs3 "buffer" cs2 (.ref ro1)) (q2825 : Arl Z h ro1 (6 : Int32)) (q2827 : Fld Z h ro0 cs3 "head" "I" (.int 4)) (q2829 : Z.heap.size ≤ ro0) (q2830 : Fld Z h ro0 cs3 "firstNumber" "J" (.long (-2))) (q2832 : Arv Z h ro1 ck2 (.object "java/lang/Object") (6 : Int32) [(.ref ro3), (.ref ro4), (.ref ro5), .null, (.ref ro6), (.ref ro7)] .null) (q2834 : Ovr Z ck2 "java/lang/Object") (q2835 : Z.heap.size ≤ ro1) (q2836 : Fld Z h ro0 cs3 "serial" "I" (.int 1)) :
    Con l Z yM15 method_2_code 2 none ({ frames := 3, cells := 0, slots := 0, locals := 42 } : Room) #[(.ref ro0), (.int 0)] h (fun v h' L => ∃ (b2737_0 : Addr), v = none ∧ Fr Z.heap.size L ∧ Keep h h' [ro0, ro1] ∧ Exa Z h' b2737_0 cs4 ∧ Exa Z h' ro0 cs3 ∧ Fld Z h' ro0 cs3 "size" "I" (.int 6) ∧ Fld Z h' ro0 cs3 "buffer" cs2 (.ref ro1) ∧ Fld Z h' ro0 cs3 "head" "I" (.int 3) ∧ Fld Z h' ro0 cs3 "firstNumber" "J" (.long (-3)) ∧ Arv Z h' ro1 ck2 (.object "java/lang/Object") (6 : Int32) [(.ref ro3), (.ref ro4), (.ref ro5), (.ref b2737_0), (.ref ro6), (.ref ro7)] .null ∧ Fld Z h' ro0 cs3 "serial" "I" (.int 1)) := by
  have hw := B.1
  refine Con.of (plainFor_of_name pn15) (Ls := #[vR ro0, vI 0]) (fun _ => rfl) ?_
  intro p e s m below meth c T0 X0 H hml hZ hown hnm hret hlk e0
  have N0 := Fr.nil Z.heap.size
  refine gIloadN X0 H d15_0 rfl 1 rfl ?_
  refine gIfY X0 H d15_1 (by decide) (by decide) 12 rfl ?_
  refine gAloadN X0 H d15_12 rfl rfl 13 rfl ?_
  refine gBipush X0 H d15_13 (z := 20) rfl 15 rfl ?_
  refine gStatic X0 H hZ hown (hw _ wd26) (hw _ wd27) (by decide) (hw _ wd29) (hw _ wd28) (rm110_5 B _ O) e0 hml rfl pd5 rfl (W := 1) (argsL := [(.int 20)]) (rest := [(.ref ro0)]) rfl rfl d15_15 18 rfl ?_
  intro v2737 T2737 L2737 hq2737 X2737
  obtain ⟨b2737_0, rfl, N2737q, K2737, f2737_0⟩ := hq2737
  have O2737 := extK O K2737 all0
  have N2737 := Fr.app N0 N2737q
  show Go _ _ _ _ (State.setTop _ (mkF _ 18 _ [(.ref b2737_0), (.ref ro0)]))
  have c2739 := (q2738.keep K2737)
  have c2822 := (q2821.keep K2737 nin0)
  have c2824 := (q2823.keep K2737 nin0)
  have c2826 := (q2825.keep K2737 nin0)
  have c2828 := (q2827.keep K2737 nin0)
  have c2831 := (q2830.keep K2737 nin0)
  have c2833 := (q2832.keep K2737 nin0)
  have c2837 := (q2836.keep K2737 nin0)
  refine gVirt X2737 H hZ hown (hw _ wd130) (hw _ wd131) (hw _ wd133) (hw _ wd132) (by decide) c2739 (hw _ wd134) (hw _ wd66) (rm2820_20 B ro0 b2737_0 ro1 ck2 ro3 ro4 ro5 ro6 ro7 _ O2737 c2739 c2822 c2824 c2826 c2828 q2829 c2831 q2799 c2833 f2737_0 q2834 q2835 c2837) rfl hml rfl pd8 rfl (W := 0) (argsL := [(.ref b2737_0)]) (rest := []) rfl rfl d15_18 21 rfl ?_
  intro v2838 T2838 L2838 hq2838 X2838
  obtain ⟨rfl, N2838q, K2838, f2838_0, f2838_1, f2838_2, f2838_3, f2838_4, f2838_5, f2838_6⟩ := hq2838
  have O2838 := extK O2737 K2838 (allS q2829 (allS q2835 all0))
  have N2838 := Fr.app N2737 N2838q
  show Go _ _ _ _ (State.setTop _ (mkF _ 21 _ []))
  have c2839 := (f2737_0.keep K2838)
  have K_2840 := (Keep.refl h [ro0, ro1]).trans K2737 all0
  have K_2841 := K_2840.trans K2838 (allS (Or.inl (List.mem_of_getElem? (i := 0) rfl)) (allS (Or.inl (List.mem_of_getElem? (i := 1) rfl)) all0))
  exact gRetV X2838 H hlk hret d15_21 rfl ⟨b2737_0, rfl, N2838, K_2841, c2839, f2838_0, f2838_1, f2838_2, f2838_3, f2838_4, f2838_5, f2838_6⟩
theorem rm2856_14 (B : Bg Z a0 wE0 w_cacheI k_wE0 cl_cacheI) (ro0 : Addr) (vj1 vj2 : Int64) (h : Heap) (O : Ext Z.heap h) (q2851 : Fld Z h ro0 cs3 "firstNumber" "J" (.long vj2)) (q2854 : Fld Z h ro0 cs3 "size" "I" (.int 6)) (hk2853 : (vj1 - vj2) = (0 : Int64)) :
    Con l Z yM14 prog_50_method_7_code 5 (some .int) ({ frames := 0, cells := 0, slots := 0, locals := 0 } : Room) #[(.ref ro0), (.long vj1)] h (fun v h' L => v = some (.int 0) ∧ h' = h ∧ L = []) := by
  have hw := B.1
  refine Con.of (plainFor_of_name pn14) (Ls := #[vR ro0, vJ vj1, .second, .unset, .unset]) (fun _ => by first | (simp [entryFrame, mkF, argsToLocals, Value.category, maxLocals]; done) | rfl) ?_
  intro p e s m below meth c T0 X0 H hml hZ hown hnm hret hlk e0
  refine gLloadN X0 H d14_0 rfl 1 rfl ?_
  refine gAloadN X0 H d14_1 rfl rfl 2 rfl ?_
  refine gGetF X0 H hZ hown (hw _ wd105) Via.refl e0 q2851 d14_2 5 rfl ?_
  intro T2852 X2852 e2852
  refine g_lsub X2852 H d14_5 (z := 0) hk2853 6 rfl ?_
  refine gLstoreN X2852 H d14_6 (Ls' := #[vR ro0, vJ vj1, .second, vJ 0, .second]) rfl 7 rfl ?_
  refine gLloadN X2852 H d14_7 rfl 8 rfl ?_
  refine gLconst X2852 H d14_8 (z := 0) rfl 9 rfl ?_
  refine g_lcmp X2852 H d14_9 (z := (lcmpW (0 : Int64) (0 : Int64))) rfl 10 rfl ?_
  refine gIfN X2852 H d14_10 (by decide) 13 rfl ?_
  refine gLloadN X2852 H d14_13 rfl 14 rfl ?_
  refine gAloadN X2852 H d14_14 rfl rfl 15 rfl ?_
  refine gGetF X2852 H hZ hown (hw _ wd98) Via.refl e2852 q2854 d14_15 18 rfl ?_
  intro T2855 X2855 e2855
  refine g_i2l X2855 H d14_18 (z := 6) (by decide) 19 rfl ?_
  refine g_lcmp X2855 H d14_19 (z := (lcmpW (0 : Int64) (6 : Int64))) rfl 20 rfl ?_
  refine gIfN X2855 H d14_20 (by decide) 23 rfl ?_
  refine gLloadN X2855 H d14_23 rfl 24 rfl ?_
  refine g_l2i X2855 H d14_24 (z := 0) (by decide) 25 rfl ?_
  refine gGoto X2855 H d14_25 (by decide) 29 rfl ?_
  exact gRetI X2855 H hlk hret d14_29 e2855 ⟨rfl, rfl, rfl⟩
theorem rm2866_14 (B : Bg Z a0 wE0 w_cacheI k_wE0 cl_cacheI) (ro0 : Addr) (vj1 vj2 : Int64) (h : Heap) (O : Ext Z.heap h) (q2861 : Fld Z h ro0 cs3 "firstNumber" "J" (.long vj2)) (q2864 : Fld Z h ro0 cs3 "size" "I" (.int 6)) (hk2863 : (vj1 - vj2) = (1 : Int64)) :
    Con l Z yM14 prog_50_method_7_code 5 (some .int) ({ frames := 0, cells := 0, slots := 0, locals := 0 } : Room) #[(.ref ro0), (.long vj1)] h (fun v h' L => v = some (.int 1) ∧ h' = h ∧ L = []) := by
  have hw := B.1
  refine Con.of (plainFor_of_name pn14) (Ls := #[vR ro0, vJ vj1, .second, .unset, .unset]) (fun _ => by first | (simp [entryFrame, mkF, argsToLocals, Value.category, maxLocals]; done) | rfl) ?_
  intro p e s m below meth c T0 X0 H hml hZ hown hnm hret hlk e0
  refine gLloadN X0 H d14_0 rfl 1 rfl ?_
  refine gAloadN X0 H d14_1 rfl rfl 2 rfl ?_
  refine gGetF X0 H hZ hown (hw _ wd105) Via.refl e0 q2861 d14_2 5 rfl ?_
  intro T2862 X2862 e2862
  refine g_lsub X2862 H d14_5 (z := 1) hk2863 6 rfl ?_
  refine gLstoreN X2862 H d14_6 (Ls' := #[vR ro0, vJ vj1, .second, vJ 1, .second]) rfl 7 rfl ?_
  refine gLloadN X2862 H d14_7 rfl 8 rfl ?_
  refine gLconst X2862 H d14_8 (z := 0) rfl 9 rfl ?_
  refine g_lcmp X2862 H d14_9 (z := (lcmpW (1 : Int64) (0 : Int64))) rfl 10 rfl ?_
  refine gIfN X2862 H d14_10 (by decide) 13 rfl ?_
  refine gLloadN X2862 H d14_13 rfl 14 rfl ?_
  refine gAloadN X2862 H d14_14 rfl rfl 15 rfl ?_
  refine gGetF X2862 H hZ hown (hw _ wd98) Via.refl e2862 q2864 d14_15 18 rfl ?_
  intro T2865 X2865 e2865
  refine g_i2l X2865 H d14_18 (z := 6) (by decide) 19 rfl ?_
  refine g_lcmp X2865 H d14_19 (z := (lcmpW (1 : Int64) (6 : Int64))) rfl 20 rfl ?_
  refine gIfN X2865 H d14_20 (by decide) 23 rfl ?_
  refine gLloadN X2865 H d14_23 rfl 24 rfl ?_
  refine g_l2i X2865 H d14_24 (z := 1) (by decide) 25 rfl ?_
  refine gGoto X2865 H d14_25 (by decide) 29 rfl ?_
  exact gRetI X2865 H hlk hret d14_29 e2865 ⟨rfl, rfl, rfl⟩
theorem rm2876_14 (B : Bg Z a0 wE0 w_cacheI k_wE0 cl_cacheI) (ro0 : Addr) (vj1 vj2 : Int64) (h : Heap) (O : Ext Z.heap h) (q2871 : Fld Z h ro0 cs3 "firstNumber" "J" (.long vj2)) (q2874 : Fld Z h ro0 cs3 "size" "I" (.int 6)) (hk2873 : (vj1 - vj2) = (2 : Int64)) :
    Con l Z yM14 prog_50_method_7_code 5 (some .int) ({ frames := 0, cells := 0, slots := 0, locals := 0 } : Room) #[(.ref ro0), (.long vj1)] h (fun v h' L => v = some (.int 2) ∧ h' = h ∧ L = []) := by
  have hw := B.1
  refine Con.of (plainFor_of_name pn14) (Ls := #[vR ro0, vJ vj1, .second, .unset, .unset]) (fun _ => by first | (simp [entryFrame, mkF, argsToLocals, Value.category, maxLocals]; done) | rfl) ?_
  intro p e s m below meth c T0 X0 H hml hZ hown hnm hret hlk e0
  refine gLloadN X0 H d14_0 rfl 1 rfl ?_
  refine gAloadN X0 H d14_1 rfl rfl 2 rfl ?_
  refine gGetF X0 H hZ hown (hw _ wd105) Via.refl e0 q2871 d14_2 5 rfl ?_
  intro T2872 X2872 e2872
  refine g_lsub X2872 H d14_5 (z := 2) hk2873 6 rfl ?_
  refine gLstoreN X2872 H d14_6 (Ls' := #[vR ro0, vJ vj1, .second, vJ 2, .second]) rfl 7 rfl ?_
  refine gLloadN X2872 H d14_7 rfl 8 rfl ?_
  refine gLconst X2872 H d14_8 (z := 0) rfl 9 rfl ?_
  refine g_lcmp X2872 H d14_9 (z := (lcmpW (2 : Int64) (0 : Int64))) rfl 10 rfl ?_
  refine gIfN X2872 H d14_10 (by decide) 13 rfl ?_
  refine gLloadN X2872 H d14_13 rfl 14 rfl ?_
  refine gAloadN X2872 H d14_14 rfl rfl 15 rfl ?_
  refine gGetF X2872 H hZ hown (hw _ wd98) Via.refl e2872 q2874 d14_15 18 rfl ?_
  intro T2875 X2875 e2875
  refine g_i2l X2875 H d14_18 (z := 6) (by decide) 19 rfl ?_
  refine g_lcmp X2875 H d14_19 (z := (lcmpW (2 : Int64) (6 : Int64))) rfl 20 rfl ?_
  refine gIfN X2875 H d14_20 (by decide) 23 rfl ?_
  refine gLloadN X2875 H d14_23 rfl 24 rfl ?_
  refine g_l2i X2875 H d14_24 (z := 2) (by decide) 25 rfl ?_
  refine gGoto X2875 H d14_25 (by decide) 29 rfl ?_
  exact gRetI X2875 H hlk hret d14_29 e2875 ⟨rfl, rfl, rfl⟩
theorem rm2886_14 (B : Bg Z a0 wE0 w_cacheI k_wE0 cl_cacheI) (ro0 : Addr) (vj1 vj2 : Int64) (h : Heap) (O : Ext Z.heap h) (q2881 : Fld Z h ro0 cs3 "firstNumber" "J" (.long vj2)) (q2884 : Fld Z h ro0 cs3 "size" "I" (.int 6)) (hk2883 : (vj1 - vj2) = (3 : Int64)) :
    Con l Z yM14 prog_50_method_7_code 5 (some .int) ({ frames := 0, cells := 0, slots := 0, locals := 0 } : Room) #[(.ref ro0), (.long vj1)] h (fun v h' L => v = some (.int 3) ∧ h' = h ∧ L = []) := by
  have hw := B.1
  refine Con.of (plainFor_of_name pn14) (Ls := #[vR ro0, vJ vj1, .second, .unset, .unset]) (fun _ => by first | (simp [entryFrame, mkF, argsToLocals, Value.category, maxLocals]; done) | rfl) ?_
  intro p e s m below meth c T0 X0 H hml hZ hown hnm hret hlk e0
  refine gLloadN X0 H d14_0 rfl 1 rfl ?_
  refine gAloadN X0 H d14_1 rfl rfl 2 rfl ?_
  refine gGetF X0 H hZ hown (hw _ wd105) Via.refl e0 q2881 d14_2 5 rfl ?_
  intro T2882 X2882 e2882
  refine g_lsub X2882 H d14_5 (z := 3) hk2883 6 rfl ?_
  refine gLstoreN X2882 H d14_6 (Ls' := #[vR ro0, vJ vj1, .second, vJ 3, .second]) rfl 7 rfl ?_
  refine gLloadN X2882 H d14_7 rfl 8 rfl ?_
  refine gLconst X2882 H d14_8 (z := 0) rfl 9 rfl ?_
  refine g_lcmp X2882 H d14_9 (z := (lcmpW (3 : Int64) (0 : Int64))) rfl 10 rfl ?_
  refine gIfN X2882 H d14_10 (by decide) 13 rfl ?_
  refine gLloadN X2882 H d14_13 rfl 14 rfl ?_
  refine gAloadN X2882 H d14_14 rfl rfl 15 rfl ?_
  refine gGetF X2882 H hZ hown (hw _ wd98) Via.refl e2882 q2884 d14_15 18 rfl ?_
  intro T2885 X2885 e2885
  refine g_i2l X2885 H d14_18 (z := 6) (by decide) 19 rfl ?_
  refine g_lcmp X2885 H d14_19 (z := (lcmpW (3 : Int64) (6 : Int64))) rfl 20 rfl ?_
  refine gIfN X2885 H d14_20 (by decide) 23 rfl ?_
  refine gLloadN X2885 H d14_23 rfl 24 rfl ?_
  refine g_l2i X2885 H d14_24 (z := 3) (by decide) 25 rfl ?_
  refine gGoto X2885 H d14_25 (by decide) 29 rfl ?_
  exact gRetI X2885 H hlk hret d14_29 e2885 ⟨rfl, rfl, rfl⟩
theorem rm2896_14 (B : Bg Z a0 wE0 w_cacheI k_wE0 cl_cacheI) (ro0 : Addr) (vj1 vj2 : Int64) (h : Heap) (O : Ext Z.heap h) (q2891 : Fld Z h ro0 cs3 "firstNumber" "J" (.long vj2)) (q2894 : Fld Z h ro0 cs3 "size" "I" (.int 6)) (hk2893 : (vj1 - vj2) = (4 : Int64)) :
    Con l Z yM14 prog_50_method_7_code 5 (some .int) ({ frames := 0, cells := 0, slots := 0, locals := 0 } : Room) #[(.ref ro0), (.long vj1)] h (fun v h' L => v = some (.int 4) ∧ h' = h ∧ L = []) := by
  have hw := B.1
  refine Con.of (plainFor_of_name pn14) (Ls := #[vR ro0, vJ vj1, .second, .unset, .unset]) (fun _ => by first | (simp [entryFrame, mkF, argsToLocals, Value.category, maxLocals]; done) | rfl) ?_
  intro p e s m below meth c T0 X0 H hml hZ hown hnm hret hlk e0
  refine gLloadN X0 H d14_0 rfl 1 rfl ?_
  refine gAloadN X0 H d14_1 rfl rfl 2 rfl ?_
  refine gGetF X0 H hZ hown (hw _ wd105) Via.refl e0 q2891 d14_2 5 rfl ?_
  intro T2892 X2892 e2892
  refine g_lsub X2892 H d14_5 (z := 4) hk2893 6 rfl ?_
  refine gLstoreN X2892 H d14_6 (Ls' := #[vR ro0, vJ vj1, .second, vJ 4, .second]) rfl 7 rfl ?_
  refine gLloadN X2892 H d14_7 rfl 8 rfl ?_
  refine gLconst X2892 H d14_8 (z := 0) rfl 9 rfl ?_
  refine g_lcmp X2892 H d14_9 (z := (lcmpW (4 : Int64) (0 : Int64))) rfl 10 rfl ?_
  refine gIfN X2892 H d14_10 (by decide) 13 rfl ?_
  refine gLloadN X2892 H d14_13 rfl 14 rfl ?_
  refine gAloadN X2892 H d14_14 rfl rfl 15 rfl ?_
  refine gGetF X2892 H hZ hown (hw _ wd98) Via.refl e2892 q2894 d14_15 18 rfl ?_
  intro T2895 X2895 e2895
  refine g_i2l X2895 H d14_18 (z := 6) (by decide) 19 rfl ?_
  refine g_lcmp X2895 H d14_19 (z := (lcmpW (4 : Int64) (6 : Int64))) rfl 20 rfl ?_
  refine gIfN X2895 H d14_20 (by decide) 23 rfl ?_
  refine gLloadN X2895 H d14_23 rfl 24 rfl ?_
  refine g_l2i X2895 H d14_24 (z := 4) (by decide) 25 rfl ?_
  refine gGoto X2895 H d14_25 (by decide) 29 rfl ?_
  exact gRetI X2895 H hlk hret d14_29 e2895 ⟨rfl, rfl, rfl⟩
theorem rm2906_14 (B : Bg Z a0 wE0 w_cacheI k_wE0 cl_cacheI) (ro0 : Addr) (vj1 vj2 : Int64) (h : Heap) (O : Ext Z.heap h) (q2901 : Fld Z h ro0 cs3 "firstNumber" "J" (.long vj2)) (q2904 : Fld Z h ro0 cs3 "size" "I" (.int 6)) (hk2903 : (vj1 - vj2) = (5 : Int64)) :
    Con l Z yM14 prog_50_method_7_code 5 (some .int) ({ frames := 0, cells := 0, slots := 0, locals := 0 } : Room) #[(.ref ro0), (.long vj1)] h (fun v h' L => v = some (.int 5) ∧ h' = h ∧ L = []) := by
  have hw := B.1
  refine Con.of (plainFor_of_name pn14) (Ls := #[vR ro0, vJ vj1, .second, .unset, .unset]) (fun _ => by first | (simp [entryFrame, mkF, argsToLocals, Value.category, maxLocals]; done) | rfl) ?_
  intro p e s m below meth c T0 X0 H hml hZ hown hnm hret hlk e0
  refine gLloadN X0 H d14_0 rfl 1 rfl ?_
  refine gAloadN X0 H d14_1 rfl rfl 2 rfl ?_
  refine gGetF X0 H hZ hown (hw _ wd105) Via.refl e0 q2901 d14_2 5 rfl ?_
  intro T2902 X2902 e2902
  refine g_lsub X2902 H d14_5 (z := 5) hk2903 6 rfl ?_
  refine gLstoreN X2902 H d14_6 (Ls' := #[vR ro0, vJ vj1, .second, vJ 5, .second]) rfl 7 rfl ?_
  refine gLloadN X2902 H d14_7 rfl 8 rfl ?_
  refine gLconst X2902 H d14_8 (z := 0) rfl 9 rfl ?_
  refine g_lcmp X2902 H d14_9 (z := (lcmpW (5 : Int64) (0 : Int64))) rfl 10 rfl ?_
  refine gIfN X2902 H d14_10 (by decide) 13 rfl ?_
  refine gLloadN X2902 H d14_13 rfl 14 rfl ?_
  refine gAloadN X2902 H d14_14 rfl rfl 15 rfl ?_
  refine gGetF X2902 H hZ hown (hw _ wd98) Via.refl e2902 q2904 d14_15 18 rfl ?_
  intro T2905 X2905 e2905
  refine g_i2l X2905 H d14_18 (z := 6) (by decide) 19 rfl ?_
  refine g_lcmp X2905 H d14_19 (z := (lcmpW (5 : Int64) (6 : Int64))) rfl 20 rfl ?_
  refine gIfN X2905 H d14_20 (by decide) 23 rfl ?_
  refine gLloadN X2905 H d14_23 rfl 24 rfl ?_
  refine g_l2i X2905 H d14_24 (z := 5) (by decide) 25 rfl ?_
  refine gGoto X2905 H d14_25 (by decide) 29 rfl ?_
  exact gRetI X2905 H hlk hret d14_29 e2905 ⟨rfl, rfl, rfl⟩
theorem rm2918_14 (B : Bg Z a0 wE0 w_cacheI k_wE0 cl_cacheI) (ro0 : Addr) (vj1 vj2 : Int64) (h : Heap) (O : Ext Z.heap h) (q2912 : Fld Z h ro0 cs3 "firstNumber" "J" (.long vj2)) (q2915 : Fld Z h ro0 cs3 "size" "I" (.int 6)) (hk2914 : ¬ ((vj1 - vj2) < (0 : Int64))) (hk2917 : ¬ ((vj1 - vj2) < (6 : Int64))) :
    Con l Z yM14 prog_50_method_7_code 5 (some .int) ({ frames := 0, cells := 0, slots := 0, locals := 0 } : Room) #[(.ref ro0), (.long vj1)] h (fun v h' L => v = some (.int (-1)) ∧ h' = h ∧ L = []) := by
  have hw := B.1
  refine Con.of (plainFor_of_name pn14) (Ls := #[vR ro0, vJ vj1, .second, .unset, .unset]) (fun _ => by first | (simp [entryFrame, mkF, argsToLocals, Value.category, maxLocals]; done) | rfl) ?_
  intro p e s m below meth c T0 X0 H hml hZ hown hnm hret hlk e0
  refine gLloadN X0 H d14_0 rfl 1 rfl ?_
  refine gAloadN X0 H d14_1 rfl rfl 2 rfl ?_
  refine gGetF X0 H hZ hown (hw _ wd105) Via.refl e0 q2912 d14_2 5 rfl ?_
  intro T2913 X2913 e2913
  refine g_lsub X2913 H d14_5 (z := (vj1 - vj2)) rfl 6 rfl ?_
  refine gLstoreN X2913 H d14_6 (Ls' := #[vR ro0, vJ vj1, .second, vJ (vj1 - vj2), .second]) rfl 7 rfl ?_
  refine gLloadN X2913 H d14_7 rfl 8 rfl ?_
  refine gLconst X2913 H d14_8 (z := 0) rfl 9 rfl ?_
  refine g_lcmp X2913 H d14_9 (z := (lcmpW (vj1 - vj2) (0 : Int64))) rfl 10 rfl ?_
  refine gIfN X2913 H d14_10 ((if0 _ _).trans (flt (fun q => hk2914 ((lw_lt _ _).mp q))).1) 13 rfl ?_
  refine gLloadN X2913 H d14_13 rfl 14 rfl ?_
  refine gAloadN X2913 H d14_14 rfl rfl 15 rfl ?_
  refine gGetF X2913 H hZ hown (hw _ wd98) Via.refl e2913 q2915 d14_15 18 rfl ?_
  intro T2916 X2916 e2916
  refine g_i2l X2916 H d14_18 (z := 6) (by decide) 19 rfl ?_
  refine g_lcmp X2916 H d14_19 (z := (lcmpW (vj1 - vj2) (6 : Int64))) rfl 20 rfl ?_
  refine gIfY X2916 H d14_20 ((if0 _ _).trans (flt (fun q => hk2917 ((lw_lt _ _).mp q))).2.1) (by decide) 28 rfl ?_
  refine gIconst X2916 H d14_28 (z := (-1)) rfl 29 rfl ?_
  exact gRetI X2916 H hlk hret d14_29 e2916 ⟨rfl, rfl, rfl⟩
theorem tail2847_203 (B : Bg Z a0 wE0 w_cacheI k_wE0 cl_cacheI) (p0 : Int64) (p1 : Int32) (p2 : Int32) (p3 : Int32) (o6 : Addr) (o7 : Addr) (u8 : Int32) (u9 : Int32) (u10 : Int64) (u12 : Int64) {p : Program} {e : Env} {s : State} {m : MethodId} {below : List Frame} {meth : Method} {c : Code} {T0 : State} {locs : List Loc} {cells slots : Nat} {h : Heap} (X0 : Stand p l e room_1 s m #[(.long p0), (.int p1), (.int p2), (.int p3)] below meth c T0 locs cells slots) (H : p.tables.exec = Jvm.exec ∧ c.code = code) (hml : c.maxLocals = maxLocals) (hZ : Z.Warmed39 s.vm) (hown : s.vm.findClass x.cls = some m.cls) (hnm : meth.name = x.name) (hret : meth.sig.returnType = ret) (hlk : meth.locks = false) (N0 : Fr Z.heap.size locs) (hC : cells ≤ room_1.cells) (hS : slots ≤ room_1.slots) (e0 : T0.heap = h) (O : Ext Z.heap h) (qq0 : Exa Z h o7 cs3) (qq1 : Fld Z h o7 cs3 "size" "I" (.int 6)) (qq2 : Fld Z h o7 cs3 "firstNumber" "J" (.long u10)) :
    Go p e below (EndK s below (fun v h' L => v = some (.int 1) ∧ Fr Z.heap.size L) room_1.cells room_1.slots) (T0.setTop (mkF m 203 #[vJ p0, .second, vI p1, vI p2, vI p3, vI 6, vR o6, vR o7, vI u8, vI u9, vJ u10, .second, vJ u12, .second, .unset, .unset] [])) := by
  have hw := B.1
  obtain ⟨S_wE0, V_wE0, S_high, S_cacheI, B_cacheI⟩ := B.2
  have M0 := Nat.le_refl h.size
  refine gAload X0 H at_203 rfl rfl 205 rfl ?_
  refine gLload X0 H at_205 rfl 207 rfl ?_
  by_cases hc2850 : (u12 - u10) = (0 : Int64)
  · refine gVirt X0 H hZ hown (hw _ wd100) (hw _ wd101) (hw _ wd103) (hw _ wd102) (by decide) qq0 (hw _ wd104) (hw _ wd66) (rm2856_14 B o7 u12 u10 _ O qq2 qq1 hc2850) e0 hml rfl pd12 rfl (W := 0) (argsL := [(.long u12)]) (rest := []) rfl rfl at_207 210 rfl ?_ (hc := hC) (hsl := hS)
    intro v2857 T2857 L2857 hq2857 X2857
    obtain ⟨rfl, e2857, rfl⟩ := hq2857
    have N2857 := Fr.app N0 (Fr.nil _)
    show Go _ _ _ _ (State.setTop _ (mkF _ 210 _ [(.int 0)]))
    refine gIstore X2857 H at_210 (Ls' := #[vJ p0, .second, vI p1, vI p2, vI p3, vI 6, vR o6, vR o7, vI u8, vI u9, vJ u10, .second, vJ u12, .second, vI 0, .unset]) rfl 212 rfl ?_
    refine gIconst X2857 H at_212 (z := (-1)) rfl 213 rfl ?_
    refine gIstore X2857 H at_213 (Ls' := #[vJ p0, .second, vI p1, vI p2, vI p3, vI 6, vR o6, vR o7, vI u8, vI u9, vJ u10, .second, vJ u12, .second, vI 0, vI (-1)]) rfl 215 rfl ?_
    refine gIload X2857 H at_215 rfl 217 rfl ?_
    refine gIfN X2857 H at_217 (by decide) 220 rfl ?_
    refine gLload X2857 H at_220 rfl 222 rfl ?_
    refine gLload X2857 H at_222 rfl 224 rfl ?_
    refine g_lcmp X2857 H at_224 (z := (lcmpW u12 u10)) rfl 225 rfl ?_
    refine gIfN X2857 H at_225 ((if0 _ _).trans (teq ((lw_eq _ _).mpr (off_eq0 hc2850))).2) 228 rfl ?_
    refine gIconst X2857 H at_228 (z := 0) rfl 229 rfl ?_
    refine gIstore X2857 H at_229 (Ls' := #[vJ p0, .second, vI p1, vI p2, vI p3, vI 6, vR o6, vR o7, vI u8, vI u9, vJ u10, .second, vJ u12, .second, vI 0, vI 0]) rfl 231 rfl ?_
    refine gGoto X2857 H at_231 (by decide) 349 rfl ?_
    refine gIload X2857 H at_349 rfl 351 rfl ?_
    refine gIload X2857 H at_351 rfl 353 rfl ?_
    refine gCmpN X2857 H at_353 (by decide) 356 rfl ?_
    refine gIconst X2857 H at_356 (z := 1) rfl 357 rfl ?_
    refine gGoto X2857 H at_357 (by decide) 361 rfl ?_
    exact gRetN X2857 H hlk hret (t := .boolean) (by simp) at_361 e2857 ⟨rfl, N2857⟩ hC hS
  · by_cases hc2860 : (u12 - u10) = (1 : Int64)
    · refine gVirt X0 H hZ hown (hw _ wd100) (hw _ wd101) (hw _ wd103) (hw _ wd102) (by decide) qq0 (hw _ wd104) (hw _ wd66) (rm2866_14 B o7 u12 u10 _ O qq2 qq1 hc2860) e0 hml rfl pd12 rfl (W := 0) (argsL := [(.long u12)]) (rest := []) rfl rfl at_207 210 rfl ?_ (hc := hC) (hsl := hS)
      intro v2867 T2867 L2867 hq2867 X2867
      obtain ⟨rfl, e2867, rfl⟩ := hq2867
      have N2867 := Fr.app N0 (Fr.nil _)
      show Go _ _ _ _ (State.setTop _ (mkF _ 210 _ [(.int 1)]))
      refine gIstore X2867 H at_210 (Ls' := #[vJ p0, .second, vI p1, vI p2, vI p3, vI 6, vR o6, vR o7, vI u8, vI u9, vJ u10, .second, vJ u12, .second, vI 1, .unset]) rfl 212 rfl ?_
      refine gIconst X2867 H at_212 (z := (-1)) rfl 213 rfl ?_
      refine gIstore X2867 H at_213 (Ls' := #[vJ p0, .second, vI p1, vI p2, vI p3, vI 6, vR o6, vR o7, vI u8, vI u9, vJ u10, .second, vJ u12, .second, vI 1, vI (-1)]) rfl 215 rfl ?_
      refine gIload X2867 H at_215 rfl 217 rfl ?_
      refine gIfN X2867 H at_217 (by decide) 220 rfl ?_
      refine gLload X2867 H at_220 rfl 222 rfl ?_
      refine gLload X2867 H at_222 rfl 224 rfl ?_
      refine g_lcmp X2867 H at_224 (z := (lcmpW u12 u10)) rfl 225 rfl ?_
      refine gIfY X2867 H at_225 ((if0 _ _).trans (feq (fun q => (off_ne0 (off_two hc2860 (by decide))) ((lw_eq _ _).mp q))).2) (by decide) 234 rfl ?_
      refine gIload X2867 H at_234 rfl 236 rfl ?_
      refine gIconst X2867 H at_236 (z := 1) rfl 237 rfl ?_
      refine gCmpN X2867 H at_237 (by decide) 240 rfl ?_
      refine gLload X2867 H at_240 rfl 242 rfl ?_
      refine gLload X2867 H at_242 rfl 244 rfl ?_
      refine gLconst X2867 H at_244 (z := 1) rfl 245 rfl ?_
      refine g_ladd X2867 H at_245 (z := (u10 + (1 : Int64))) rfl 246 rfl ?_
      refine g_lcmp X2867 H at_246 (z := (lcmpW u12 (u10 + (1 : Int64)))) rfl 247 rfl ?_
      refine gIfN X2867 H at_247 ((if0 _ _).trans (teq ((lw_eq _ _).mpr (off_eq hc2860))).2) 250 rfl ?_
      refine gIconst X2867 H at_250 (z := 1) rfl 251 rfl ?_
      refine gIstore X2867 H at_251 (Ls' := #[vJ p0, .second, vI p1, vI p2, vI p3, vI 6, vR o6, vR o7, vI u8, vI u9, vJ u10, .second, vJ u12, .second, vI 1, vI 1]) rfl 253 rfl ?_
      refine gGoto X2867 H at_253 (by decide) 349 rfl ?_
      refine gIload X2867 H at_349 rfl 351 rfl ?_
      refine gIload X2867 H at_351 rfl 353 rfl ?_
      refine gCmpN X2867 H at_353 (by decide) 356 rfl ?_
      refine gIconst X2867 H at_356 (z := 1) rfl 357 rfl ?_
      refine gGoto X2867 H at_357 (by decide) 361 rfl ?_
      exact gRetN X2867 H hlk hret (t := .boolean) (by simp) at_361 e2867 ⟨rfl, N2867⟩ hC hS
    · by_cases hc2870 : (u12 - u10) = (2 : Int64)
      · refine gVirt X0 H hZ hown (hw _ wd100) (hw _ wd101) (hw _ wd103) (hw _ wd102) (by decide) qq0 (hw _ wd104) (hw _ wd66) (rm2876_14 B o7 u12 u10 _ O qq2 qq1 hc2870) e0 hml rfl pd12 rfl (W := 0) (argsL := [(.long u12)]) (rest := []) rfl rfl at_207 210 rfl ?_ (hc := hC) (hsl := hS)
        intro v2877 T2877 L2877 hq2877 X2877
        obtain ⟨rfl, e2877, rfl⟩ := hq2877
        have N2877 := Fr.app N0 (Fr.nil _)
        show Go _ _ _ _ (State.setTop _ (mkF _ 210 _ [(.int 2)]))
        refine gIstore X2877 H at_210 (Ls' := #[vJ p0, .second, vI p1, vI p2, vI p3, vI 6, vR o6, vR o7, vI u8, vI u9, vJ u10, .second, vJ u12, .second, vI 2, .unset]) rfl 212 rfl ?_
        refine gIconst X2877 H at_212 (z := (-1)) rfl 213 rfl ?_
        refine gIstore X2877 H at_213 (Ls' := #[vJ p0, .second, vI p1, vI p2, vI p3, vI 6, vR o6, vR o7, vI u8, vI u9, vJ u10, .second, vJ u12, .second, vI 2, vI (-1)]) rfl 215 rfl ?_
        refine gIload X2877 H at_215 rfl 217 rfl ?_
        refine gIfN X2877 H at_217 (by decide) 220 rfl ?_
        refine gLload X2877 H at_220 rfl 222 rfl ?_
        refine gLload X2877 H at_222 rfl 224 rfl ?_
        refine g_lcmp X2877 H at_224 (z := (lcmpW u12 u10)) rfl 225 rfl ?_
        refine gIfY X2877 H at_225 ((if0 _ _).trans (feq (fun q => (off_ne0 (off_two hc2870 (by decide))) ((lw_eq _ _).mp q))).2) (by decide) 234 rfl ?_
        refine gIload X2877 H at_234 rfl 236 rfl ?_
        refine gIconst X2877 H at_236 (z := 1) rfl 237 rfl ?_
        refine gCmpN X2877 H at_237 (by decide) 240 rfl ?_
        refine gLload X2877 H at_240 rfl 242 rfl ?_
        refine gLload X2877 H at_242 rfl 244 rfl ?_
        refine gLconst X2877 H at_244 (z := 1) rfl 245 rfl ?_
        refine g_ladd X2877 H at_245 (z := (u10 + (1 : Int64))) rfl 246 rfl ?_
        refine g_lcmp X2877 H at_246 (z := (lcmpW u12 (u10 + (1 : Int64)))) rfl 247 rfl ?_
        refine gIfY X2877 H at_247 ((if0 _ _).trans (feq (fun q => (off_ne (off_two hc2870 (by decide))) ((lw_eq _ _).mp q))).2) (by decide) 256 rfl ?_
        refine gIload X2877 H at_256 rfl 258 rfl ?_
        refine gIconst X2877 H at_258 (z := 2) rfl 259 rfl ?_
        refine gCmpN X2877 H at_259 (by decide) 262 rfl ?_
        refine gLload X2877 H at_262 rfl 264 rfl ?_
        refine gLload X2877 H at_264 rfl 266 rfl ?_
        refine gLdc2 X2877 H hZ hown (hw _ wd149) at_266 269 rfl ?_
        refine g_ladd X2877 H at_269 (z := (u10 + (2 : Int64))) rfl 270 rfl ?_
        refine g_lcmp X2877 H at_270 (z := (lcmpW u12 (u10 + (2 : Int64)))) rfl 271 rfl ?_
        refine gIfN X2877 H at_271 ((if0 _ _).trans (teq ((lw_eq _ _).mpr (off_eq hc2870))).2) 274 rfl ?_
        refine gIconst X2877 H at_274 (z := 2) rfl 275 rfl ?_
        refine gIstore X2877 H at_275 (Ls' := #[vJ p0, .second, vI p1, vI p2, vI p3, vI 6, vR o6, vR o7, vI u8, vI u9, vJ u10, .second, vJ u12, .second, vI 2, vI 2]) rfl 277 rfl ?_
        refine gGoto X2877 H at_277 (by decide) 349 rfl ?_
        refine gIload X2877 H at_349 rfl 351 rfl ?_
        refine gIload X2877 H at_351 rfl 353 rfl ?_
        refine gCmpN X2877 H at_353 (by decide) 356 rfl ?_
        refine gIconst X2877 H at_356 (z := 1) rfl 357 rfl ?_
        refine gGoto X2877 H at_357 (by decide) 361 rfl ?_
        exact gRetN X2877 H hlk hret (t := .boolean) (by simp) at_361 e2877 ⟨rfl, N2877⟩ hC hS
      · by_cases hc2880 : (u12 - u10) = (3 : Int64)
        · refine gVirt X0 H hZ hown (hw _ wd100) (hw _ wd101) (hw _ wd103) (hw _ wd102) (by decide) qq0 (hw _ wd104) (hw _ wd66) (rm2886_14 B o7 u12 u10 _ O qq2 qq1 hc2880) e0 hml rfl pd12 rfl (W := 0) (argsL := [(.long u12)]) (rest := []) rfl rfl at_207 210 rfl ?_ (hc := hC) (hsl := hS)
          intro v2887 T2887 L2887 hq2887 X2887
          obtain ⟨rfl, e2887, rfl⟩ := hq2887
          have N2887 := Fr.app N0 (Fr.nil _)
          show Go _ _ _ _ (State.setTop _ (mkF _ 210 _ [(.int 3)]))
          refine gIstore X2887 H at_210 (Ls' := #[vJ p0, .second, vI p1, vI p2, vI p3, vI 6, vR o6, vR o7, vI u8, vI u9, vJ u10, .second, vJ u12, .second, vI 3, .unset]) rfl 212 rfl ?_
          refine gIconst X2887 H at_212 (z := (-1)) rfl 213 rfl ?_
          refine gIstore X2887 H at_213 (Ls' := #[vJ p0, .second, vI p1, vI p2, vI p3, vI 6, vR o6, vR o7, vI u8, vI u9, vJ u10, .second, vJ u12, .second, vI 3, vI (-1)]) rfl 215 rfl ?_
          refine gIload X2887 H at_215 rfl 217 rfl ?_
          refine gIfN X2887 H at_217 (by decide) 220 rfl ?_
          refine gLload X2887 H at_220 rfl 222 rfl ?_
          refine gLload X2887 H at_222 rfl 224 rfl ?_
          refine g_lcmp X2887 H at_224 (z := (lcmpW u12 u10)) rfl 225 rfl ?_
          refine gIfY X2887 H at_225 ((if0 _ _).trans (feq (fun q => (off_ne0 (off_two hc2880 (by decide))) ((lw_eq _ _).mp q))).2) (by decide) 234 rfl ?_
          refine gIload X2887 H at_234 rfl 236 rfl ?_
          refine gIconst X2887 H at_236 (z := 1) rfl 237 rfl ?_
          refine gCmpN X2887 H at_237 (by decide) 240 rfl ?_
          refine gLload X2887 H at_240 rfl 242 rfl ?_
          refine gLload X2887 H at_242 rfl 244 rfl ?_
          refine gLconst X2887 H at_244 (z := 1) rfl 245 rfl ?_
          refine g_ladd X2887 H at_245 (z := (u10 + (1 : Int64))) rfl 246 rfl ?_
          refine g_lcmp X2887 H at_246 (z := (lcmpW u12 (u10 + (1 : Int64)))) rfl 247 rfl ?_
          refine gIfY X2887 H at_247 ((if0 _ _).trans (feq (fun q => (off_ne (off_two hc2880 (by decide))) ((lw_eq _ _).mp q))).2) (by decide) 256 rfl ?_
          refine gIload X2887 H at_256 rfl 258 rfl ?_
          refine gIconst X2887 H at_258 (z := 2) rfl 259 rfl ?_
          refine gCmpN X2887 H at_259 (by decide) 262 rfl ?_
          refine gLload X2887 H at_262 rfl 264 rfl ?_
          refine gLload X2887 H at_264 rfl 266 rfl ?_
          refine gLdc2 X2887 H hZ hown (hw _ wd149) at_266 269 rfl ?_
          refine g_ladd X2887 H at_269 (z := (u10 + (2 : Int64))) rfl 270 rfl ?_
          refine g_lcmp X2887 H at_270 (z := (lcmpW u12 (u10 + (2 : Int64)))) rfl 271 rfl ?_
          refine gIfY X2887 H at_271 ((if0 _ _).trans (feq (fun q => (off_ne (off_two hc2880 (by decide))) ((lw_eq _ _).mp q))).2) (by decide) 280 rfl ?_
          refine gIload X2887 H at_280 rfl 282 rfl ?_
          refine gIconst X2887 H at_282 (z := 3) rfl 283 rfl ?_
          refine gCmpN X2887 H at_283 (by decide) 286 rfl ?_
          refine gLload X2887 H at_286 rfl 288 rfl ?_
          refine gLload X2887 H at_288 rfl 290 rfl ?_
          refine gLdc2 X2887 H hZ hown (hw _ wd150) at_290 293 rfl ?_
          refine g_ladd X2887 H at_293 (z := (u10 + (3 : Int64))) rfl 294 rfl ?_
          refine g_lcmp X2887 H at_294 (z := (lcmpW u12 (u10 + (3 : Int64)))) rfl 295 rfl ?_
          refine gIfN X2887 H at_295 ((if0 _ _).trans (teq ((lw_eq _ _).mpr (off_eq hc2880))).2) 298 rfl ?_
          refine gIconst X2887 H at_298 (z := 3) rfl 299 rfl ?_
          refine gIstore X2887 H at_299 (Ls' := #[vJ p0, .second, vI p1, vI p2, vI p3, vI 6, vR o6, vR o7, vI u8, vI u9, vJ u10, .second, vJ u12, .second, vI 3, vI 3]) rfl 301 rfl ?_
          refine gGoto X2887 H at_301 (by decide) 349 rfl ?_
          refine gIload X2887 H at_349 rfl 351 rfl ?_
          refine gIload X2887 H at_351 rfl 353 rfl ?_
          refine gCmpN X2887 H at_353 (by decide) 356 rfl ?_
          refine gIconst X2887 H at_356 (z := 1) rfl 357 rfl ?_
          refine gGoto X2887 H at_357 (by decide) 361 rfl ?_
          exact gRetN X2887 H hlk hret (t := .boolean) (by simp) at_361 e2887 ⟨rfl, N2887⟩ hC hS
        · by_cases hc2890 : (u12 - u10) = (4 : Int64)
          · refine gVirt X0 H hZ hown (hw _ wd100) (hw _ wd101) (hw _ wd103) (hw _ wd102) (by decide) qq0 (hw _ wd104) (hw _ wd66) (rm2896_14 B o7 u12 u10 _ O qq2 qq1 hc2890) e0 hml rfl pd12 rfl (W := 0) (argsL := [(.long u12)]) (rest := []) rfl rfl at_207 210 rfl ?_ (hc := hC) (hsl := hS)
            intro v2897 T2897 L2897 hq2897 X2897
            obtain ⟨rfl, e2897, rfl⟩ := hq2897
            have N2897 := Fr.app N0 (Fr.nil _)
            show Go _ _ _ _ (State.setTop _ (mkF _ 210 _ [(.int 4)]))
            refine gIstore X2897 H at_210 (Ls' := #[vJ p0, .second, vI p1, vI p2, vI p3, vI 6, vR o6, vR o7, vI u8, vI u9, vJ u10, .second, vJ u12, .second, vI 4, .unset]) rfl 212 rfl ?_
            refine gIconst X2897 H at_212 (z := (-1)) rfl 213 rfl ?_
            refine gIstore X2897 H at_213 (Ls' := #[vJ p0, .second, vI p1, vI p2, vI p3, vI 6, vR o6, vR o7, vI u8, vI u9, vJ u10, .second, vJ u12, .second, vI 4, vI (-1)]) rfl 215 rfl ?_
            refine gIload X2897 H at_215 rfl 217 rfl ?_
            refine gIfN X2897 H at_217 (by decide) 220 rfl ?_
            refine gLload X2897 H at_220 rfl 222 rfl ?_
            refine gLload X2897 H at_222 rfl 224 rfl ?_
            refine g_lcmp X2897 H at_224 (z := (lcmpW u12 u10)) rfl 225 rfl ?_
            refine gIfY X2897 H at_225 ((if0 _ _).trans (feq (fun q => (off_ne0 (off_two hc2890 (by decide))) ((lw_eq _ _).mp q))).2) (by decide) 234 rfl ?_
            refine gIload X2897 H at_234 rfl 236 rfl ?_
            refine gIconst X2897 H at_236 (z := 1) rfl 237 rfl ?_
            refine gCmpN X2897 H at_237 (by decide) 240 rfl ?_
            refine gLload X2897 H at_240 rfl 242 rfl ?_
            refine gLload X2897 H at_242 rfl 244 rfl ?_
            refine gLconst X2897 H at_244 (z := 1) rfl 245 rfl ?_
            refine g_ladd X2897 H at_245 (z := (u10 + (1 : Int64))) rfl 246 rfl ?_
            refine g_lcmp X2897 H at_246 (z := (lcmpW u12 (u10 + (1 : Int64)))) rfl 247 rfl ?_
            refine gIfY X2897 H at_247 ((if0 _ _).trans (feq (fun q => (off_ne (off_two hc2890 (by decide))) ((lw_eq _ _).mp q))).2) (by decide) 256 rfl ?_
            refine gIload X2897 H at_256 rfl 258 rfl ?_
            refine gIconst X2897 H at_258 (z := 2) rfl 259 rfl ?_
            refine gCmpN X2897 H at_259 (by decide) 262 rfl ?_
            refine gLload X2897 H at_262 rfl 264 rfl ?_
            refine gLload X2897 H at_264 rfl 266 rfl ?_
            refine gLdc2 X2897 H hZ hown (hw _ wd149) at_266 269 rfl ?_
            refine g_ladd X2897 H at_269 (z := (u10 + (2 : Int64))) rfl 270 rfl ?_
            refine g_lcmp X2897 H at_270 (z := (lcmpW u12 (u10 + (2 : Int64)))) rfl 271 rfl ?_
            refine gIfY X2897 H at_271 ((if0 _ _).trans (feq (fun q => (off_ne (off_two hc2890 (by decide))) ((lw_eq _ _).mp q))).2) (by decide) 280 rfl ?_
            refine gIload X2897 H at_280 rfl 282 rfl ?_
            refine gIconst X2897 H at_282 (z := 3) rfl 283 rfl ?_
            refine gCmpN X2897 H at_283 (by decide) 286 rfl ?_
            refine gLload X2897 H at_286 rfl 288 rfl ?_
            refine gLload X2897 H at_288 rfl 290 rfl ?_
            refine gLdc2 X2897 H hZ hown (hw _ wd150) at_290 293 rfl ?_
            refine g_ladd X2897 H at_293 (z := (u10 + (3 : Int64))) rfl 294 rfl ?_
            refine g_lcmp X2897 H at_294 (z := (lcmpW u12 (u10 + (3 : Int64)))) rfl 295 rfl ?_
            refine gIfY X2897 H at_295 ((if0 _ _).trans (feq (fun q => (off_ne (off_two hc2890 (by decide))) ((lw_eq _ _).mp q))).2) (by decide) 304 rfl ?_
            refine gIload X2897 H at_304 rfl 306 rfl ?_
            refine gIconst X2897 H at_306 (z := 4) rfl 307 rfl ?_
            refine gCmpN X2897 H at_307 (by decide) 310 rfl ?_
            refine gLload X2897 H at_310 rfl 312 rfl ?_
            refine gLload X2897 H at_312 rfl 314 rfl ?_
            refine gLdc2 X2897 H hZ hown (hw _ wd151) at_314 317 rfl ?_
            refine g_ladd X2897 H at_317 (z := (u10 + (4 : Int64))) rfl 318 rfl ?_
            refine g_lcmp X2897 H at_318 (z := (lcmpW u12 (u10 + (4 : Int64)))) rfl 319 rfl ?_
            refine gIfN X2897 H at_319 ((if0 _ _).trans (teq ((lw_eq _ _).mpr (off_eq hc2890))).2) 322 rfl ?_
            refine gIconst X2897 H at_322 (z := 4) rfl 323 rfl ?_
            refine gIstore X2897 H at_323 (Ls' := #[vJ p0, .second, vI p1, vI p2, vI p3, vI 6, vR o6, vR o7, vI u8, vI u9, vJ u10, .second, vJ u12, .second, vI 4, vI 4]) rfl 325 rfl ?_
            refine gGoto X2897 H at_325 (by decide) 349 rfl ?_
            refine gIload X2897 H at_349 rfl 351 rfl ?_
            refine gIload X2897 H at_351 rfl 353 rfl ?_
            refine gCmpN X2897 H at_353 (by decide) 356 rfl ?_
            refine gIconst X2897 H at_356 (z := 1) rfl 357 rfl ?_
            refine gGoto X2897 H at_357 (by decide) 361 rfl ?_
            exact gRetN X2897 H hlk hret (t := .boolean) (by simp) at_361 e2897 ⟨rfl, N2897⟩ hC hS
          · by_cases hc2900 : (u12 - u10) = (5 : Int64)
            · refine gVirt X0 H hZ hown (hw _ wd100) (hw _ wd101) (hw _ wd103) (hw _ wd102) (by decide) qq0 (hw _ wd104) (hw _ wd66) (rm2906_14 B o7 u12 u10 _ O qq2 qq1 hc2900) e0 hml rfl pd12 rfl (W := 0) (argsL := [(.long u12)]) (rest := []) rfl rfl at_207 210 rfl ?_ (hc := hC) (hsl := hS)
              intro v2907 T2907 L2907 hq2907 X2907
              obtain ⟨rfl, e2907, rfl⟩ := hq2907
              have N2907 := Fr.app N0 (Fr.nil _)
              show Go _ _ _ _ (State.setTop _ (mkF _ 210 _ [(.int 5)]))
              refine gIstore X2907 H at_210 (Ls' := #[vJ p0, .second, vI p1, vI p2, vI p3, vI 6, vR o6, vR o7, vI u8, vI u9, vJ u10, .second, vJ u12, .second, vI 5, .unset]) rfl 212 rfl ?_
              refine gIconst X2907 H at_212 (z := (-1)) rfl 213 rfl ?_
              refine gIstore X2907 H at_213 (Ls' := #[vJ p0, .second, vI p1, vI p2, vI p3, vI 6, vR o6, vR o7, vI u8, vI u9, vJ u10, .second, vJ u12, .second, vI 5, vI (-1)]) rfl 215 rfl ?_
              refine gIload X2907 H at_215 rfl 217 rfl ?_
              refine gIfN X2907 H at_217 (by decide) 220 rfl ?_
              refine gLload X2907 H at_220 rfl 222 rfl ?_
              refine gLload X2907 H at_222 rfl 224 rfl ?_
              refine g_lcmp X2907 H at_224 (z := (lcmpW u12 u10)) rfl 225 rfl ?_
              refine gIfY X2907 H at_225 ((if0 _ _).trans (feq (fun q => (off_ne0 (off_two hc2900 (by decide))) ((lw_eq _ _).mp q))).2) (by decide) 234 rfl ?_
              refine gIload X2907 H at_234 rfl 236 rfl ?_
              refine gIconst X2907 H at_236 (z := 1) rfl 237 rfl ?_
              refine gCmpN X2907 H at_237 (by decide) 240 rfl ?_
              refine gLload X2907 H at_240 rfl 242 rfl ?_
              refine gLload X2907 H at_242 rfl 244 rfl ?_
              refine gLconst X2907 H at_244 (z := 1) rfl 245 rfl ?_
              refine g_ladd X2907 H at_245 (z := (u10 + (1 : Int64))) rfl 246 rfl ?_
              refine g_lcmp X2907 H at_246 (z := (lcmpW u12 (u10 + (1 : Int64)))) rfl 247 rfl ?_
              refine gIfY X2907 H at_247 ((if0 _ _).trans (feq (fun q => (off_ne (off_two hc2900 (by decide))) ((lw_eq _ _).mp q))).2) (by decide) 256 rfl ?_
              refine gIload X2907 H at_256 rfl 258 rfl ?_
              refine gIconst X2907 H at_258 (z := 2) rfl 259 rfl ?_
              refine gCmpN X2907 H at_259 (by decide) 262 rfl ?_
              refine gLload X2907 H at_262 rfl 264 rfl ?_
              refine gLload X2907 H at_264 rfl 266 rfl ?_
              refine gLdc2 X2907 H hZ hown (hw _ wd149) at_266 269 rfl ?_
              refine g_ladd X2907 H at_269 (z := (u10 + (2 : Int64))) rfl 270 rfl ?_
              refine g_lcmp X2907 H at_270 (z := (lcmpW u12 (u10 + (2 : Int64)))) rfl 271 rfl ?_
              refine gIfY X2907 H at_271 ((if0 _ _).trans (feq (fun q => (off_ne (off_two hc2900 (by decide))) ((lw_eq _ _).mp q))).2) (by decide) 280 rfl ?_
              refine gIload X2907 H at_280 rfl 282 rfl ?_
              refine gIconst X2907 H at_282 (z := 3) rfl 283 rfl ?_
              refine gCmpN X2907 H at_283 (by decide) 286 rfl ?_
              refine gLload X2907 H at_286 rfl 288 rfl ?_
              refine gLload X2907 H at_288 rfl 290 rfl ?_
              refine gLdc2 X2907 H hZ hown (hw _ wd150) at_290 293 rfl ?_
              refine g_ladd X2907 H at_293 (z := (u10 + (3 : Int64))) rfl 294 rfl ?_
              refine g_lcmp X2907 H at_294 (z := (lcmpW u12 (u10 + (3 : Int64)))) rfl 295 rfl ?_
              refine gIfY X2907 H at_295 ((if0 _ _).trans (feq (fun q => (off_ne (off_two hc2900 (by decide))) ((lw_eq _ _).mp q))).2) (by decide) 304 rfl ?_
              refine gIload X2907 H at_304 rfl 306 rfl ?_
              refine gIconst X2907 H at_306 (z := 4) rfl 307 rfl ?_
              refine gCmpN X2907 H at_307 (by decide) 310 rfl ?_
              refine gLload X2907 H at_310 rfl 312 rfl ?_
              refine gLload X2907 H at_312 rfl 314 rfl ?_
              refine gLdc2 X2907 H hZ hown (hw _ wd151) at_314 317 rfl ?_
              refine g_ladd X2907 H at_317 (z := (u10 + (4 : Int64))) rfl 318 rfl ?_
              refine g_lcmp X2907 H at_318 (z := (lcmpW u12 (u10 + (4 : Int64)))) rfl 319 rfl ?_
              refine gIfY X2907 H at_319 ((if0 _ _).trans (feq (fun q => (off_ne (off_two hc2900 (by decide))) ((lw_eq _ _).mp q))).2) (by decide) 328 rfl ?_
              refine gIload X2907 H at_328 rfl 330 rfl ?_
              refine gIconst X2907 H at_330 (z := 5) rfl 331 rfl ?_
              refine gCmpN X2907 H at_331 (by decide) 334 rfl ?_
              refine gLload X2907 H at_334 rfl 336 rfl ?_
              refine gLload X2907 H at_336 rfl 338 rfl ?_
              refine gLdc2 X2907 H hZ hown (hw _ wd152) at_338 341 rfl ?_
              refine g_ladd X2907 H at_341 (z := (u10 + (5 : Int64))) rfl 342 rfl ?_
              refine g_lcmp X2907 H at_342 (z := (lcmpW u12 (u10 + (5 : Int64)))) rfl 343 rfl ?_
              refine gIfN X2907 H at_343 ((if0 _ _).trans (teq ((lw_eq _ _).mpr (off_eq hc2900))).2) 346 rfl ?_
              refine gIconst X2907 H at_346 (z := 5) rfl 347 rfl ?_
              refine gIstore X2907 H at_347 (Ls' := #[vJ p0, .second, vI p1, vI p2, vI p3, vI 6, vR o6, vR o7, vI u8, vI u9, vJ u10, .second, vJ u12, .second, vI 5, vI 5]) rfl 349 rfl ?_
              refine gIload X2907 H at_349 rfl 351 rfl ?_
              refine gIload X2907 H at_351 rfl 353 rfl ?_
              refine gCmpN X2907 H at_353 (by decide) 356 rfl ?_
              refine gIconst X2907 H at_356 (z := 1) rfl 357 rfl ?_
              refine gGoto X2907 H at_357 (by decide) 361 rfl ?_
              exact gRetN X2907 H hlk hret (t := .boolean) (by simp) at_361 e2907 ⟨rfl, N2907⟩ hC hS
            · by_cases hc2910 : (u12 - u10) < (0 : Int64)
              · refine gVirt X0 H hZ hown (hw _ wd100) (hw _ wd101) (hw _ wd103) (hw _ wd102) (by decide) qq0 (hw _ wd104) (hw _ wd66) (rm595_14 B o7 u12 u10 _ O qq2 hc2910) e0 hml rfl pd12 rfl (W := 0) (argsL := [(.long u12)]) (rest := []) rfl rfl at_207 210 rfl ?_ (hc := hC) (hsl := hS)
                intro v2911 T2911 L2911 hq2911 X2911
                obtain ⟨rfl, e2911, rfl⟩ := hq2911
                have N2911 := Fr.app N0 (Fr.nil _)
                show Go _ _ _ _ (State.setTop _ (mkF _ 210 _ [(.int (-1))]))
                refine gIstore X2911 H at_210 (Ls' := #[vJ p0, .second, vI p1, vI p2, vI p3, vI 6, vR o6, vR o7, vI u8, vI u9, vJ u10, .second, vJ u12, .second, vI (-1), .unset]) rfl 212 rfl ?_
                refine gIconst X2911 H at_212 (z := (-1)) rfl 213 rfl ?_
                refine gIstore X2911 H at_213 (Ls' := #[vJ p0, .second, vI p1, vI p2, vI p3, vI 6, vR o6, vR o7, vI u8, vI u9, vJ u10, .second, vJ u12, .second, vI (-1), vI (-1)]) rfl 215 rfl ?_
                refine gIload X2911 H at_215 rfl 217 rfl ?_
                refine gIfN X2911 H at_217 (by decide) 220 rfl ?_
                refine gLload X2911 H at_220 rfl 222 rfl ?_
                refine gLload X2911 H at_222 rfl 224 rfl ?_
                refine g_lcmp X2911 H at_224 (z := (lcmpW u12 u10)) rfl 225 rfl ?_
                refine gIfY X2911 H at_225 ((if0 _ _).trans (feq (fun q => (off_ne0 hc2850) ((lw_eq _ _).mp q))).2) (by decide) 234 rfl ?_
                refine gIload X2911 H at_234 rfl 236 rfl ?_
                refine gIconst X2911 H at_236 (z := 1) rfl 237 rfl ?_
                refine gCmpN X2911 H at_237 (by decide) 240 rfl ?_
                refine gLload X2911 H at_240 rfl 242 rfl ?_
                refine gLload X2911 H at_242 rfl 244 rfl ?_
                refine gLconst X2911 H at_244 (z := 1) rfl 245 rfl ?_
                refine g_ladd X2911 H at_245 (z := (u10 + (1 : Int64))) rfl 246 rfl ?_
                refine g_lcmp X2911 H at_246 (z := (lcmpW u12 (u10 + (1 : Int64)))) rfl 247 rfl ?_
                refine gIfY X2911 H at_247 ((if0 _ _).trans (feq (fun q => (off_ne hc2860) ((lw_eq _ _).mp q))).2) (by decide) 256 rfl ?_
                refine gIload X2911 H at_256 rfl 258 rfl ?_
                refine gIconst X2911 H at_258 (z := 2) rfl 259 rfl ?_
                refine gCmpN X2911 H at_259 (by decide) 262 rfl ?_
                refine gLload X2911 H at_262 rfl 264 rfl ?_
                refine gLload X2911 H at_264 rfl 266 rfl ?_
                refine gLdc2 X2911 H hZ hown (hw _ wd149) at_266 269 rfl ?_
                refine g_ladd X2911 H at_269 (z := (u10 + (2 : Int64))) rfl 270 rfl ?_
                refine g_lcmp X2911 H at_270 (z := (lcmpW u12 (u10 + (2 : Int64)))) rfl 271 rfl ?_
                refine gIfY X2911 H at_271 ((if0 _ _).trans (feq (fun q => (off_ne hc2870) ((lw_eq _ _).mp q))).2) (by decide) 280 rfl ?_
                refine gIload X2911 H at_280 rfl 282 rfl ?_
                refine gIconst X2911 H at_282 (z := 3) rfl 283 rfl ?_
                refine gCmpN X2911 H at_283 (by decide) 286 rfl ?_
                refine gLload X2911 H at_286 rfl 288 rfl ?_
                refine gLload X2911 H at_288 rfl 290 rfl ?_
                refine gLdc2 X2911 H hZ hown (hw _ wd150) at_290 293 rfl ?_
                refine g_ladd X2911 H at_293 (z := (u10 + (3 : Int64))) rfl 294 rfl ?_
                refine g_lcmp X2911 H at_294 (z := (lcmpW u12 (u10 + (3 : Int64)))) rfl 295 rfl ?_
                refine gIfY X2911 H at_295 ((if0 _ _).trans (feq (fun q => (off_ne hc2880) ((lw_eq _ _).mp q))).2) (by decide) 304 rfl ?_
                refine gIload X2911 H at_304 rfl 306 rfl ?_
                refine gIconst X2911 H at_306 (z := 4) rfl 307 rfl ?_
                refine gCmpN X2911 H at_307 (by decide) 310 rfl ?_
                refine gLload X2911 H at_310 rfl 312 rfl ?_
                refine gLload X2911 H at_312 rfl 314 rfl ?_
                refine gLdc2 X2911 H hZ hown (hw _ wd151) at_314 317 rfl ?_
                refine g_ladd X2911 H at_317 (z := (u10 + (4 : Int64))) rfl 318 rfl ?_
                refine g_lcmp X2911 H at_318 (z := (lcmpW u12 (u10 + (4 : Int64)))) rfl 319 rfl ?_
                refine gIfY X2911 H at_319 ((if0 _ _).trans (feq (fun q => (off_ne hc2890) ((lw_eq _ _).mp q))).2) (by decide) 328 rfl ?_
                refine gIload X2911 H at_328 rfl 330 rfl ?_
                refine gIconst X2911 H at_330 (z := 5) rfl 331 rfl ?_
                refine gCmpN X2911 H at_331 (by decide) 334 rfl ?_
                refine gLload X2911 H at_334 rfl 336 rfl ?_
                refine gLload X2911 H at_336 rfl 338 rfl ?_
                refine gLdc2 X2911 H hZ hown (hw _ wd152) at_338 341 rfl ?_
                refine g_ladd X2911 H at_341 (z := (u10 + (5 : Int64))) rfl 342 rfl ?_
                refine g_lcmp X2911 H at_342 (z := (lcmpW u12 (u10 + (5 : Int64)))) rfl 343 rfl ?_
                refine gIfY X2911 H at_343 ((if0 _ _).trans (feq (fun q => (off_ne hc2900) ((lw_eq _ _).mp q))).2) (by decide) 349 rfl ?_
                refine gIload X2911 H at_349 rfl 351 rfl ?_
                refine gIload X2911 H at_351 rfl 353 rfl ?_
                refine gCmpN X2911 H at_353 (by decide) 356 rfl ?_
                refine gIconst X2911 H at_356 (z := 1) rfl 357 rfl ?_
                refine gGoto X2911 H at_357 (by decide) 361 rfl ?_
                exact gRetN X2911 H hlk hret (t := .boolean) (by simp) at_361 e2911 ⟨rfl, N2911⟩ hC hS
              · refine gVirt X0 H hZ hown (hw _ wd100) (hw _ wd101) (hw _ wd103) (hw _ wd102) (by decide) qq0 (hw _ wd104) (hw _ wd66) (rm2918_14 B o7 u12 u10 _ O qq2 qq1 hc2910 (off_no (k := 6) hc2910 (by decide) (of6 (fun q => hc2850 (Int64.toInt_inj.mp (q.trans (by decide)))) (fun q => hc2860 (Int64.toInt_inj.mp (q.trans (by decide)))) (fun q => hc2870 (Int64.toInt_inj.mp (q.trans (by decide)))) (fun q => hc2880 (Int64.toInt_inj.mp (q.trans (by decide)))) (fun q => hc2890 (Int64.toInt_inj.mp (q.trans (by decide)))) (fun q => hc2900 (Int64.toInt_inj.mp (q.trans (by decide))))))) e0 hml rfl pd12 rfl (W := 0) (argsL := [(.long u12)]) (rest := []) rfl rfl at_207 210 rfl ?_ (hc := hC) (hsl := hS)
                intro v2919 T2919 L2919 hq2919 X2919
                obtain ⟨rfl, e2919, rfl⟩ := hq2919
                have N2919 := Fr.app N0 (Fr.nil _)
                show Go _ _ _ _ (State.setTop _ (mkF _ 210 _ [(.int (-1))]))
                refine gIstore X2919 H at_210 (Ls' := #[vJ p0, .second, vI p1, vI p2, vI p3, vI 6, vR o6, vR o7, vI u8, vI u9, vJ u10, .second, vJ u12, .second, vI (-1), .unset]) rfl 212 rfl ?_
                refine gIconst X2919 H at_212 (z := (-1)) rfl 213 rfl ?_
                refine gIstore X2919 H at_213 (Ls' := #[vJ p0, .second, vI p1, vI p2, vI p3, vI 6, vR o6, vR o7, vI u8, vI u9, vJ u10, .second, vJ u12, .second, vI (-1), vI (-1)]) rfl 215 rfl ?_
                refine gIload X2919 H at_215 rfl 217 rfl ?_
                refine gIfN X2919 H at_217 (by decide) 220 rfl ?_
                refine gLload X2919 H at_220 rfl 222 rfl ?_
                refine gLload X2919 H at_222 rfl 224 rfl ?_
                refine g_lcmp X2919 H at_224 (z := (lcmpW u12 u10)) rfl 225 rfl ?_
                refine gIfY X2919 H at_225 ((if0 _ _).trans (feq (fun q => (off_ne0 hc2850) ((lw_eq _ _).mp q))).2) (by decide) 234 rfl ?_
                refine gIload X2919 H at_234 rfl 236 rfl ?_
                refine gIconst X2919 H at_236 (z := 1) rfl 237 rfl ?_
                refine gCmpN X2919 H at_237 (by decide) 240 rfl ?_
                refine gLload X2919 H at_240 rfl 242 rfl ?_
                refine gLload X2919 H at_242 rfl 244 rfl ?_
                refine gLconst X2919 H at_244 (z := 1) rfl 245 rfl ?_
                refine g_ladd X2919 H at_245 (z := (u10 + (1 : Int64))) rfl 246 rfl ?_
                refine g_lcmp X2919 H at_246 (z := (lcmpW u12 (u10 + (1 : Int64)))) rfl 247 rfl ?_
                refine gIfY X2919 H at_247 ((if0 _ _).trans (feq (fun q => (off_ne hc2860) ((lw_eq _ _).mp q))).2) (by decide) 256 rfl ?_
                refine gIload X2919 H at_256 rfl 258 rfl ?_
                refine gIconst X2919 H at_258 (z := 2) rfl 259 rfl ?_
                refine gCmpN X2919 H at_259 (by decide) 262 rfl ?_
                refine gLload X2919 H at_262 rfl 264 rfl ?_
                refine gLload X2919 H at_264 rfl 266 rfl ?_
                refine gLdc2 X2919 H hZ hown (hw _ wd149) at_266 269 rfl ?_
                refine g_ladd X2919 H at_269 (z := (u10 + (2 : Int64))) rfl 270 rfl ?_
                refine g_lcmp X2919 H at_270 (z := (lcmpW u12 (u10 + (2 : Int64)))) rfl 271 rfl ?_
                refine gIfY X2919 H at_271 ((if0 _ _).trans (feq (fun q => (off_ne hc2870) ((lw_eq _ _).mp q))).2) (by decide) 280 rfl ?_
                refine gIload X2919 H at_280 rfl 282 rfl ?_
                refine gIconst X2919 H at_282 (z := 3) rfl 283 rfl ?_
                refine gCmpN X2919 H at_283 (by decide) 286 rfl ?_
                refine gLload X2919 H at_286 rfl 288 rfl ?_
                refine gLload X2919 H at_288 rfl 290 rfl ?_
                refine gLdc2 X2919 H hZ hown (hw _ wd150) at_290 293 rfl ?_
                refine g_ladd X2919 H at_293 (z := (u10 + (3 : Int64))) rfl 294 rfl ?_
                refine g_lcmp X2919 H at_294 (z := (lcmpW u12 (u10 + (3 : Int64)))) rfl 295 rfl ?_
                refine gIfY X2919 H at_295 ((if0 _ _).trans (feq (fun q => (off_ne hc2880) ((lw_eq _ _).mp q))).2) (by decide) 304 rfl ?_
                refine gIload X2919 H at_304 rfl 306 rfl ?_
                refine gIconst X2919 H at_306 (z := 4) rfl 307 rfl ?_
                refine gCmpN X2919 H at_307 (by decide) 310 rfl ?_
                refine gLload X2919 H at_310 rfl 312 rfl ?_
                refine gLload X2919 H at_312 rfl 314 rfl ?_
                refine gLdc2 X2919 H hZ hown (hw _ wd151) at_314 317 rfl ?_
                refine g_ladd X2919 H at_317 (z := (u10 + (4 : Int64))) rfl 318 rfl ?_
                refine g_lcmp X2919 H at_318 (z := (lcmpW u12 (u10 + (4 : Int64)))) rfl 319 rfl ?_
                refine gIfY X2919 H at_319 ((if0 _ _).trans (feq (fun q => (off_ne hc2890) ((lw_eq _ _).mp q))).2) (by decide) 328 rfl ?_
                refine gIload X2919 H at_328 rfl 330 rfl ?_
                refine gIconst X2919 H at_330 (z := 5) rfl 331 rfl ?_
                refine gCmpN X2919 H at_331 (by decide) 334 rfl ?_
                refine gLload X2919 H at_334 rfl 336 rfl ?_
                refine gLload X2919 H at_336 rfl 338 rfl ?_
                refine gLdc2 X2919 H hZ hown (hw _ wd152) at_338 341 rfl ?_
                refine g_ladd X2919 H at_341 (z := (u10 + (5 : Int64))) rfl 342 rfl ?_
                refine g_lcmp X2919 H at_342 (z := (lcmpW u12 (u10 + (5 : Int64)))) rfl 343 rfl ?_
                refine gIfY X2919 H at_343 ((if0 _ _).trans (feq (fun q => (off_ne hc2900) ((lw_eq _ _).mp q))).2) (by decide) 349 rfl ?_
                refine gIload X2919 H at_349 rfl 351 rfl ?_
                refine gIload X2919 H at_351 rfl 353 rfl ?_
                refine gCmpN X2919 H at_353 (by decide) 356 rfl ?_
                refine gIconst X2919 H at_356 (z := 1) rfl 357 rfl ?_
                refine gGoto X2919 H at_357 (by decide) 361 rfl ?_
                exact gRetN X2919 H hlk hret (t := .boolean) (by simp) at_361 e2919 ⟨rfl, N2919⟩ hC hS
theorem tail2845_176 (B : Bg Z a0 wE0 w_cacheI k_wE0 cl_cacheI) (p0 : Int64) (p1 : Int32) (p2 : Int32) (p3 : Int32) (o6 : Addr) (o7 : Addr) (u8 : Int32) (u9 : Int32) (u10 : Int64) {p : Program} {e : Env} {s : State} {m : MethodId} {below : List Frame} {meth : Method} {c : Code} {T0 : State} {locs : List Loc} {cells slots : Nat} {h : Heap} (X0 : Stand p l e room_1 s m #[(.long p0), (.int p1), (.int p2), (.int p3)] below meth c T0 locs cells slots) (H : p.tables.exec = Jvm.exec ∧ c.code = code) (hml : c.maxLocals = maxLocals) (hZ : Z.Warmed39 s.vm) (hown : s.vm.findClass x.cls = some m.cls) (hnm : meth.name = x.name) (hret : meth.sig.returnType = ret) (hlk : meth.locks = false) (N0 : Fr Z.heap.size locs) (hC : cells ≤ room_1.cells) (hS : slots ≤ room_1.slots) (e0 : T0.heap = h) (O : Ext Z.heap h) (qq0 : Exa Z h o7 cs3) (qq1 : Fld Z h o7 cs3 "size" "I" (.int 6)) (qq2 : Fld Z h o7 cs3 "firstNumber" "J" (.long u10)) :
    Go p e below (EndK s below (fun v h' L => v = some (.int 1) ∧ Fr Z.heap.size L) room_1.cells room_1.slots) (T0.setTop (mkF m 176 #[vJ p0, .second, vI p1, vI p2, vI p3, vI 6, vR o6, vR o7, vI u8, vI u9, vJ u10, .second, .unset, .unset, .unset, .unset] [])) := by
  have hw := B.1
  obtain ⟨S_wE0, V_wE0, S_high, S_cacheI, B_cacheI⟩ := B.2
  have M0 := Nat.le_refl h.size
  refine gIloadN X0 H at_176 rfl 177 rfl ?_
  refine gBipush X0 H at_177 (z := 8) rfl 179 rfl ?_
  refine g_iand X0 H at_179 (z := (p1 &&& (8 : Int32))) rfl 180 rfl ?_
  by_cases hc2846 : (p1 &&& (8 : Int32)) = (0 : Int32)
  · refine gIfY X0 H at_180 ((if0 _ _).trans (teq hc2846).1) (by decide) 189 rfl ?_
    refine gLload X0 H at_189 rfl 191 rfl ?_
    refine gIloadN X0 H at_191 rfl 192 rfl ?_
    refine gIconst X0 H at_192 (z := 4) rfl 193 rfl ?_
    refine g_iushr X0 H at_193 (z := ((p1.toUInt32 >>> ((4 : Int32) &&& 31).toUInt32).toInt32)) rfl 194 rfl ?_
    refine gBipush X0 H at_194 (z := 15) rfl 196 rfl ?_
    refine g_iand X0 H at_196 (z := (((p1.toUInt32 >>> ((4 : Int32) &&& 31).toUInt32).toInt32) &&& (15 : Int32))) rfl 197 rfl ?_
    refine gIconst X0 H at_197 (z := 4) rfl 198 rfl ?_
    refine g_isub X0 H at_198 (z := ((((p1.toUInt32 >>> ((4 : Int32) &&& 31).toUInt32).toInt32) &&& (15 : Int32)) - (4 : Int32))) rfl 199 rfl ?_
    refine g_i2l X0 H at_199 (z := (((((p1.toUInt32 >>> ((4 : Int32) &&& 31).toUInt32).toInt32) &&& (15 : Int32)) - (4 : Int32)).toInt64)) rfl 200 rfl ?_
    refine g_ladd X0 H at_200 (z := (u10 + (((((p1.toUInt32 >>> ((4 : Int32) &&& 31).toUInt32).toInt32) &&& (15 : Int32)) - (4 : Int32)).toInt64))) rfl 201 rfl ?_
    refine gLstore X0 H at_201 (Ls' := #[vJ p0, .second, vI p1, vI p2, vI p3, vI 6, vR o6, vR o7, vI u8, vI u9, vJ u10, .second, vJ (u10 + (((((p1.toUInt32 >>> ((4 : Int32) &&& 31).toUInt32).toInt32) &&& (15 : Int32)) - (4 : Int32)).toInt64)), .second, .unset, .unset]) rfl 203 rfl ?_
    exact tail2847_203 B p0 p1 p2 p3 o6 o7 u8 u9 u10 ((u10 + (((((p1.toUInt32 >>> ((4 : Int32) &&& 31).toUInt32).toInt32) &&& (15 : Int32)) - (4 : Int32)).toInt64))) X0 H hml hZ hown hnm hret hlk N0 hC hS e0 O qq0 qq1 qq2
  · refine gIfN X0 H at_180 ((if0 _ _).trans (feq hc2846).1) 183 rfl ?_
    refine gLloadN X0 H at_183 rfl 184 rfl ?_
    refine gLstore X0 H at_184 (Ls' := #[vJ p0, .second, vI p1, vI p2, vI p3, vI 6, vR o6, vR o7, vI u8, vI u9, vJ u10, .second, vJ p0, .second, .unset, .unset]) rfl 186 rfl ?_
    refine gGoto X0 H at_186 (by decide) 203 rfl ?_
    exact tail2847_203 B p0 p1 p2 p3 o6 o7 u8 u9 u10 p0 X0 H hml hZ hown hnm hret hlk N0 hC hS e0 O qq0 qq1 qq2
theorem rm2965_16 (B : Bg Z a0 wE0 w_cacheI k_wE0 cl_cacheI) (ro0 ro1 : Addr) (ck2 : ClassId) (ro3 ro4 ro5 : Addr) (h : Heap) (O : Ext Z.heap h) (q2925 : Fld Z h ro0 cs3 "size" "I" (.int 3)) (q2927 : Exa Z h ro0 cs3) (q2928 : Fld Z h ro0 cs3 "buffer" cs2 (.ref ro1)) (q2929 : Fld Z h ro0 cs3 "head" "I" (.int 0)) (q2930 : Arl Z h ro1 (3 : Int32)) (q2931 : Arv Z h ro1 ck2 (.object "java/lang/Object") (3 : Int32) [(.ref ro3), (.ref ro4), (.ref ro5)] .null) (q2936 : Z.heap.size ≤ ro1) (q2939 : ro0 ≠ ro1) (q2944 : Z.heap.size ≤ ro0) (q2949 : Fld Z h ro0 cs3 "firstNumber" "J" (.long 0)) (q2959 : Fld Z h ro0 cs3 "serial" "I" (.int 1)) :
    Con l Z yM16 prog_50_method_10_code 2 (some (.object "java/lang/Object")) ({ frames := 2, cells := 0, slots := 0, locals := 28 } : Room) #[(.ref ro0)] h (fun v h' L => v = some (.ref ro3) ∧ Fr Z.heap.size L ∧ Keep h h' [ro1, ro0] ∧ Fld Z h' ro0 cs3 "size" "I" (.int 2) ∧ Exa Z h' ro0 cs3 ∧ Fld Z h' ro0 cs3 "buffer" cs2 (.ref ro1) ∧ Fld Z h' ro0 cs3 "head" "I" (.int 1) ∧ Arv Z h' ro1 ck2 (.object "java/lang/Object") (3 : Int32) [.null, (.ref ro4), (.ref ro5)] .null ∧ Fld Z h' ro0 cs3 "firstNumber" "J" (.long 1) ∧ Fld Z h' ro0 cs3 "serial" "I" (.int 1)) := by
  have hw := B.1
  refine Con.of (plainFor_of_name pn16) (Ls := #[vR ro0, .unset]) (fun _ => rfl) ?_
  intro p e s m below meth c T0 X0 H hml hZ hown hnm hret hlk e0
  have N0 := Fr.nil Z.heap.size
  refine gAloadN X0 H d16_0 rfl rfl 1 rfl ?_
  refine gGetF X0 H hZ hown (hw _ wd98) Via.refl e0 q2925 d16_1 4 rfl ?_
  intro T2926 X2926 e2926
  refine gIfY X2926 H d16_4 (by decide) (by decide) 9 rfl ?_
  refine gAloadN X2926 H d16_9 rfl rfl 10 rfl ?_
  refine gIconst X2926 H d16_10 (z := 0) rfl 11 rfl ?_
  refine gVirt X2926 H hZ hown (hw _ wd116) (hw _ wd117) (hw _ wd119) (hw _ wd118) (by decide) q2927 (hw _ wd120) (hw _ wd66) (rm2437_17 B ro0 ro1 ck2 ro3 ro4 ro5 _ O q2928 q2927 q2929 q2930 q2931) e2926 hml rfl pd11 rfl (W := 0) (argsL := [(.int 0)]) (rest := []) rfl rfl d16_11 14 rfl ?_
  intro v2932 T2932 L2932 hq2932 X2932
  obtain ⟨rfl, e2932, rfl⟩ := hq2932
  have N2932 := Fr.app N0 (Fr.nil _)
  show Go _ _ _ _ (State.setTop _ (mkF _ 14 _ [(.ref ro3)]))
  refine gAstoreN X2932 H d16_14 rfl (Ls' := #[vR ro0, vR ro3]) rfl 15 rfl ?_
  refine gAloadN X2932 H d16_15 rfl rfl 16 rfl ?_
  refine gGetF X2932 H hZ hown (hw _ wd96) Via.refl e2932 q2928 d16_16 19 rfl ?_
  intro T2933 X2933 e2933
  refine gAloadN X2933 H d16_19 rfl rfl 20 rfl ?_
  refine gGetF X2933 H hZ hown (hw _ wd125) Via.refl e2933 q2929 d16_20 23 rfl ?_
  intro T2934 X2934 e2934
  refine gNull X2934 H d16_23 24 rfl ?_
  refine gAastore X2934 H hZ e2934 rfl (Or.inl rfl) q2931 ⟨by decide, by decide⟩ (i := 0) rfl (Nat.le_of_ble_eq_true rfl) (vs' := [.null, (.ref ro4), (.ref ro5)]) rfl d16_24 25 rfl ?_
  intro T2935 h2935 X2935 e2935 W2935 V2935
  have O2935 := extW O W2935 q2936
  have N2935 := Fr.snoc X2935 N2932 q2936
  refine gAloadN X2935 H d16_25 rfl rfl 26 rfl ?_
  refine gAloadN X2935 H d16_26 rfl rfl 27 rfl ?_
  refine gIconst X2935 H d16_27 (z := 1) rfl 28 rfl ?_
  have c2937 := (q2927.wr W2935)
  have c2940 := (q2929.other W2935 (Or.inl q2939))
  have c2941 := (q2928.other W2935 (Or.inl q2939))
  refine gPrivate X2935 H hZ hown (hw _ wd121) (hw _ wd122) (hw _ wd123) (hw _ wd65) (by decide) c2937 (hw _ wd124) (hw _ wd66) (rm2460_18 B ro0 ro1 _ O2935 c2940 c2941 (Arv.arl V2935)) e2935 hml rfl pd6 rfl (W := 1) (argsL := [(.int 1)]) (rest := [(.ref ro0)]) rfl rfl d16_28 31 rfl ?_
  intro v2942 T2942 L2942 hq2942 X2942
  obtain ⟨rfl, e2942, rfl⟩ := hq2942
  have N2942 := Fr.app N2935 (Fr.nil _)
  show Go _ _ _ _ (State.setTop _ (mkF _ 31 _ [(.int 1), (.ref ro0)]))
  refine gPutF X2942 H hZ hown (hw _ wd125) Via.refl e2942 c2940 c2937 (Or.inl (hw _ wd126)) (hw _ wd65) (ty := .int) (by decide) (v' := (.int 1)) rfl rfl d16_31 34 rfl ?_
  intro T2943 h2943 X2943 e2943 W2943 F2943
  have O2943 := extW O2935 W2943 q2944
  have N2943 := Fr.snoc X2943 N2942 q2944
  refine gAloadN X2943 H d16_34 rfl rfl 35 rfl ?_
  refine gDup X2943 H d16_35 rfl 36 rfl ?_
  have c2945 := ((q2925.other W2935 (Or.inl q2939)).other W2943 (Or.inr (sn16 hw)))
  refine gGetF X2943 H hZ hown (hw _ wd98) Via.refl e2943 c2945 d16_36 39 rfl ?_
  intro T2946 X2946 e2946
  refine gIconst X2946 H d16_39 (z := 1) rfl 40 rfl ?_
  refine g_isub X2946 H d16_40 (z := 2) (by decide) 41 rfl ?_
  have c2948 := (c2937.wr W2943)
  refine gPutF X2946 H hZ hown (hw _ wd98) Via.refl e2946 c2945 c2948 (Or.inl (hw _ wd99)) (hw _ wd65) (ty := .int) (by decide) (v' := (.int 2)) rfl rfl d16_41 44 rfl ?_
  intro T2947 h2947 X2947 e2947 W2947 F2947
  have O2947 := extW O2943 W2947 q2944
  have N2947 := Fr.snoc X2947 N2943 q2944
  refine gAloadN X2947 H d16_44 rfl rfl 45 rfl ?_
  refine gDup X2947 H d16_45 rfl 46 rfl ?_
  have c2950 := (((q2949.other W2935 (Or.inl q2939)).other W2943 (Or.inr (sn17 hw))).other W2947 (Or.inr (sn12 hw)))
  refine gGetF X2947 H hZ hown (hw _ wd105) Via.refl e2947 c2950 d16_46 49 rfl ?_
  intro T2951 X2951 e2951
  refine gLconst X2951 H d16_49 (z := 1) rfl 50 rfl ?_
  refine g_ladd X2951 H d16_50 (z := 1) (by decide) 51 rfl ?_
  have c2953 := (c2948.wr W2947)
  refine gPutF X2951 H hZ hown (hw _ wd105) Via.refl e2951 c2950 c2953 (Or.inl (hw _ wd106)) (hw _ wd65) (ty := .long) (by decide) (v' := (.long 1)) rfl rfl d16_51 54 rfl ?_
  intro T2952 h2952 X2952 e2952 W2952 F2952
  have O2952 := extW O2947 W2952 q2944
  have N2952 := Fr.snoc X2952 N2947 q2944
  refine gAloadN X2952 H d16_54 rfl rfl 55 rfl ?_
  have c2954 := (((V2935.other W2943 (Ne.symm q2939)).other W2947 (Ne.symm q2939)).other W2952 (Ne.symm q2939))
  have c2955 := (F2947.other W2952 (Or.inr (sn21 hw)))
  have c2956 := (c2953.wr W2952)
  have c2957 := (((c2941.other W2943 (Or.inr (sn18 hw))).other W2947 (Or.inr (sn9 hw))).other W2952 (Or.inr (sn19 hw)))
  have c2958 := ((F2943.other W2947 (Or.inr (sn15 hw))).other W2952 (Or.inr (sn20 hw)))
  have c2960 := ((((q2959.other W2935 (Or.inl q2939)).other W2943 (Or.inr (sn22 hw))).other W2947 (Or.inr (sn8 hw))).other W2952 (Or.inr (sn23 hw)))
  have K_2961 := (Keep.refl h [ro1, ro0]).wr W2935 (Or.inl (List.mem_of_getElem? (i := 0) rfl))
  have K_2962 := K_2961.wr W2943 (Or.inl (List.mem_of_getElem? (i := 1) rfl))
  have K_2963 := K_2962.wr W2947 (Or.inl (List.mem_of_getElem? (i := 1) rfl))
  have K_2964 := K_2963.wr W2952 (Or.inl (List.mem_of_getElem? (i := 1) rfl))
  exact gRetA X2952 H hlk hret rfl rfl rfl d16_55 e2952 ⟨rfl, N2952, K_2964, c2955, c2956, c2957, c2958, c2954, F2952, c2960⟩
theorem rm2977_15 (B : Bg Z a0 wE0 w_cacheI k_wE0 cl_cacheI) (ro0 ro1 : Addr) (ck2 : ClassId) (ro3 ro4 ro5 : Addr) (h : Heap) (O : Ext Z.heap h) (q2924 : Exa Z h ro0 cs3) (q2938 : ro0 ≠ ro1) (q2966 : Fld Z h ro0 cs3 "size" "I" (.int 3)) (q2967 : Fld Z h ro0 cs3 "buffer" cs2 (.ref ro1)) (q2968 : Fld Z h ro0 cs3 "head" "I" (.int 0)) (q2969 : Arl Z h ro1 (3 : Int32)) (q2970 : Arv Z h ro1 ck2 (.object "java/lang/Object") (3 : Int32) [(.ref ro3), (.ref ro4), (.ref ro5)] .null) (q2971 : Z.heap.size ≤ ro1) (q2972 : Z.heap.size ≤ ro0) (q2973 : Fld Z h ro0 cs3 "firstNumber" "J" (.long 0)) (q2974 : Fld Z h ro0 cs3 "serial" "I" (.int 1)) :
    Con l Z yM15 method_2_code 2 none ({ frames := 3, cells := 0, slots := 0, locals := 41 } : Room) #[(.ref ro0), (.int 1)] h (fun v h' L => v = none ∧ Fr Z.heap.size L ∧ Keep h h' [ro1, ro0] ∧ Exa Z h' ro0 cs3 ∧ Fld Z h' ro0 cs3 "size" "I" (.int 2) ∧ Fld Z h' ro0 cs3 "buffer" cs2 (.ref ro1) ∧ Fld Z h' ro0 cs3 "head" "I" (.int 1) ∧ Arv Z h' ro1 ck2 (.object "java/lang/Object") (3 : Int32) [.null, (.ref ro4), (.ref ro5)] .null ∧ Fld Z h' ro0 cs3 "firstNumber" "J" (.long 1) ∧ Fld Z h' ro0 cs3 "serial" "I" (.int 1)) := by
  have hw := B.1
  refine Con.of (plainFor_of_name pn15) (Ls := #[vR ro0, vI 1]) (fun _ => rfl) ?_
  intro p e s m below meth c T0 X0 H hml hZ hown hnm hret hlk e0
  have N0 := Fr.nil Z.heap.size
  refine gIloadN X0 H d15_0 rfl 1 rfl ?_
  refine gIfN X0 H d15_1 (by decide) 4 rfl ?_
  refine gAloadN X0 H d15_4 rfl rfl 5 rfl ?_
  refine gVirt X0 H hZ hown (hw _ wd111) (hw _ wd112) (hw _ wd114) (hw _ wd113) (by decide) q2924 (hw _ wd115) (hw _ wd66) (rm2965_16 B ro0 ro1 ck2 ro3 ro4 ro5 _ O q2966 q2924 q2967 q2968 q2969 q2970 q2971 q2938 q2972 q2973 q2974) e0 hml rfl pd13 rfl (W := 0) (argsL := []) (rest := []) rfl rfl d15_5 8 rfl ?_
  intro v2975 T2975 L2975 hq2975 X2975
  obtain ⟨rfl, N2975q, K2975, f2975_0, f2975_1, f2975_2, f2975_3, f2975_4, f2975_5, f2975_6⟩ := hq2975
  have O2975 := extK O K2975 (allS q2971 (allS q2972 all0))
  have N2975 := Fr.app N0 N2975q
  show Go _ _ _ _ (State.setTop _ (mkF _ 8 _ [(.ref ro3)]))
  refine gPop X2975 H d15_8 rfl 9 rfl ?_
  refine gGoto X2975 H d15_9 (by decide) 21 rfl ?_
  have K_2976 := (Keep.refl h [ro1, ro0]).trans K2975 (allS (Or.inl (List.mem_of_getElem? (i := 0) rfl)) (allS (Or.inl (List.mem_of_getElem? (i := 1) rfl)) all0))
  exact gRetV X2975 H hlk hret d15_21 rfl ⟨rfl, N2975, K_2976, f2975_1, f2975_0, f2975_2, f2975_3, f2975_4, f2975_5, f2975_6⟩
theorem rm2993_18 (B : Bg Z a0 wE0 w_cacheI k_wE0 cl_cacheI) (ro0 ro1 : Addr) (h : Heap) (O : Ext Z.heap h) (q2987 : Fld Z h ro0 cs3 "head" "I" (.int 1)) (q2989 : Fld Z h ro0 cs3 "buffer" cs2 (.ref ro1)) (q2992 : Arl Z h ro1 (3 : Int32)) :
    Con l Z yM18 prog_50_method_12_code 3 (some .int) ({ frames := 0, cells := 0, slots := 0, locals := 0 } : Room) #[(.ref ro0), (.int 0)] h (fun v h' L => v = some (.int 1) ∧ h' = h ∧ L = []) := by
  have hw := B.1
  refine Con.of (plainFor_of_name pn18) (Ls := #[vR ro0, vI 0, .unset]) (fun _ => rfl) ?_
  intro p e s m below meth c T0 X0 H hml hZ hown hnm hret hlk e0
  refine gAloadN X0 H d18_0 rfl rfl 1 rfl ?_
  refine gGetF X0 H hZ hown (hw _ wd125) Via.refl e0 q2987 d18_1 4 rfl ?_
  intro T2988 X2988 e2988
  refine gIloadN X2988 H d18_4 rfl 5 rfl ?_
  refine g_iadd X2988 H d18_5 (z := 1) (by decide) 6 rfl ?_
  refine gIstoreN X2988 H d18_6 (Ls' := #[vR ro0, vI 0, vI 1]) rfl 7 rfl ?_
  refine gIloadN X2988 H d18_7 rfl 8 rfl ?_
  refine gAloadN X2988 H d18_8 rfl rfl 9 rfl ?_
  refine gGetF X2988 H hZ hown (hw _ wd96) Via.refl e2988 q2989 d18_9 12 rfl ?_
  intro T2990 X2990 e2990
  refine gLen X2990 H hZ e2990 q2992 d18_12 13 rfl ?_
  refine gCmpN X2990 H d18_13 (by decide) 16 rfl ?_
  refine gIloadN X2990 H d18_16 rfl 17 rfl ?_
  refine gGoto X2990 H d18_17 (by decide) 27 rfl ?_
  exact gRetI X2990 H hlk hret d18_27 e2990 ⟨rfl, rfl, rfl⟩
theorem rm2999_17 (B : Bg Z a0 wE0 w_cacheI k_wE0 cl_cacheI) (ro0 ro1 : Addr) (ck2 : ClassId) (ro3 ro4 : Addr) (h : Heap) (O : Ext Z.heap h) (q2984 : Fld Z h ro0 cs3 "buffer" cs2 (.ref ro1)) (q2986 : Exa Z h ro0 cs3) (q2994 : Fld Z h ro0 cs3 "head" "I" (.int 1)) (q2995 : Arl Z h ro1 (3 : Int32)) (q2998 : Arv Z h ro1 ck2 (.object "java/lang/Object") (3 : Int32) [.null, (.ref ro3), (.ref ro4)] .null) :
    Con l Z yM17 prog_50_method_4_code 2 (some (.object "java/lang/Object")) ({ frames := 1, cells := 0, slots := 0, locals := 15 } : Room) #[(.ref ro0), (.int 0)] h (fun v h' L => v = some (.ref ro3) ∧ h' = h ∧ L = []) := by
  have hw := B.1
  refine Con.of (plainFor_of_name pn17) (Ls := #[vR ro0, vI 0]) (fun _ => rfl) ?_
  intro p e s m below meth c T0 X0 H hml hZ hown hnm hret hlk e0
  have N0 := Fr.nil Z.heap.size
  refine gAloadN X0 H d17_0 rfl rfl 1 rfl ?_
  refine gGetF X0 H hZ hown (hw _ wd96) Via.refl e0 q2984 d17_1 4 rfl ?_
  intro T2985 X2985 e2985
  refine gAloadN X2985 H d17_4 rfl rfl 5 rfl ?_
  refine gIloadN X2985 H d17_5 rfl 6 rfl ?_
  refine gPrivate X2985 H hZ hown (hw _ wd121) (hw _ wd122) (hw _ wd123) (hw _ wd65) (by decide) q2986 (hw _ wd124) (hw _ wd66) (rm2993_18 B ro0 ro1 _ O q2994 q2984 q2995) e2985 hml rfl pd6 rfl (W := 1) (argsL := [(.int 0)]) (rest := [(.ref ro1)]) rfl rfl d17_6 9 rfl ?_
  intro v2996 T2996 L2996 hq2996 X2996
  obtain ⟨rfl, e2996, rfl⟩ := hq2996
  have N2996 := Fr.app N0 (Fr.nil _)
  show Go _ _ _ _ (State.setTop _ (mkF _ 9 _ [(.int 1), (.ref ro1)]))
  refine gAaload X2996 H hZ e2996 rfl q2998 ⟨by decide, by decide⟩ (v := (.ref ro3)) rfl d17_9 10 rfl ?_
  exact gRetA X2996 H hlk hret rfl rfl rfl d17_10 e2996 ⟨rfl, rfl, rfl⟩
theorem rm3016_18 (B : Bg Z a0 wE0 w_cacheI k_wE0 cl_cacheI) (ro0 ro1 : Addr) (h : Heap) (O : Ext Z.heap h) (q3010 : Fld Z h ro0 cs3 "head" "I" (.int 1)) (q3012 : Fld Z h ro0 cs3 "buffer" cs2 (.ref ro1)) (q3015 : Arl Z h ro1 (3 : Int32)) :
    Con l Z yM18 prog_50_method_12_code 3 (some .int) ({ frames := 0, cells := 0, slots := 0, locals := 0 } : Room) #[(.ref ro0), (.int 1)] h (fun v h' L => v = some (.int 2) ∧ h' = h ∧ L = []) := by
  have hw := B.1
  refine Con.of (plainFor_of_name pn18) (Ls := #[vR ro0, vI 1, .unset]) (fun _ => rfl) ?_
  intro p e s m below meth c T0 X0 H hml hZ hown hnm hret hlk e0
  refine gAloadN X0 H d18_0 rfl rfl 1 rfl ?_
  refine gGetF X0 H hZ hown (hw _ wd125) Via.refl e0 q3010 d18_1 4 rfl ?_
  intro T3011 X3011 e3011
  refine gIloadN X3011 H d18_4 rfl 5 rfl ?_
  refine g_iadd X3011 H d18_5 (z := 2) (by decide) 6 rfl ?_
  refine gIstoreN X3011 H d18_6 (Ls' := #[vR ro0, vI 1, vI 2]) rfl 7 rfl ?_
  refine gIloadN X3011 H d18_7 rfl 8 rfl ?_
  refine gAloadN X3011 H d18_8 rfl rfl 9 rfl ?_
  refine gGetF X3011 H hZ hown (hw _ wd96) Via.refl e3011 q3012 d18_9 12 rfl ?_
  intro T3013 X3013 e3013
  refine gLen X3013 H hZ e3013 q3015 d18_12 13 rfl ?_
  refine gCmpN X3013 H d18_13 (by decide) 16 rfl ?_
  refine gIloadN X3013 H d18_16 rfl 17 rfl ?_
  refine gGoto X3013 H d18_17 (by decide) 27 rfl ?_
  exact gRetI X3013 H hlk hret d18_27 e3013 ⟨rfl, rfl, rfl⟩
theorem rm3044_16 (B : Bg Z a0 wE0 w_cacheI k_wE0 cl_cacheI) (ro0 ro1 : Addr) (ck2 : ClassId) (ro3 ro4 : Addr) (h : Heap) (O : Ext Z.heap h) (q2981 : Fld Z h ro0 cs3 "size" "I" (.int 2)) (q2983 : Exa Z h ro0 cs3) (q3000 : Fld Z h ro0 cs3 "buffer" cs2 (.ref ro1)) (q3001 : Fld Z h ro0 cs3 "head" "I" (.int 1)) (q3002 : Arl Z h ro1 (3 : Int32)) (q3003 : Arv Z h ro1 ck2 (.object "java/lang/Object") (3 : Int32) [.null, (.ref ro3), (.ref ro4)] .null) (q3008 : Z.heap.size ≤ ro1) (q3018 : ro0 ≠ ro1) (q3023 : Z.heap.size ≤ ro0) (q3028 : Fld Z h ro0 cs3 "firstNumber" "J" (.long 1)) (q3038 : Fld Z h ro0 cs3 "serial" "I" (.int 1)) :
    Con l Z yM16 prog_50_method_10_code 2 (some (.object "java/lang/Object")) ({ frames := 2, cells := 0, slots := 0, locals := 28 } : Room) #[(.ref ro0)] h (fun v h' L => v = some (.ref ro3) ∧ Fr Z.heap.size L ∧ Keep h h' [ro1, ro0] ∧ Fld Z h' ro0 cs3 "size" "I" (.int 1) ∧ Exa Z h' ro0 cs3 ∧ Fld Z h' ro0 cs3 "buffer" cs2 (.ref ro1) ∧ Fld Z h' ro0 cs3 "head" "I" (.int 2) ∧ Arv Z h' ro1 ck2 (.object "java/lang/Object") (3 : Int32) [.null, .null, (.ref ro4)] .null ∧ Fld Z h' ro0 cs3 "firstNumber" "J" (.long 2) ∧ Fld Z h' ro0 cs3 "serial" "I" (.int 1)) := by
  have hw := B.1
  refine Con.of (plainFor_of_name pn16) (Ls := #[vR ro0, .unset]) (fun _ => rfl) ?_
  intro p e s m below meth c T0 X0 H hml hZ hown hnm hret hlk e0
  have N0 := Fr.nil Z.heap.size
  refine gAloadN X0 H d16_0 rfl rfl 1 rfl ?_
  refine gGetF X0 H hZ hown (hw _ wd98) Via.refl e0 q2981 d16_1 4 rfl ?_
  intro T2982 X2982 e2982
  refine gIfY X2982 H d16_4 (by decide) (by decide) 9 rfl ?_
  refine gAloadN X2982 H d16_9 rfl rfl 10 rfl ?_
  refine gIconst X2982 H d16_10 (z := 0) rfl 11 rfl ?_
  refine gVirt X2982 H hZ hown (hw _ wd116) (hw _ wd117) (hw _ wd119) (hw _ wd118) (by decide) q2983 (hw _ wd120) (hw _ wd66) (rm2999_17 B ro0 ro1 ck2 ro3 ro4 _ O q3000 q2983 q3001 q3002 q3003) e2982 hml rfl pd11 rfl (W := 0) (argsL := [(.int 0)]) (rest := []) rfl rfl d16_11 14 rfl ?_
  intro v3004 T3004 L3004 hq3004 X3004
  obtain ⟨rfl, e3004, rfl⟩ := hq3004
  have N3004 := Fr.app N0 (Fr.nil _)
  show Go _ _ _ _ (State.setTop _ (mkF _ 14 _ [(.ref ro3)]))
  refine gAstoreN X3004 H d16_14 rfl (Ls' := #[vR ro0, vR ro3]) rfl 15 rfl ?_
  refine gAloadN X3004 H d16_15 rfl rfl 16 rfl ?_
  refine gGetF X3004 H hZ hown (hw _ wd96) Via.refl e3004 q3000 d16_16 19 rfl ?_
  intro T3005 X3005 e3005
  refine gAloadN X3005 H d16_19 rfl rfl 20 rfl ?_
  refine gGetF X3005 H hZ hown (hw _ wd125) Via.refl e3005 q3001 d16_20 23 rfl ?_
  intro T3006 X3006 e3006
  refine gNull X3006 H d16_23 24 rfl ?_
  refine gAastore X3006 H hZ e3006 rfl (Or.inl rfl) q3003 ⟨by decide, by decide⟩ (i := 1) rfl (Nat.le_of_ble_eq_true rfl) (vs' := [.null, .null, (.ref ro4)]) rfl d16_24 25 rfl ?_
  intro T3007 h3007 X3007 e3007 W3007 V3007
  have O3007 := extW O W3007 q3008
  have N3007 := Fr.snoc X3007 N3004 q3008
  refine gAloadN X3007 H d16_25 rfl rfl 26 rfl ?_
  refine gAloadN X3007 H d16_26 rfl rfl 27 rfl ?_
  refine gIconst X3007 H d16_27 (z := 1) rfl 28 rfl ?_
  have c3009 := (q2983.wr W3007)
  have c3019 := (q3001.other W3007 (Or.inl q3018))
  have c3020 := (q3000.other W3007 (Or.inl q3018))
  refine gPrivate X3007 H hZ hown (hw _ wd121) (hw _ wd122) (hw _ wd123) (hw _ wd65) (by decide) c3009 (hw _ wd124) (hw _ wd66) (rm3016_18 B ro0 ro1 _ O3007 c3019 c3020 (Arv.arl V3007)) e3007 hml rfl pd6 rfl (W := 1) (argsL := [(.int 1)]) (rest := [(.ref ro0)]) rfl rfl d16_28 31 rfl ?_
  intro v3021 T3021 L3021 hq3021 X3021
  obtain ⟨rfl, e3021, rfl⟩ := hq3021
  have N3021 := Fr.app N3007 (Fr.nil _)
  show Go _ _ _ _ (State.setTop _ (mkF _ 31 _ [(.int 2), (.ref ro0)]))
  refine gPutF X3021 H hZ hown (hw _ wd125) Via.refl e3021 c3019 c3009 (Or.inl (hw _ wd126)) (hw _ wd65) (ty := .int) (by decide) (v' := (.int 2)) rfl rfl d16_31 34 rfl ?_
  intro T3022 h3022 X3022 e3022 W3022 F3022
  have O3022 := extW O3007 W3022 q3023
  have N3022 := Fr.snoc X3022 N3021 q3023
  refine gAloadN X3022 H d16_34 rfl rfl 35 rfl ?_
  refine gDup X3022 H d16_35 rfl 36 rfl ?_
  have c3024 := ((q2981.other W3007 (Or.inl q3018)).other W3022 (Or.inr (sn16 hw)))
  refine gGetF X3022 H hZ hown (hw _ wd98) Via.refl e3022 c3024 d16_36 39 rfl ?_
  intro T3025 X3025 e3025
  refine gIconst X3025 H d16_39 (z := 1) rfl 40 rfl ?_
  refine g_isub X3025 H d16_40 (z := 1) (by decide) 41 rfl ?_
  have c3027 := (c3009.wr W3022)
  refine gPutF X3025 H hZ hown (hw _ wd98) Via.refl e3025 c3024 c3027 (Or.inl (hw _ wd99)) (hw _ wd65) (ty := .int) (by decide) (v' := (.int 1)) rfl rfl d16_41 44 rfl ?_
  intro T3026 h3026 X3026 e3026 W3026 F3026
  have O3026 := extW O3022 W3026 q3023
  have N3026 := Fr.snoc X3026 N3022 q3023
  refine gAloadN X3026 H d16_44 rfl rfl 45 rfl ?_
  refine gDup X3026 H d16_45 rfl 46 rfl ?_
  have c3029 := (((q3028.other W3007 (Or.inl q3018)).other W3022 (Or.inr (sn17 hw))).other W3026 (Or.inr (sn12 hw)))
  refine gGetF X3026 H hZ hown (hw _ wd105) Via.refl e3026 c3029 d16_46 49 rfl ?_
  intro T3030 X3030 e3030
  refine gLconst X3030 H d16_49 (z := 1) rfl 50 rfl ?_
  refine g_ladd X3030 H d16_50 (z := 2) (by decide) 51 rfl ?_
  have c3032 := (c3027.wr W3026)
  refine gPutF X3030 H hZ hown (hw _ wd105) Via.refl e3030 c3029 c3032 (Or.inl (hw _ wd106)) (hw _ wd65) (ty := .long) (by decide) (v' := (.long 2)) rfl rfl d16_51 54 rfl ?_
  intro T3031 h3031 X3031 e3031 W3031 F3031
  have O3031 := extW O3026 W3031 q3023
  have N3031 := Fr.snoc X3031 N3026 q3023
  refine gAloadN X3031 H d16_54 rfl rfl 55 rfl ?_
  have c3033 := (((V3007.other W3022 (Ne.symm q3018)).other W3026 (Ne.symm q3018)).other W3031 (Ne.symm q3018))
  have c3034 := (F3026.other W3031 (Or.inr (sn21 hw)))
  have c3035 := (c3032.wr W3031)
  have c3036 := (((c3020.other W3022 (Or.inr (sn18 hw))).other W3026 (Or.inr (sn9 hw))).other W3031 (Or.inr (sn19 hw)))
  have c3037 := ((F3022.other W3026 (Or.inr (sn15 hw))).other W3031 (Or.inr (sn20 hw)))
  have c3039 := ((((q3038.other W3007 (Or.inl q3018)).other W3022 (Or.inr (sn22 hw))).other W3026 (Or.inr (sn8 hw))).other W3031 (Or.inr (sn23 hw)))
  have K_3040 := (Keep.refl h [ro1, ro0]).wr W3007 (Or.inl (List.mem_of_getElem? (i := 0) rfl))
  have K_3041 := K_3040.wr W3022 (Or.inl (List.mem_of_getElem? (i := 1) rfl))
  have K_3042 := K_3041.wr W3026 (Or.inl (List.mem_of_getElem? (i := 1) rfl))
  have K_3043 := K_3042.wr W3031 (Or.inl (List.mem_of_getElem? (i := 1) rfl))
  exact gRetA X3031 H hlk hret rfl rfl rfl d16_55 e3031 ⟨rfl, N3031, K_3043, c3034, c3035, c3036, c3037, c3033, F3031, c3039⟩
theorem rm3056_15 (B : Bg Z a0 wE0 w_cacheI k_wE0 cl_cacheI) (ro0 ro1 : Addr) (ck2 : ClassId) (ro3 ro4 : Addr) (h : Heap) (O : Ext Z.heap h) (q2980 : Exa Z h ro0 cs3) (q3017 : ro0 ≠ ro1) (q3045 : Fld Z h ro0 cs3 "size" "I" (.int 2)) (q3046 : Fld Z h ro0 cs3 "buffer" cs2 (.ref ro1)) (q3047 : Fld Z h ro0 cs3 "head" "I" (.int 1)) (q3048 : Arl Z h ro1 (3 : Int32)) (q3049 : Arv Z h ro1 ck2 (.object "java/lang/Object") (3 : Int32) [.null, (.ref ro3), (.ref ro4)] .null) (q3050 : Z.heap.size ≤ ro1) (q3051 : Z.heap.size ≤ ro0) (q3052 : Fld Z h ro0 cs3 "firstNumber" "J" (.long 1)) (q3053 : Fld Z h ro0 cs3 "serial" "I" (.int 1)) :
    Con l Z yM15 method_2_code 2 none ({ frames := 3, cells := 0, slots := 0, locals := 41 } : Room) #[(.ref ro0), (.int 1)] h (fun v h' L => v = none ∧ Fr Z.heap.size L ∧ Keep h h' [ro1, ro0] ∧ Exa Z h' ro0 cs3 ∧ Fld Z h' ro0 cs3 "size" "I" (.int 1) ∧ Fld Z h' ro0 cs3 "buffer" cs2 (.ref ro1) ∧ Fld Z h' ro0 cs3 "head" "I" (.int 2) ∧ Arv Z h' ro1 ck2 (.object "java/lang/Object") (3 : Int32) [.null, .null, (.ref ro4)] .null ∧ Fld Z h' ro0 cs3 "firstNumber" "J" (.long 2) ∧ Fld Z h' ro0 cs3 "serial" "I" (.int 1)) := by
  have hw := B.1
  refine Con.of (plainFor_of_name pn15) (Ls := #[vR ro0, vI 1]) (fun _ => rfl) ?_
  intro p e s m below meth c T0 X0 H hml hZ hown hnm hret hlk e0
  have N0 := Fr.nil Z.heap.size
  refine gIloadN X0 H d15_0 rfl 1 rfl ?_
  refine gIfN X0 H d15_1 (by decide) 4 rfl ?_
  refine gAloadN X0 H d15_4 rfl rfl 5 rfl ?_
  refine gVirt X0 H hZ hown (hw _ wd111) (hw _ wd112) (hw _ wd114) (hw _ wd113) (by decide) q2980 (hw _ wd115) (hw _ wd66) (rm3044_16 B ro0 ro1 ck2 ro3 ro4 _ O q3045 q2980 q3046 q3047 q3048 q3049 q3050 q3017 q3051 q3052 q3053) e0 hml rfl pd13 rfl (W := 0) (argsL := []) (rest := []) rfl rfl d15_5 8 rfl ?_
  intro v3054 T3054 L3054 hq3054 X3054
  obtain ⟨rfl, N3054q, K3054, f3054_0, f3054_1, f3054_2, f3054_3, f3054_4, f3054_5, f3054_6⟩ := hq3054
  have O3054 := extK O K3054 (allS q3050 (allS q3051 all0))
  have N3054 := Fr.app N0 N3054q
  show Go _ _ _ _ (State.setTop _ (mkF _ 8 _ [(.ref ro3)]))
  refine gPop X3054 H d15_8 rfl 9 rfl ?_
  refine gGoto X3054 H d15_9 (by decide) 21 rfl ?_
  have K_3055 := (Keep.refl h [ro1, ro0]).trans K3054 (allS (Or.inl (List.mem_of_getElem? (i := 0) rfl)) (allS (Or.inl (List.mem_of_getElem? (i := 1) rfl)) all0))
  exact gRetV X3054 H hlk hret d15_21 rfl ⟨rfl, N3054, K_3055, f3054_1, f3054_0, f3054_2, f3054_3, f3054_4, f3054_5, f3054_6⟩
theorem rm3072_18 (B : Bg Z a0 wE0 w_cacheI k_wE0 cl_cacheI) (ro0 ro1 : Addr) (h : Heap) (O : Ext Z.heap h) (q3066 : Fld Z h ro0 cs3 "head" "I" (.int 2)) (q3068 : Fld Z h ro0 cs3 "buffer" cs2 (.ref ro1)) (q3071 : Arl Z h ro1 (3 : Int32)) :
    Con l Z yM18 prog_50_method_12_code 3 (some .int) ({ frames := 0, cells := 0, slots := 0, locals := 0 } : Room) #[(.ref ro0), (.int 0)] h (fun v h' L => v = some (.int 2) ∧ h' = h ∧ L = []) := by
  have hw := B.1
  refine Con.of (plainFor_of_name pn18) (Ls := #[vR ro0, vI 0, .unset]) (fun _ => rfl) ?_
  intro p e s m below meth c T0 X0 H hml hZ hown hnm hret hlk e0
  refine gAloadN X0 H d18_0 rfl rfl 1 rfl ?_
  refine gGetF X0 H hZ hown (hw _ wd125) Via.refl e0 q3066 d18_1 4 rfl ?_
  intro T3067 X3067 e3067
  refine gIloadN X3067 H d18_4 rfl 5 rfl ?_
  refine g_iadd X3067 H d18_5 (z := 2) (by decide) 6 rfl ?_
  refine gIstoreN X3067 H d18_6 (Ls' := #[vR ro0, vI 0, vI 2]) rfl 7 rfl ?_
  refine gIloadN X3067 H d18_7 rfl 8 rfl ?_
  refine gAloadN X3067 H d18_8 rfl rfl 9 rfl ?_
  refine gGetF X3067 H hZ hown (hw _ wd96) Via.refl e3067 q3068 d18_9 12 rfl ?_
  intro T3069 X3069 e3069
  refine gLen X3069 H hZ e3069 q3071 d18_12 13 rfl ?_
  refine gCmpN X3069 H d18_13 (by decide) 16 rfl ?_
  refine gIloadN X3069 H d18_16 rfl 17 rfl ?_
  refine gGoto X3069 H d18_17 (by decide) 27 rfl ?_
  exact gRetI X3069 H hlk hret d18_27 e3069 ⟨rfl, rfl, rfl⟩
theorem rm3078_17 (B : Bg Z a0 wE0 w_cacheI k_wE0 cl_cacheI) (ro0 ro1 : Addr) (ck2 : ClassId) (ro3 : Addr) (h : Heap) (O : Ext Z.heap h) (q3063 : Fld Z h ro0 cs3 "buffer" cs2 (.ref ro1)) (q3065 : Exa Z h ro0 cs3) (q3073 : Fld Z h ro0 cs3 "head" "I" (.int 2)) (q3074 : Arl Z h ro1 (3 : Int32)) (q3077 : Arv Z h ro1 ck2 (.object "java/lang/Object") (3 : Int32) [.null, .null, (.ref ro3)] .null) :
    Con l Z yM17 prog_50_method_4_code 2 (some (.object "java/lang/Object")) ({ frames := 1, cells := 0, slots := 0, locals := 15 } : Room) #[(.ref ro0), (.int 0)] h (fun v h' L => v = some (.ref ro3) ∧ h' = h ∧ L = []) := by
  have hw := B.1
  refine Con.of (plainFor_of_name pn17) (Ls := #[vR ro0, vI 0]) (fun _ => rfl) ?_
  intro p e s m below meth c T0 X0 H hml hZ hown hnm hret hlk e0
  have N0 := Fr.nil Z.heap.size
  refine gAloadN X0 H d17_0 rfl rfl 1 rfl ?_
  refine gGetF X0 H hZ hown (hw _ wd96) Via.refl e0 q3063 d17_1 4 rfl ?_
  intro T3064 X3064 e3064
  refine gAloadN X3064 H d17_4 rfl rfl 5 rfl ?_
  refine gIloadN X3064 H d17_5 rfl 6 rfl ?_
  refine gPrivate X3064 H hZ hown (hw _ wd121) (hw _ wd122) (hw _ wd123) (hw _ wd65) (by decide) q3065 (hw _ wd124) (hw _ wd66) (rm3072_18 B ro0 ro1 _ O q3073 q3063 q3074) e3064 hml rfl pd6 rfl (W := 1) (argsL := [(.int 0)]) (rest := [(.ref ro1)]) rfl rfl d17_6 9 rfl ?_
  intro v3075 T3075 L3075 hq3075 X3075
  obtain ⟨rfl, e3075, rfl⟩ := hq3075
  have N3075 := Fr.app N0 (Fr.nil _)
  show Go _ _ _ _ (State.setTop _ (mkF _ 9 _ [(.int 2), (.ref ro1)]))
  refine gAaload X3075 H hZ e3075 rfl q3077 ⟨by decide, by decide⟩ (v := (.ref ro3)) rfl d17_9 10 rfl ?_
  exact gRetA X3075 H hlk hret rfl rfl rfl d17_10 e3075 ⟨rfl, rfl, rfl⟩
theorem rm3097_18 (B : Bg Z a0 wE0 w_cacheI k_wE0 cl_cacheI) (ro0 ro1 : Addr) (h : Heap) (O : Ext Z.heap h) (q3089 : Fld Z h ro0 cs3 "head" "I" (.int 2)) (q3091 : Fld Z h ro0 cs3 "buffer" cs2 (.ref ro1)) (q3094 : Arl Z h ro1 (3 : Int32)) :
    Con l Z yM18 prog_50_method_12_code 3 (some .int) ({ frames := 0, cells := 0, slots := 0, locals := 0 } : Room) #[(.ref ro0), (.int 1)] h (fun v h' L => v = some (.int 0) ∧ h' = h ∧ L = []) := by
  have hw := B.1
  refine Con.of (plainFor_of_name pn18) (Ls := #[vR ro0, vI 1, .unset]) (fun _ => rfl) ?_
  intro p e s m below meth c T0 X0 H hml hZ hown hnm hret hlk e0
  refine gAloadN X0 H d18_0 rfl rfl 1 rfl ?_
  refine gGetF X0 H hZ hown (hw _ wd125) Via.refl e0 q3089 d18_1 4 rfl ?_
  intro T3090 X3090 e3090
  refine gIloadN X3090 H d18_4 rfl 5 rfl ?_
  refine g_iadd X3090 H d18_5 (z := 3) (by decide) 6 rfl ?_
  refine gIstoreN X3090 H d18_6 (Ls' := #[vR ro0, vI 1, vI 3]) rfl 7 rfl ?_
  refine gIloadN X3090 H d18_7 rfl 8 rfl ?_
  refine gAloadN X3090 H d18_8 rfl rfl 9 rfl ?_
  refine gGetF X3090 H hZ hown (hw _ wd96) Via.refl e3090 q3091 d18_9 12 rfl ?_
  intro T3092 X3092 e3092
  refine gLen X3092 H hZ e3092 q3094 d18_12 13 rfl ?_
  refine gCmpY X3092 H d18_13 (by decide) (by decide) 20 rfl ?_
  refine gIloadN X3092 H d18_20 rfl 21 rfl ?_
  refine gAloadN X3092 H d18_21 rfl rfl 22 rfl ?_
  refine gGetF X3092 H hZ hown (hw _ wd96) Via.refl e3092 q3091 d18_22 25 rfl ?_
  intro T3095 X3095 e3095
  refine gLen X3095 H hZ e3095 q3094 d18_25 26 rfl ?_
  refine g_isub X3095 H d18_26 (z := 0) (by decide) 27 rfl ?_
  exact gRetI X3095 H hlk hret d18_27 e3095 ⟨rfl, rfl, rfl⟩
theorem rm3125_16 (B : Bg Z a0 wE0 w_cacheI k_wE0 cl_cacheI) (ro0 ro1 : Addr) (ck2 : ClassId) (ro3 : Addr) (h : Heap) (O : Ext Z.heap h) (q3060 : Fld Z h ro0 cs3 "size" "I" (.int 1)) (q3062 : Exa Z h ro0 cs3) (q3079 : Fld Z h ro0 cs3 "buffer" cs2 (.ref ro1)) (q3080 : Fld Z h ro0 cs3 "head" "I" (.int 2)) (q3081 : Arl Z h ro1 (3 : Int32)) (q3082 : Arv Z h ro1 ck2 (.object "java/lang/Object") (3 : Int32) [.null, .null, (.ref ro3)] .null) (q3087 : Z.heap.size ≤ ro1) (q3099 : ro0 ≠ ro1) (q3104 : Z.heap.size ≤ ro0) (q3109 : Fld Z h ro0 cs3 "firstNumber" "J" (.long 2)) (q3119 : Fld Z h ro0 cs3 "serial" "I" (.int 1)) :
    Con l Z yM16 prog_50_method_10_code 2 (some (.object "java/lang/Object")) ({ frames := 2, cells := 0, slots := 0, locals := 28 } : Room) #[(.ref ro0)] h (fun v h' L => v = some (.ref ro3) ∧ Fr Z.heap.size L ∧ Keep h h' [ro1, ro0] ∧ Fld Z h' ro0 cs3 "size" "I" (.int 0) ∧ Exa Z h' ro0 cs3 ∧ Fld Z h' ro0 cs3 "buffer" cs2 (.ref ro1) ∧ Fld Z h' ro0 cs3 "head" "I" (.int 0) ∧ Arv Z h' ro1 ck2 (.object "java/lang/Object") (3 : Int32) [.null, .null, .null] .null ∧ Fld Z h' ro0 cs3 "firstNumber" "J" (.long 3) ∧ Fld Z h' ro0 cs3 "serial" "I" (.int 1)) := by
  have hw := B.1
  refine Con.of (plainFor_of_name pn16) (Ls := #[vR ro0, .unset]) (fun _ => rfl) ?_
  intro p e s m below meth c T0 X0 H hml hZ hown hnm hret hlk e0
  have N0 := Fr.nil Z.heap.size
  refine gAloadN X0 H d16_0 rfl rfl 1 rfl ?_
  refine gGetF X0 H hZ hown (hw _ wd98) Via.refl e0 q3060 d16_1 4 rfl ?_
  intro T3061 X3061 e3061
  refine gIfY X3061 H d16_4 (by decide) (by decide) 9 rfl ?_
  refine gAloadN X3061 H d16_9 rfl rfl 10 rfl ?_
  refine gIconst X3061 H d16_10 (z := 0) rfl 11 rfl ?_
  refine gVirt X3061 H hZ hown (hw _ wd116) (hw _ wd117) (hw _ wd119) (hw _ wd118) (by decide) q3062 (hw _ wd120) (hw _ wd66) (rm3078_17 B ro0 ro1 ck2 ro3 _ O q3079 q3062 q3080 q3081 q3082) e3061 hml rfl pd11 rfl (W := 0) (argsL := [(.int 0)]) (rest := []) rfl rfl d16_11 14 rfl ?_
  intro v3083 T3083 L3083 hq3083 X3083
  obtain ⟨rfl, e3083, rfl⟩ := hq3083
  have N3083 := Fr.app N0 (Fr.nil _)
  show Go _ _ _ _ (State.setTop _ (mkF _ 14 _ [(.ref ro3)]))
  refine gAstoreN X3083 H d16_14 rfl (Ls' := #[vR ro0, vR ro3]) rfl 15 rfl ?_
  refine gAloadN X3083 H d16_15 rfl rfl 16 rfl ?_
  refine gGetF X3083 H hZ hown (hw _ wd96) Via.refl e3083 q3079 d16_16 19 rfl ?_
  intro T3084 X3084 e3084
  refine gAloadN X3084 H d16_19 rfl rfl 20 rfl ?_
  refine gGetF X3084 H hZ hown (hw _ wd125) Via.refl e3084 q3080 d16_20 23 rfl ?_
  intro T3085 X3085 e3085
  refine gNull X3085 H d16_23 24 rfl ?_
  refine gAastore X3085 H hZ e3085 rfl (Or.inl rfl) q3082 ⟨by decide, by decide⟩ (i := 2) rfl (Nat.le_of_ble_eq_true rfl) (vs' := [.null, .null, .null]) rfl d16_24 25 rfl ?_
  intro T3086 h3086 X3086 e3086 W3086 V3086
  have O3086 := extW O W3086 q3087
  have N3086 := Fr.snoc X3086 N3083 q3087
  refine gAloadN X3086 H d16_25 rfl rfl 26 rfl ?_
  refine gAloadN X3086 H d16_26 rfl rfl 27 rfl ?_
  refine gIconst X3086 H d16_27 (z := 1) rfl 28 rfl ?_
  have c3088 := (q3062.wr W3086)
  have c3100 := (q3080.other W3086 (Or.inl q3099))
  have c3101 := (q3079.other W3086 (Or.inl q3099))
  refine gPrivate X3086 H hZ hown (hw _ wd121) (hw _ wd122) (hw _ wd123) (hw _ wd65) (by decide) c3088 (hw _ wd124) (hw _ wd66) (rm3097_18 B ro0 ro1 _ O3086 c3100 c3101 (Arv.arl V3086)) e3086 hml rfl pd6 rfl (W := 1) (argsL := [(.int 1)]) (rest := [(.ref ro0)]) rfl rfl d16_28 31 rfl ?_
  intro v3102 T3102 L3102 hq3102 X3102
  obtain ⟨rfl, e3102, rfl⟩ := hq3102
  have N3102 := Fr.app N3086 (Fr.nil _)
  show Go _ _ _ _ (State.setTop _ (mkF _ 31 _ [(.int 0), (.ref ro0)]))
  refine gPutF X3102 H hZ hown (hw _ wd125) Via.refl e3102 c3100 c3088 (Or.inl (hw _ wd126)) (hw _ wd65) (ty := .int) (by decide) (v' := (.int 0)) rfl rfl d16_31 34 rfl ?_
  intro T3103 h3103 X3103 e3103 W3103 F3103
  have O3103 := extW O3086 W3103 q3104
  have N3103 := Fr.snoc X3103 N3102 q3104
  refine gAloadN X3103 H d16_34 rfl rfl 35 rfl ?_
  refine gDup X3103 H d16_35 rfl 36 rfl ?_
  have c3105 := ((q3060.other W3086 (Or.inl q3099)).other W3103 (Or.inr (sn16 hw)))
  refine gGetF X3103 H hZ hown (hw _ wd98) Via.refl e3103 c3105 d16_36 39 rfl ?_
  intro T3106 X3106 e3106
  refine gIconst X3106 H d16_39 (z := 1) rfl 40 rfl ?_
  refine g_isub X3106 H d16_40 (z := 0) (by decide) 41 rfl ?_
  have c3108 := (c3088.wr W3103)
  refine gPutF X3106 H hZ hown (hw _ wd98) Via.refl e3106 c3105 c3108 (Or.inl (hw _ wd99)) (hw _ wd65) (ty := .int) (by decide) (v' := (.int 0)) rfl rfl d16_41 44 rfl ?_
  intro T3107 h3107 X3107 e3107 W3107 F3107
  have O3107 := extW O3103 W3107 q3104
  have N3107 := Fr.snoc X3107 N3103 q3104
  refine gAloadN X3107 H d16_44 rfl rfl 45 rfl ?_
  refine gDup X3107 H d16_45 rfl 46 rfl ?_
  have c3110 := (((q3109.other W3086 (Or.inl q3099)).other W3103 (Or.inr (sn17 hw))).other W3107 (Or.inr (sn12 hw)))
  refine gGetF X3107 H hZ hown (hw _ wd105) Via.refl e3107 c3110 d16_46 49 rfl ?_
  intro T3111 X3111 e3111
  refine gLconst X3111 H d16_49 (z := 1) rfl 50 rfl ?_
  refine g_ladd X3111 H d16_50 (z := 3) (by decide) 51 rfl ?_
  have c3113 := (c3108.wr W3107)
  refine gPutF X3111 H hZ hown (hw _ wd105) Via.refl e3111 c3110 c3113 (Or.inl (hw _ wd106)) (hw _ wd65) (ty := .long) (by decide) (v' := (.long 3)) rfl rfl d16_51 54 rfl ?_
  intro T3112 h3112 X3112 e3112 W3112 F3112
  have O3112 := extW O3107 W3112 q3104
  have N3112 := Fr.snoc X3112 N3107 q3104
  refine gAloadN X3112 H d16_54 rfl rfl 55 rfl ?_
  have c3114 := (((V3086.other W3103 (Ne.symm q3099)).other W3107 (Ne.symm q3099)).other W3112 (Ne.symm q3099))
  have c3115 := (F3107.other W3112 (Or.inr (sn21 hw)))
  have c3116 := (c3113.wr W3112)
  have c3117 := (((c3101.other W3103 (Or.inr (sn18 hw))).other W3107 (Or.inr (sn9 hw))).other W3112 (Or.inr (sn19 hw)))
  have c3118 := ((F3103.other W3107 (Or.inr (sn15 hw))).other W3112 (Or.inr (sn20 hw)))
  have c3120 := ((((q3119.other W3086 (Or.inl q3099)).other W3103 (Or.inr (sn22 hw))).other W3107 (Or.inr (sn8 hw))).other W3112 (Or.inr (sn23 hw)))
  have K_3121 := (Keep.refl h [ro1, ro0]).wr W3086 (Or.inl (List.mem_of_getElem? (i := 0) rfl))
  have K_3122 := K_3121.wr W3103 (Or.inl (List.mem_of_getElem? (i := 1) rfl))
  have K_3123 := K_3122.wr W3107 (Or.inl (List.mem_of_getElem? (i := 1) rfl))
  have K_3124 := K_3123.wr W3112 (Or.inl (List.mem_of_getElem? (i := 1) rfl))
  exact gRetA X3112 H hlk hret rfl rfl rfl d16_55 e3112 ⟨rfl, N3112, K_3124, c3115, c3116, c3117, c3118, c3114, F3112, c3120⟩
theorem rm3137_15 (B : Bg Z a0 wE0 w_cacheI k_wE0 cl_cacheI) (ro0 ro1 : Addr) (ck2 : ClassId) (ro3 : Addr) (h : Heap) (O : Ext Z.heap h) (q3059 : Exa Z h ro0 cs3) (q3098 : ro0 ≠ ro1) (q3126 : Fld Z h ro0 cs3 "size" "I" (.int 1)) (q3127 : Fld Z h ro0 cs3 "buffer" cs2 (.ref ro1)) (q3128 : Fld Z h ro0 cs3 "head" "I" (.int 2)) (q3129 : Arl Z h ro1 (3 : Int32)) (q3130 : Arv Z h ro1 ck2 (.object "java/lang/Object") (3 : Int32) [.null, .null, (.ref ro3)] .null) (q3131 : Z.heap.size ≤ ro1) (q3132 : Z.heap.size ≤ ro0) (q3133 : Fld Z h ro0 cs3 "firstNumber" "J" (.long 2)) (q3134 : Fld Z h ro0 cs3 "serial" "I" (.int 1)) :
    Con l Z yM15 method_2_code 2 none ({ frames := 3, cells := 0, slots := 0, locals := 41 } : Room) #[(.ref ro0), (.int 1)] h (fun v h' L => v = none ∧ Fr Z.heap.size L ∧ Keep h h' [ro1, ro0] ∧ Exa Z h' ro0 cs3 ∧ Fld Z h' ro0 cs3 "size" "I" (.int 0) ∧ Fld Z h' ro0 cs3 "buffer" cs2 (.ref ro1) ∧ Fld Z h' ro0 cs3 "head" "I" (.int 0) ∧ Arv Z h' ro1 ck2 (.object "java/lang/Object") (3 : Int32) [.null, .null, .null] .null ∧ Fld Z h' ro0 cs3 "firstNumber" "J" (.long 3) ∧ Fld Z h' ro0 cs3 "serial" "I" (.int 1)) := by
  have hw := B.1
  refine Con.of (plainFor_of_name pn15) (Ls := #[vR ro0, vI 1]) (fun _ => rfl) ?_
  intro p e s m below meth c T0 X0 H hml hZ hown hnm hret hlk e0
  have N0 := Fr.nil Z.heap.size
  refine gIloadN X0 H d15_0 rfl 1 rfl ?_
  refine gIfN X0 H d15_1 (by decide) 4 rfl ?_
  refine gAloadN X0 H d15_4 rfl rfl 5 rfl ?_
  refine gVirt X0 H hZ hown (hw _ wd111) (hw _ wd112) (hw _ wd114) (hw _ wd113) (by decide) q3059 (hw _ wd115) (hw _ wd66) (rm3125_16 B ro0 ro1 ck2 ro3 _ O q3126 q3059 q3127 q3128 q3129 q3130 q3131 q3098 q3132 q3133 q3134) e0 hml rfl pd13 rfl (W := 0) (argsL := []) (rest := []) rfl rfl d15_5 8 rfl ?_
  intro v3135 T3135 L3135 hq3135 X3135
  obtain ⟨rfl, N3135q, K3135, f3135_0, f3135_1, f3135_2, f3135_3, f3135_4, f3135_5, f3135_6⟩ := hq3135
  have O3135 := extK O K3135 (allS q3131 (allS q3132 all0))
  have N3135 := Fr.app N0 N3135q
  show Go _ _ _ _ (State.setTop _ (mkF _ 8 _ [(.ref ro3)]))
  refine gPop X3135 H d15_8 rfl 9 rfl ?_
  refine gGoto X3135 H d15_9 (by decide) 21 rfl ?_
  have K_3136 := (Keep.refl h [ro1, ro0]).trans K3135 (allS (Or.inl (List.mem_of_getElem? (i := 0) rfl)) (allS (Or.inl (List.mem_of_getElem? (i := 1) rfl)) all0))
  exact gRetV X3135 H hlk hret d15_21 rfl ⟨rfl, N3135, K_3136, f3135_1, f3135_0, f3135_2, f3135_3, f3135_4, f3135_5, f3135_6⟩
theorem rm3140_19 (B : Bg Z a0 wE0 w_cacheI k_wE0 cl_cacheI) (h : Heap) (O : Ext Z.heap h) :
    Con l Z yM19 jdk_29_method_69_code 2 (some .int) ({ frames := 0, cells := 0, slots := 0, locals := 0 } : Room) #[(.int 3), (.int 3)] h (fun v h' L => v = some (.int 3) ∧ h' = h ∧ L = []) := by
  refine Con.of (Jvm.Free.JP.mathPlain rfl (by decide +kernel)) (Ls := #[vI 3, vI 3]) (fun _ => rfl) ?_
  intro p e s m below meth c T0 X0 H hml hZ hown hnm hret hlk e0
  refine gIloadN X0 H d19_0 rfl 1 rfl ?_
  refine gIloadN X0 H d19_1 rfl 2 rfl ?_
  refine gCmpN X0 H d19_2 (by decide) 5 rfl ?_
  refine gIloadN X0 H d19_5 rfl 6 rfl ?_
  refine gGoto X0 H d19_6 (by decide) 10 rfl ?_
  exact gRetI X0 H hlk hret d19_10 e0 ⟨rfl, rfl, rfl⟩
theorem rm3143_19 (B : Bg Z a0 wE0 w_cacheI k_wE0 cl_cacheI) (h : Heap) (O : Ext Z.heap h) :
    Con l Z yM19 jdk_29_method_69_code 2 (some .int) ({ frames := 0, cells := 0, slots := 0, locals := 0 } : Room) #[(.int 2), (.int 3)] h (fun v h' L => v = some (.int 2) ∧ h' = h ∧ L = []) := by
  refine Con.of (Jvm.Free.JP.mathPlain rfl (by decide +kernel)) (Ls := #[vI 2, vI 3]) (fun _ => rfl) ?_
  intro p e s m below meth c T0 X0 H hml hZ hown hnm hret hlk e0
  refine gIloadN X0 H d19_0 rfl 1 rfl ?_
  refine gIloadN X0 H d19_1 rfl 2 rfl ?_
  refine gCmpN X0 H d19_2 (by decide) 5 rfl ?_
  refine gIloadN X0 H d19_5 rfl 6 rfl ?_
  refine gGoto X0 H d19_6 (by decide) 10 rfl ?_
  exact gRetI X0 H hlk hret d19_10 e0 ⟨rfl, rfl, rfl⟩
theorem rm3146_19 (B : Bg Z a0 wE0 w_cacheI k_wE0 cl_cacheI) (h : Heap) (O : Ext Z.heap h) :
    Con l Z yM19 jdk_29_method_69_code 2 (some .int) ({ frames := 0, cells := 0, slots := 0, locals := 0 } : Room) #[(.int 1), (.int 3)] h (fun v h' L => v = some (.int 1) ∧ h' = h ∧ L = []) := by
  refine Con.of (Jvm.Free.JP.mathPlain rfl (by decide +kernel)) (Ls := #[vI 1, vI 3]) (fun _ => rfl) ?_
  intro p e s m below meth c T0 X0 H hml hZ hown hnm hret hlk e0
  refine gIloadN X0 H d19_0 rfl 1 rfl ?_
  refine gIloadN X0 H d19_1 rfl 2 rfl ?_
  refine gCmpN X0 H d19_2 (by decide) 5 rfl ?_
  refine gIloadN X0 H d19_5 rfl 6 rfl ?_
  refine gGoto X0 H d19_6 (by decide) 10 rfl ?_
  exact gRetI X0 H hlk hret d19_10 e0 ⟨rfl, rfl, rfl⟩
theorem rm3149_19 (B : Bg Z a0 wE0 w_cacheI k_wE0 cl_cacheI) (h : Heap) (O : Ext Z.heap h) :
    Con l Z yM19 jdk_29_method_69_code 2 (some .int) ({ frames := 0, cells := 0, slots := 0, locals := 0 } : Room) #[(.int 0), (.int 3)] h (fun v h' L => v = some (.int 0) ∧ h' = h ∧ L = []) := by
  refine Con.of (Jvm.Free.JP.mathPlain rfl (by decide +kernel)) (Ls := #[vI 0, vI 3]) (fun _ => rfl) ?_
  intro p e s m below meth c T0 X0 H hml hZ hown hnm hret hlk e0
  refine gIloadN X0 H d19_0 rfl 1 rfl ?_
  refine gIloadN X0 H d19_1 rfl 2 rfl ?_
  refine gCmpN X0 H d19_2 (by decide) 5 rfl ?_
  refine gIloadN X0 H d19_5 rfl 6 rfl ?_
  refine gGoto X0 H d19_6 (by decide) 10 rfl ?_
  exact gRetI X0 H hlk hret d19_10 e0 ⟨rfl, rfl, rfl⟩
theorem tail3151_176 (B : Bg Z a0 wE0 w_cacheI k_wE0 cl_cacheI) (p0 : Int64) (p1 : Int32) (p2 : Int32) (p3 : Int32) (o6 : Addr) (o7 : Addr) (u8 : Int32) (u9 : Int32) (u10 : Int64) (u12 : Int32) {p : Program} {e : Env} {s : State} {m : MethodId} {below : List Frame} {meth : Method} {c : Code} {T0 : State} {locs : List Loc} {cells slots : Nat} {h : Heap} (X0 : Stand p l e room_1 s m #[(.long p0), (.int p1), (.int p2), (.int p3)] below meth c T0 locs cells slots) (H : p.tables.exec = Jvm.exec ∧ c.code = code) (hml : c.maxLocals = maxLocals) (hZ : Z.Warmed39 s.vm) (hown : s.vm.findClass x.cls = some m.cls) (hnm : meth.name = x.name) (hret : meth.sig.returnType = ret) (hlk : meth.locks = false) (N0 : Fr Z.heap.size locs) (hC : cells ≤ room_1.cells) (hS : slots ≤ room_1.slots) (e0 : T0.heap = h) (O : Ext Z.heap h) (qq0 : Exa Z h o7 cs3) (qq1 : Fld Z h o7 cs3 "size" "I" (.int 3)) (qq2 : Fld Z h o7 cs3 "firstNumber" "J" (.long u10)) :
    Go p e below (EndK s below (fun v h' L => v = some (.int 1) ∧ Fr Z.heap.size L) room_1.cells room_1.slots) (T0.setTop (mkF m 176 #[vJ p0, .second, vI p1, vI p2, vI p3, vI 3, vR o6, vR o7, vI u8, vI u9, vJ u10, .second, vI u12, .unset, .unset, .unset] [])) := by
  have hw := B.1
  obtain ⟨S_wE0, V_wE0, S_high, S_cacheI, B_cacheI⟩ := B.2
  have M0 := Nat.le_refl h.size
  refine gIloadN X0 H at_176 rfl 177 rfl ?_
  refine gBipush X0 H at_177 (z := 8) rfl 179 rfl ?_
  refine g_iand X0 H at_179 (z := (p1 &&& (8 : Int32))) rfl 180 rfl ?_
  by_cases hc3152 : (p1 &&& (8 : Int32)) = (0 : Int32)
  · refine gIfY X0 H at_180 ((if0 _ _).trans (teq hc3152).1) (by decide) 189 rfl ?_
    refine gLload X0 H at_189 rfl 191 rfl ?_
    refine gIloadN X0 H at_191 rfl 192 rfl ?_
    refine gIconst X0 H at_192 (z := 4) rfl 193 rfl ?_
    refine g_iushr X0 H at_193 (z := ((p1.toUInt32 >>> ((4 : Int32) &&& 31).toUInt32).toInt32)) rfl 194 rfl ?_
    refine gBipush X0 H at_194 (z := 15) rfl 196 rfl ?_
    refine g_iand X0 H at_196 (z := (((p1.toUInt32 >>> ((4 : Int32) &&& 31).toUInt32).toInt32) &&& (15 : Int32))) rfl 197 rfl ?_
    refine gIconst X0 H at_197 (z := 4) rfl 198 rfl ?_
    refine g_isub X0 H at_198 (z := ((((p1.toUInt32 >>> ((4 : Int32) &&& 31).toUInt32).toInt32) &&& (15 : Int32)) - (4 : Int32))) rfl 199 rfl ?_
    refine g_i2l X0 H at_199 (z := (((((p1.toUInt32 >>> ((4 : Int32) &&& 31).toUInt32).toInt32) &&& (15 : Int32)) - (4 : Int32)).toInt64)) rfl 200 rfl ?_
    refine g_ladd X0 H at_200 (z := (u10 + (((((p1.toUInt32 >>> ((4 : Int32) &&& 31).toUInt32).toInt32) &&& (15 : Int32)) - (4 : Int32)).toInt64))) rfl 201 rfl ?_
    refine gLstore X0 H at_201 (Ls' := #[vJ p0, .second, vI p1, vI p2, vI p3, vI 3, vR o6, vR o7, vI u8, vI u9, vJ u10, .second, vJ (u10 + (((((p1.toUInt32 >>> ((4 : Int32) &&& 31).toUInt32).toInt32) &&& (15 : Int32)) - (4 : Int32)).toInt64)), .second, .unset, .unset]) rfl 203 rfl ?_
    exact tail558_203 B p0 p1 p2 p3 o6 o7 u8 u9 u10 ((u10 + (((((p1.toUInt32 >>> ((4 : Int32) &&& 31).toUInt32).toInt32) &&& (15 : Int32)) - (4 : Int32)).toInt64))) X0 H hml hZ hown hnm hret hlk N0 hC hS e0 O qq0 qq1 qq2
  · refine gIfN X0 H at_180 ((if0 _ _).trans (feq hc3152).1) 183 rfl ?_
    refine gLloadN X0 H at_183 rfl 184 rfl ?_
    refine gLstore X0 H at_184 (Ls' := #[vJ p0, .second, vI p1, vI p2, vI p3, vI 3, vR o6, vR o7, vI u8, vI u9, vJ u10, .second, vJ p0, .second, .unset, .unset]) rfl 186 rfl ?_
    refine gGoto X0 H at_186 (by decide) 203 rfl ?_
    exact tail558_203 B p0 p1 p2 p3 o6 o7 u8 u9 u10 p0 X0 H hml hZ hown hnm hret hlk N0 hC hS e0 O qq0 qq1 qq2
theorem lawAll_3 (B : Bg Z a0 wE0 w_cacheI k_wE0 cl_cacheI) (p0 : Int64) (p1 : Int32) (p2 : Int32) (p3 : Int32) (ha0 : (p2 &&& (3 : Int32)) = (3 : Int32)) :
    Con l Z x code maxLocals ret room_1 #[(.long p0), (.int p1), (.int p2), (.int p3)] Z.heap (fun v h' L => v = some (.int 1) ∧ Fr Z.heap.size L) := by
  have hw := B.1
  obtain ⟨S_wE0, V_wE0, S_high, S_cacheI, B_cacheI⟩ := B.2
  refine Con.of (plainFor_of_name pn0) (Ls := #[vJ p0, .second, vI p1, vI p2, vI p3, .unset, .unset, .unset, .unset, .unset, .unset, .unset, .unset, .unset, .unset, .unset]) (fun _ => by first | (simp [entryFrame, mkF, argsToLocals, Value.category, maxLocals]; done) | rfl) ?_
  intro p e s m below meth c T0 X0 H hml hZ hown hnm hret hlk e0
  have O0 := extR Z.heap
  have M0 := Nat.le_refl Z.heap.size
  have N0 := Fr.nil Z.heap.size
  refine gIloadN X0 H at_0 rfl 1 rfl ?_
  refine gIconst X0 H at_1 (z := 3) rfl 2 rfl ?_
  refine g_iand X0 H at_2 (z := 3) ha0 3 rfl ?_
  refine gIstore X0 H at_3 (Ls' := #[vJ p0, .second, vI p1, vI p2, vI p3, vI 3, .unset, .unset, .unset, .unset, .unset, .unset, .unset, .unset, .unset, .unset]) rfl 5 rfl ?_
  refine gNew X0 H hZ hown (hw _ wd0) (hw _ wd1) (hw _ wd2) e0 (by decide) (by decide) at_5 8 rfl ?_
  intro T2233 h2233 b2233 X2233 e2233 z2233 E2233 A2233 D2233
  have G_b2233 := Nat.le_trans O0.1 (Nat.le_of_eq z2233)
  have sz_b2233 := Nat.le_trans M0 (Nat.le_of_eq z2233)
  have O2233 := extT O0 E2233
  have F2233_modCount : Fld Z h2233 b2233 cs0 "modCount" "I" (.int 0) := D2233 (Or.inl (hw _ wd22)) (ty := .int) (by decide)
  have F2233_elementData : Fld Z h2233 b2233 cs1 "elementData" cs2 .null := D2233 (Or.inl (hw _ wd25)) (ty := (.array (.object "java/lang/Object"))) (by decide)
  have F2233_size : Fld Z h2233 b2233 cs1 "size" "I" (.int 0) := D2233 (Or.inl (hw _ wd41)) (ty := .int) (by decide)
  refine gDup X2233 H at_8 rfl 9 rfl ?_
  refine gSpecial X2233 H hZ hown rfl rfl (hw _ wd3) (hw _ wd4) (by decide) (hw _ wd5) (hw _ wd2) (rm29_1 B b2233 _ O2233 A2233 F2233_modCount G_b2233 F2233_elementData F2233_size) e2233 hml rfl pd0 rfl (W := 1) (argsL := []) (rest := [(.ref b2233)]) rfl rfl at_9 12 rfl ?_
  intro v2234 T2234 L2234 hq2234 X2234
  obtain ⟨rfl, N2234q, K2234, f2234_0, f2234_1, f2234_2, f2234_3⟩ := hq2234
  have O2234 := extK O2233 K2234 (allS G_b2233 all0)
  have N2234 := Fr.app N0 N2234q
  show Go _ _ _ _ (State.setTop _ (mkF _ 12 _ [(.ref b2233)]))
  refine gAstore X2234 H at_12 rfl (Ls' := #[vJ p0, .second, vI p1, vI p2, vI p3, vI 3, vR b2233, .unset, .unset, .unset, .unset, .unset, .unset, .unset, .unset, .unset]) rfl 14 rfl ?_
  refine gIload X2234 H at_14 rfl 16 rfl ?_
  refine gIfN X2234 H at_16 (by decide) 19 rfl ?_
  refine gAload X2234 H at_19 rfl rfl 21 rfl ?_
  refine gBipush X2234 H at_21 (z := 10) rfl 23 rfl ?_
  refine gStatic X2234 H hZ hown (hw _ wd26) (hw _ wd27) (by decide) (hw _ wd29) (hw _ wd28) (rm714_5 B _ O2234) rfl hml rfl pd5 rfl (W := 1) (argsL := [(.int 10)]) (rest := [(.ref b2233)]) rfl rfl at_23 26 rfl ?_
  intro v2235 T2235 L2235 hq2235 X2235
  obtain ⟨b2235_0, rfl, N2235q, K2235, f2235_0⟩ := hq2235
  have O2235 := extK O2234 K2235 all0
  have N2235 := Fr.app N2234 N2235q
  show Go _ _ _ _ (State.setTop _ (mkF _ 26 _ [(.ref b2235_0), (.ref b2233)]))
  have c2236 := (f2234_0.keep K2235)
  have c2237 := (f2234_1.keep K2235 nin0)
  have c2238 := (f2234_2.keep K2235 nin0)
  have c2239 := (f2234_3.keep K2235 nin0)
  refine gVirt X2235 H hZ hown (hw _ wd33) (hw _ wd34) (hw _ wd36) (hw _ wd35) (by decide) c2236 (hw _ wd37) (hw _ wd2) (rm787_6 B b2233 b2235_0 _ O2235 c2237 c2236 G_b2233 c2238 c2239 f2235_0) rfl hml rfl pd17 rfl (W := 0) (argsL := [(.ref b2235_0)]) (rest := []) rfl rfl at_26 29 rfl ?_
  intro v2240 T2240 L2240 hq2240 X2240
  obtain ⟨b2240_0, k2240_0, rfl, N2240q, K2240, s2240_0, f2240_0, f2240_1, f2240_2, f2240_3, f2240_4, f2240_5⟩ := hq2240
  have M2241 := (Nat.le_trans (Nat.le_trans (Nat.le_trans M0 E2233.1) K2234.1) K2235.1)
  have G_b2240_0 := Nat.le_trans O2235.1 s2240_0
  have sz_b2240_0 := Nat.le_trans M2241 s2240_0
  have ne_b2233_b2240_0 : b2233 ≠ b2240_0 := neB c2236.lt s2240_0
  have ne_b2235_0_b2240_0 : b2235_0 ≠ b2240_0 := neB f2235_0.lt s2240_0
  have O2240 := extK O2235 K2240 (allS G_b2233 all0)
  have N2240 := Fr.app N2235 N2240q
  show Go _ _ _ _ (State.setTop _ (mkF _ 29 _ [(.int 1)]))
  refine gPop X2240 H at_29 rfl 30 rfl ?_
  refine gIload X2240 H at_30 rfl 32 rfl ?_
  refine gIconst X2240 H at_32 (z := 1) rfl 33 rfl ?_
  refine gCmpN X2240 H at_33 (by decide) 36 rfl ?_
  refine gAload X2240 H at_36 rfl rfl 38 rfl ?_
  refine gBipush X2240 H at_38 (z := 11) rfl 40 rfl ?_
  refine gStatic X2240 H hZ hown (hw _ wd26) (hw _ wd27) (by decide) (hw _ wd29) (hw _ wd28) (rm1395_5 B _ O2240) rfl hml rfl pd5 rfl (W := 1) (argsL := [(.int 11)]) (rest := [(.ref b2233)]) rfl rfl at_40 43 rfl ?_
  intro v2242 T2242 L2242 hq2242 X2242
  obtain ⟨b2242_0, rfl, N2242q, K2242, f2242_0⟩ := hq2242
  have O2242 := extK O2240 K2242 all0
  have N2242 := Fr.app N2240 N2242q
  show Go _ _ _ _ (State.setTop _ (mkF _ 43 _ [(.ref b2242_0), (.ref b2233)]))
  have c2243 := (f2240_1.keep K2242)
  have c2244 := (f2240_0.keep K2242 nin0)
  have c2245 := (f2240_2.keep K2242 nin0)
  have c2246 := (f2240_3.keep K2242 nin0)
  have c2247 := (f2240_4.keep K2242 nin0)
  refine gVirt X2242 H hZ hown (hw _ wd33) (hw _ wd34) (hw _ wd36) (hw _ wd35) (by decide) c2243 (hw _ wd37) (hw _ wd2) (rm1445_6 B b2233 b2242_0 b2240_0 k2240_0 b2235_0 _ O2242 c2244 c2243 G_b2233 c2245 c2246 ne_b2233_b2240_0 (Arv.arl c2247) c2247 f2242_0 f2240_5 G_b2240_0) rfl hml rfl pd17 rfl (W := 0) (argsL := [(.ref b2242_0)]) (rest := []) rfl rfl at_43 46 rfl ?_
  intro v2248 T2248 L2248 hq2248 X2248
  obtain ⟨rfl, N2248q, K2248, f2248_0, f2248_1, f2248_2, f2248_3, f2248_4⟩ := hq2248
  have O2248 := extK O2242 K2248 (allS G_b2233 (allS G_b2240_0 all0))
  have N2248 := Fr.app N2242 N2248q
  show Go _ _ _ _ (State.setTop _ (mkF _ 46 _ [(.int 1)]))
  refine gPop X2248 H at_46 rfl 47 rfl ?_
  refine gIload X2248 H at_47 rfl 49 rfl ?_
  refine gIconst X2248 H at_49 (z := 2) rfl 50 rfl ?_
  refine gCmpN X2248 H at_50 (by decide) 53 rfl ?_
  refine gAload X2248 H at_53 rfl rfl 55 rfl ?_
  refine gBipush X2248 H at_55 (z := 12) rfl 57 rfl ?_
  refine gStatic X2248 H hZ hown (hw _ wd26) (hw _ wd27) (by decide) (hw _ wd29) (hw _ wd28) (rm2252_5 B _ O2248) rfl hml rfl pd5 rfl (W := 1) (argsL := [(.int 12)]) (rest := [(.ref b2233)]) rfl rfl at_57 60 rfl ?_
  intro v2253 T2253 L2253 hq2253 X2253
  obtain ⟨b2253_0, rfl, N2253q, K2253, f2253_0⟩ := hq2253
  have O2253 := extK O2248 K2253 all0
  have N2253 := Fr.app N2248 N2253q
  show Go _ _ _ _ (State.setTop _ (mkF _ 60 _ [(.ref b2253_0), (.ref b2233)]))
  have c2254 := (f2248_1.keep K2253)
  have c2303 := (f2248_0.keep K2253 nin0)
  have c2304 := (f2248_2.keep K2253 nin0)
  have c2305 := (f2248_3.keep K2253 nin0)
  have c2306 := (f2248_4.keep K2253 nin0)
  refine gVirt X2253 H hZ hown (hw _ wd33) (hw _ wd34) (hw _ wd36) (hw _ wd35) (by decide) c2254 (hw _ wd37) (hw _ wd2) (rm2302_6 B b2233 b2253_0 b2240_0 k2240_0 b2235_0 b2242_0 _ O2253 c2303 c2254 G_b2233 c2304 c2305 ne_b2233_b2240_0 (Arv.arl c2306) c2306 f2253_0 f2240_5 G_b2240_0) rfl hml rfl pd17 rfl (W := 0) (argsL := [(.ref b2253_0)]) (rest := []) rfl rfl at_60 63 rfl ?_
  intro v2307 T2307 L2307 hq2307 X2307
  obtain ⟨rfl, N2307q, K2307, f2307_0, f2307_1, f2307_2, f2307_3, f2307_4⟩ := hq2307
  have O2307 := extK O2253 K2307 (allS G_b2233 (allS G_b2240_0 all0))
  have N2307 := Fr.app N2253 N2307q
  show Go _ _ _ _ (State.setTop _ (mkF _ 63 _ [(.int 1)]))
  refine gPop X2307 H at_63 rfl 64 rfl ?_
  refine gNew X2307 H hZ hown (hw _ wd64) (hw _ wd65) (hw _ wd66) rfl (by decide) (by decide) at_64 67 rfl ?_
  intro T2308 h2308 b2308 X2308 e2308 z2308 E2308 A2308 D2308
  have M2309 := (Nat.le_trans (Nat.le_trans (Nat.le_trans (Nat.le_trans (Nat.le_trans M2241 K2240.1) K2242.1) K2248.1) K2253.1) K2307.1)
  have G_b2308 := Nat.le_trans O2307.1 (Nat.le_of_eq z2308)
  have sz_b2308 := Nat.le_trans M2309 (Nat.le_of_eq z2308)
  have ne_b2233_b2308 : b2233 ≠ b2308 := neB f2307_1.lt (Nat.le_of_eq z2308)
  have c2310 := (((((f2235_0.keep K2240).keep K2242).keep K2248).keep K2253).keep K2307)
  have ne_b2235_0_b2308 : b2235_0 ≠ b2308 := neB c2310.lt (Nat.le_of_eq z2308)
  have ne_b2240_0_b2308 : b2240_0 ≠ b2308 := neB f2307_4.lt (Nat.le_of_eq z2308)
  have c2311 := (((f2242_0.keep K2248).keep K2253).keep K2307)
  have ne_b2242_0_b2308 : b2242_0 ≠ b2308 := neB c2311.lt (Nat.le_of_eq z2308)
  have c2312 := (f2253_0.keep K2307)
  have ne_b2253_0_b2308 : b2253_0 ≠ b2308 := neB c2312.lt (Nat.le_of_eq z2308)
  have O2308 := extT O2307 E2308
  have F2308_serial : Fld Z h2308 b2308 cs3 "serial" "I" (.int 0) := D2308 (Or.inr (hw _ wd72)) (ty := .int) (by decide)
  have F2308_buffer : Fld Z h2308 b2308 cs3 "buffer" cs2 .null := D2308 (Or.inl (hw _ wd97)) (ty := (.array (.object "java/lang/Object"))) (by decide)
  have F2308_size : Fld Z h2308 b2308 cs3 "size" "I" (.int 0) := D2308 (Or.inl (hw _ wd99)) (ty := .int) (by decide)
  have F2308_firstNumber : Fld Z h2308 b2308 cs3 "firstNumber" "J" (.long 0) := D2308 (Or.inl (hw _ wd106)) (ty := .long) (by decide)
  have F2308_head : Fld Z h2308 b2308 cs3 "head" "I" (.int 0) := D2308 (Or.inl (hw _ wd126)) (ty := .int) (by decide)
  refine gDup X2308 H at_67 rfl 68 rfl ?_
  refine gIconst X2308 H at_68 (z := 1) rfl 69 rfl ?_
  refine gAload X2308 H at_69 rfl rfl 71 rfl ?_
  have c2391 := (f2307_1.ext E2308)
  have c2392 := (f2307_3.ext E2308)
  have c2393 := (f2307_2.ext E2308)
  have c2394 := (f2307_4.ext E2308)
  have c2395 := (c2312.ext E2308)
  have c2396 := (c2311.ext E2308)
  have c2397 := (c2310.ext E2308)
  refine gSpecial X2308 H hZ hown rfl rfl (hw _ wd67) (hw _ wd68) (by decide) (hw _ wd69) (hw _ wd66) (rm2390_11 B b2308 b2233 b2240_0 k2240_0 b2235_0 b2242_0 b2253_0 _ O2308 A2308 F2308_serial G_b2308 c2391 c2392 ne_b2233_b2308 c2393 c2394 ne_b2240_0_b2308 c2395 c2396 c2397 F2308_buffer F2308_size F2308_firstNumber F2308_head) e2308 hml rfl pd4 rfl (W := 1) (argsL := [(.int 1), (.ref b2233)]) (rest := [(.ref b2308)]) rfl rfl at_71 74 rfl ?_
  intro v2398 T2398 L2398 hq2398 X2398
  obtain ⟨b2398_0, k2398_0, rfl, N2398q, K2398, s2398_0, f2398_0, f2398_1, f2398_2, f2398_3, f2398_4, f2398_5, f2398_6, f2398_7⟩ := hq2398
  have M2399 := (Nat.le_trans M2309 E2308.1)
  have G_b2398_0 := Nat.le_trans O2308.1 s2398_0
  have sz_b2398_0 := Nat.le_trans M2399 s2398_0
  have ne_b2233_b2398_0 : b2233 ≠ b2398_0 := neB c2391.lt s2398_0
  have ne_b2235_0_b2398_0 : b2235_0 ≠ b2398_0 := neB c2397.lt s2398_0
  have ne_b2240_0_b2398_0 : b2240_0 ≠ b2398_0 := neB c2394.lt s2398_0
  have ne_b2242_0_b2398_0 : b2242_0 ≠ b2398_0 := neB c2396.lt s2398_0
  have ne_b2253_0_b2398_0 : b2253_0 ≠ b2398_0 := neB c2395.lt s2398_0
  have ne_b2308_b2398_0 : b2308 ≠ b2398_0 := neB A2308.lt s2398_0
  have O2398 := extK O2308 K2398 (allS G_b2308 all0)
  have N2398 := Fr.app N2307 N2398q
  show Go _ _ _ _ (State.setTop _ (mkF _ 74 _ [(.ref b2308)]))
  refine gAstore X2398 H at_74 rfl (Ls' := #[vJ p0, .second, vI p1, vI p2, vI p3, vI 3, vR b2233, vR b2308, .unset, .unset, .unset, .unset, .unset, .unset, .unset, .unset]) rfl 76 rfl ?_
  refine gIload X2398 H at_76 rfl 78 rfl ?_
  refine gIconst X2398 H at_78 (z := 3) rfl 79 rfl ?_
  refine g_iand X2398 H at_79 (z := (p3 &&& (3 : Int32))) rfl 80 rfl ?_
  refine gIstore X2398 H at_80 (Ls' := #[vJ p0, .second, vI p1, vI p2, vI p3, vI 3, vR b2233, vR b2308, vI (p3 &&& (3 : Int32)), .unset, .unset, .unset, .unset, .unset, .unset, .unset]) rfl 82 rfl ?_
  refine gIload X2398 H at_82 rfl 84 rfl ?_
  refine gIconst X2398 H at_84 (z := 4) rfl 85 rfl ?_
  refine g_iand X2398 H at_85 (z := (p3 &&& (4 : Int32))) rfl 86 rfl ?_
  by_cases hc2400 : (p3 &&& (4 : Int32)) = (0 : Int32)
  · refine gIfY X2398 H at_86 ((if0 _ _).trans (teq hc2400).1) (by decide) 93 rfl ?_
    refine gIconst X2398 H at_93 (z := 0) rfl 94 rfl ?_
    refine gIstore X2398 H at_94 (Ls' := #[vJ p0, .second, vI p1, vI p2, vI p3, vI 3, vR b2233, vR b2308, vI (p3 &&& (3 : Int32)), vI 0, .unset, .unset, .unset, .unset, .unset, .unset]) rfl 96 rfl ?_
    refine gIload X2398 H at_96 rfl 98 rfl ?_
    by_cases hc2401 : (0 : Int32) < (p3 &&& (3 : Int32))
    · refine gIfN X2398 H at_98 ((if0 _ _).trans (tlt hc2401).2.2.2) 101 rfl ?_
      refine gAload X2398 H at_101 rfl rfl 103 rfl ?_
      refine gIload X2398 H at_103 rfl 105 rfl ?_
      have c2621 := (c2397.keep K2398)
      have c2622 := (c2396.keep K2398)
      have c2623 := (c2395.keep K2398)
      refine gStatic X2398 H hZ hown (hw _ wd107) (hw _ wd108) (by decide) (hw _ wd110) (hw _ wd109) (rm2620_15 B b2308 b2398_0 k2398_0 b2235_0 b2242_0 b2253_0 _ O2398 f2398_0 f2398_4 f2398_3 (Arv.arl f2398_2) f2398_6 f2398_2 c2621 c2622 c2623 G_b2308 f2398_1 f2398_5) rfl hml rfl pd9 rfl (W := 0) (argsL := [(.ref b2308), (.int 0)]) (rest := []) rfl rfl at_105 108 rfl ?_
      intro v2624 T2624 L2624 hq2624 X2624
      obtain ⟨b2624_0, b2624_1, k2624_0, rfl, N2624q, K2624, s2624_1, f2624_0, f2624_1, f2624_2, f2624_3, f2624_4, f2624_5, f2624_6, f2624_7, f2624_8, f2624_9⟩ := hq2624
      have M2625 := (Nat.le_trans M2399 K2398.1)
      have G_b2624_1 := Nat.le_trans O2398.1 s2624_1
      have sz_b2624_1 := Nat.le_trans M2625 s2624_1
      have c2626 := (c2391.keep K2398)
      have ne_b2233_b2624_1 : b2233 ≠ b2624_1 := neB c2626.lt s2624_1
      have ne_b2235_0_b2624_1 : b2235_0 ≠ b2624_1 := neB c2621.lt s2624_1
      have c2627 := (c2394.keep K2398 (ninS ne_b2240_0_b2308 nin0))
      have ne_b2240_0_b2624_1 : b2240_0 ≠ b2624_1 := neB c2627.lt s2624_1
      have ne_b2242_0_b2624_1 : b2242_0 ≠ b2624_1 := neB c2622.lt s2624_1
      have ne_b2253_0_b2624_1 : b2253_0 ≠ b2624_1 := neB c2623.lt s2624_1
      have ne_b2308_b2624_1 : b2308 ≠ b2624_1 := neB f2398_0.lt s2624_1
      have ne_b2398_0_b2624_1 : b2398_0 ≠ b2624_1 := neB f2398_2.lt s2624_1
      have O2624 := extK O2398 K2624 (allS G_b2308 all0)
      have N2624 := Fr.app N2398 N2624q
      show Go _ _ _ _ (State.setTop _ (mkF _ 108 _ []))
      refine gIload X2624 H at_108 rfl 110 rfl ?_
      refine gIconst X2624 H at_110 (z := 1) rfl 111 rfl ?_
      by_cases hc2628 : (1 : Int32) < (p3 &&& (3 : Int32))
      · refine gCmpN X2624 H at_111 (tlt hc2628).2.2.2 114 rfl ?_
        refine gAload X2624 H at_114 rfl rfl 116 rfl ?_
        refine gIload X2624 H at_116 rfl 118 rfl ?_
        refine gStatic X2624 H hZ hown (hw _ wd107) (hw _ wd108) (by decide) (hw _ wd110) (hw _ wd109) (rm2734_15 B b2308 b2624_1 k2624_0 b2235_0 b2242_0 b2253_0 b2624_0 _ O2624 f2624_1 (Ne.symm ne_b2308_b2624_1) f2624_2 f2624_3 (Arv.arl f2624_7) f2624_4 G_b2308 f2624_6 f2624_7 f2624_9 G_b2624_1 f2624_5) rfl hml rfl pd9 rfl (W := 0) (argsL := [(.ref b2308), (.int 0)]) (rest := []) rfl rfl at_118 121 rfl ?_
        intro v2735 T2735 L2735 hq2735 X2735
        obtain ⟨b2735_0, rfl, N2735q, K2735, f2735_0, f2735_1, f2735_2, f2735_3, f2735_4, f2735_5, f2735_6, f2735_7⟩ := hq2735
        have O2735 := extK O2624 K2735 (allS G_b2308 (allS G_b2624_1 all0))
        have N2735 := Fr.app N2624 N2735q
        show Go _ _ _ _ (State.setTop _ (mkF _ 121 _ []))
        refine gIload X2735 H at_121 rfl 123 rfl ?_
        refine gIconst X2735 H at_123 (z := 2) rfl 124 rfl ?_
        by_cases hc2736 : (2 : Int32) < (p3 &&& (3 : Int32))
        · refine gCmpN X2735 H at_124 (tlt hc2736).2.2.2 127 rfl ?_
          refine gAload X2735 H at_127 rfl rfl 129 rfl ?_
          refine gIload X2735 H at_129 rfl 131 rfl ?_
          refine gStatic X2735 H hZ hown (hw _ wd107) (hw _ wd108) (by decide) (hw _ wd110) (hw _ wd109) (rm2842_15 B b2308 b2624_1 k2624_0 b2235_0 b2242_0 b2253_0 b2735_0 b2624_0 _ O2735 f2735_1 (Ne.symm ne_b2308_b2624_1) f2735_2 f2735_3 (Arv.arl f2735_6) f2735_4 G_b2308 f2735_5 f2735_6 f2624_9 G_b2624_1 f2735_7) rfl hml rfl pd9 rfl (W := 0) (argsL := [(.ref b2308), (.int 0)]) (rest := []) rfl rfl at_131 134 rfl ?_
          intro v2843 T2843 L2843 hq2843 X2843
          obtain ⟨b2843_0, rfl, N2843q, K2843, f2843_0, f2843_1, f2843_2, f2843_3, f2843_4, f2843_5, f2843_6, f2843_7⟩ := hq2843
          have O2843 := extK O2735 K2843 (allS G_b2308 (allS G_b2624_1 all0))
          have N2843 := Fr.app N2735 N2843q
          show Go _ _ _ _ (State.setTop _ (mkF _ 134 _ []))
          have hP2844 : (p3 &&& (3 : Int32)) = (3 : Int32) := pk3 hc2736
          rw [hP2844]
          refine gIload X2843 H at_134 rfl 136 rfl ?_
          refine gIfY X2843 H at_136 (by decide) (by decide) 163 rfl ?_
          refine gIload X2843 H at_163 rfl 165 rfl ?_
          refine gIload X2843 H at_165 rfl 167 rfl ?_
          refine g_iadd X2843 H at_167 (z := 6) (by decide) 168 rfl ?_
          refine gIstore X2843 H at_168 (Ls' := #[vJ p0, .second, vI p1, vI p2, vI p3, vI 6, vR b2233, vR b2308, vI 3, vI 0, .unset, .unset, .unset, .unset, .unset, .unset]) rfl 170 rfl ?_
          refine gIload X2843 H at_170 rfl 172 rfl ?_
          refine g_ineg X2843 H at_172 (z := (-3)) (by decide) 173 rfl ?_
          refine g_i2l X2843 H at_173 (z := (-3)) (by decide) 174 rfl ?_
          refine gLstore X2843 H at_174 (Ls' := #[vJ p0, .second, vI p1, vI p2, vI p3, vI 6, vR b2233, vR b2308, vI 3, vI 0, vJ (-3), .second, .unset, .unset, .unset, .unset]) rfl 176 rfl ?_
          exact tail2845_176 B p0 p1 p2 p3 b2233 b2308 ((3 : Int32)) ((0 : Int32)) ((-3 : Int64)) X2843 H hml hZ hown hnm hret hlk N2843 (by decide) (by decide) rfl O2843 f2843_1 f2843_2 f2843_5
        · refine gCmpY X2735 H at_124 (flt hc2736).2.2.2 (by decide) 134 rfl ?_
          have hP2920 : (p3 &&& (3 : Int32)) = (2 : Int32) := pk2 hc2628 hc2736
          rw [hP2920]
          refine gIload X2735 H at_134 rfl 136 rfl ?_
          refine gIfY X2735 H at_136 (by decide) (by decide) 163 rfl ?_
          refine gIload X2735 H at_163 rfl 165 rfl ?_
          refine gIload X2735 H at_165 rfl 167 rfl ?_
          refine g_iadd X2735 H at_167 (z := 5) (by decide) 168 rfl ?_
          refine gIstore X2735 H at_168 (Ls' := #[vJ p0, .second, vI p1, vI p2, vI p3, vI 5, vR b2233, vR b2308, vI 2, vI 0, .unset, .unset, .unset, .unset, .unset, .unset]) rfl 170 rfl ?_
          refine gIload X2735 H at_170 rfl 172 rfl ?_
          refine g_ineg X2735 H at_172 (z := (-2)) (by decide) 173 rfl ?_
          refine g_i2l X2735 H at_173 (z := (-2)) (by decide) 174 rfl ?_
          refine gLstore X2735 H at_174 (Ls' := #[vJ p0, .second, vI p1, vI p2, vI p3, vI 5, vR b2233, vR b2308, vI 2, vI 0, vJ (-2), .second, .unset, .unset, .unset, .unset]) rfl 176 rfl ?_
          exact tail2028_176 B p0 p1 p2 p3 b2233 b2308 ((2 : Int32)) ((0 : Int32)) ((-2 : Int64)) X2735 H hml hZ hown hnm hret hlk N2735 (by decide) (by decide) rfl O2735 f2735_1 f2735_2 f2735_5
      · refine gCmpY X2624 H at_111 (flt hc2628).2.2.2 (by decide) 121 rfl ?_
        refine gIload X2624 H at_121 rfl 123 rfl ?_
        refine gIconst X2624 H at_123 (z := 2) rfl 124 rfl ?_
        refine gCmpY X2624 H at_124 (flt (fun q => hc2628 (Int32.lt_trans (by decide) q))).2.2.2 (by decide) 134 rfl ?_
        have hP2921 : (p3 &&& (3 : Int32)) = (1 : Int32) := pk1 hc2401 hc2628
        rw [hP2921]
        refine gIload X2624 H at_134 rfl 136 rfl ?_
        refine gIfY X2624 H at_136 (by decide) (by decide) 163 rfl ?_
        refine gIload X2624 H at_163 rfl 165 rfl ?_
        refine gIload X2624 H at_165 rfl 167 rfl ?_
        refine g_iadd X2624 H at_167 (z := 4) (by decide) 168 rfl ?_
        refine gIstore X2624 H at_168 (Ls' := #[vJ p0, .second, vI p1, vI p2, vI p3, vI 4, vR b2233, vR b2308, vI 1, vI 0, .unset, .unset, .unset, .unset, .unset, .unset]) rfl 170 rfl ?_
        refine gIload X2624 H at_170 rfl 172 rfl ?_
        refine g_ineg X2624 H at_172 (z := (-1)) (by decide) 173 rfl ?_
        refine g_i2l X2624 H at_173 (z := (-1)) (by decide) 174 rfl ?_
        refine gLstore X2624 H at_174 (Ls' := #[vJ p0, .second, vI p1, vI p2, vI p3, vI 4, vR b2233, vR b2308, vI 1, vI 0, vJ (-1), .second, .unset, .unset, .unset, .unset]) rfl 176 rfl ?_
        exact tail1242_176 B p0 p1 p2 p3 b2233 b2308 ((1 : Int32)) ((0 : Int32)) ((-1 : Int64)) X2624 H hml hZ hown hnm hret hlk N2624 (by decide) (by decide) rfl O2624 f2624_1 f2624_2 f2624_6
    · refine gIfY X2398 H at_98 ((if0 _ _).trans (flt hc2401).2.2.2) (by decide) 108 rfl ?_
      refine gIload X2398 H at_108 rfl 110 rfl ?_
      refine gIconst X2398 H at_110 (z := 1) rfl 111 rfl ?_
      refine gCmpY X2398 H at_111 (flt (fun q => hc2401 (Int32.lt_trans (by decide) q))).2.2.2 (by decide) 121 rfl ?_
      refine gIload X2398 H at_121 rfl 123 rfl ?_
      refine gIconst X2398 H at_123 (z := 2) rfl 124 rfl ?_
      refine gCmpY X2398 H at_124 (flt (fun q => hc2401 (Int32.lt_trans (by decide) q))).2.2.2 (by decide) 134 rfl ?_
      have hP2922 : (p3 &&& (3 : Int32)) = (0 : Int32) := pk0 hc2401
      rw [hP2922]
      refine gIload X2398 H at_134 rfl 136 rfl ?_
      refine gIfY X2398 H at_136 (by decide) (by decide) 163 rfl ?_
      refine gIload X2398 H at_163 rfl 165 rfl ?_
      refine gIload X2398 H at_165 rfl 167 rfl ?_
      refine g_iadd X2398 H at_167 (z := 3) (by decide) 168 rfl ?_
      refine gIstore X2398 H at_168 (Ls' := #[vJ p0, .second, vI p1, vI p2, vI p3, vI 3, vR b2233, vR b2308, vI 0, vI 0, .unset, .unset, .unset, .unset, .unset, .unset]) rfl 170 rfl ?_
      refine gIload X2398 H at_170 rfl 172 rfl ?_
      refine g_ineg X2398 H at_172 (z := 0) (by decide) 173 rfl ?_
      refine g_i2l X2398 H at_173 (z := 0) (by decide) 174 rfl ?_
      refine gLstore X2398 H at_174 (Ls' := #[vJ p0, .second, vI p1, vI p2, vI p3, vI 3, vR b2233, vR b2308, vI 0, vI 0, vJ 0, .second, .unset, .unset, .unset, .unset]) rfl 176 rfl ?_
      exact tail556_176 B p0 p1 p2 p3 b2233 b2308 ((0 : Int32)) ((0 : Int32)) ((0 : Int64)) X2398 H hml hZ hown hnm hret hlk N2398 (by decide) (by decide) rfl O2398 f2398_0 f2398_4 f2398_5
  · refine gIfN X2398 H at_86 ((if0 _ _).trans (feq hc2400).1) 89 rfl ?_
    refine gIconst X2398 H at_89 (z := 1) rfl 90 rfl ?_
    refine gGoto X2398 H at_90 (by decide) 94 rfl ?_
    refine gIstore X2398 H at_94 (Ls' := #[vJ p0, .second, vI p1, vI p2, vI p3, vI 3, vR b2233, vR b2308, vI (p3 &&& (3 : Int32)), vI 1, .unset, .unset, .unset, .unset, .unset, .unset]) rfl 96 rfl ?_
    refine gIload X2398 H at_96 rfl 98 rfl ?_
    by_cases hc2923 : (0 : Int32) < (p3 &&& (3 : Int32))
    · refine gIfN X2398 H at_98 ((if0 _ _).trans (tlt hc2923).2.2.2) 101 rfl ?_
      refine gAload X2398 H at_101 rfl rfl 103 rfl ?_
      refine gIload X2398 H at_103 rfl 105 rfl ?_
      refine gStatic X2398 H hZ hown (hw _ wd107) (hw _ wd108) (by decide) (hw _ wd110) (hw _ wd109) (rm2977_15 B b2308 b2398_0 k2398_0 b2235_0 b2242_0 b2253_0 _ O2398 f2398_0 ne_b2308_b2398_0 f2398_4 f2398_3 f2398_6 (Arv.arl f2398_2) f2398_2 G_b2398_0 G_b2308 f2398_5 f2398_1) rfl hml rfl pd9 rfl (W := 0) (argsL := [(.ref b2308), (.int 1)]) (rest := []) rfl rfl at_105 108 rfl ?_
      intro v2978 T2978 L2978 hq2978 X2978
      obtain ⟨rfl, N2978q, K2978, f2978_0, f2978_1, f2978_2, f2978_3, f2978_4, f2978_5, f2978_6⟩ := hq2978
      have O2978 := extK O2398 K2978 (allS G_b2398_0 (allS G_b2308 all0))
      have N2978 := Fr.app N2398 N2978q
      show Go _ _ _ _ (State.setTop _ (mkF _ 108 _ []))
      refine gIload X2978 H at_108 rfl 110 rfl ?_
      refine gIconst X2978 H at_110 (z := 1) rfl 111 rfl ?_
      by_cases hc2979 : (1 : Int32) < (p3 &&& (3 : Int32))
      · refine gCmpN X2978 H at_111 (tlt hc2979).2.2.2 114 rfl ?_
        refine gAload X2978 H at_114 rfl rfl 116 rfl ?_
        refine gIload X2978 H at_116 rfl 118 rfl ?_
        refine gStatic X2978 H hZ hown (hw _ wd107) (hw _ wd108) (by decide) (hw _ wd110) (hw _ wd109) (rm3056_15 B b2308 b2398_0 k2398_0 b2242_0 b2253_0 _ O2978 f2978_0 ne_b2308_b2398_0 f2978_1 f2978_2 f2978_3 (Arv.arl f2978_4) f2978_4 G_b2398_0 G_b2308 f2978_5 f2978_6) rfl hml rfl pd9 rfl (W := 0) (argsL := [(.ref b2308), (.int 1)]) (rest := []) rfl rfl at_118 121 rfl ?_
        intro v3057 T3057 L3057 hq3057 X3057
        obtain ⟨rfl, N3057q, K3057, f3057_0, f3057_1, f3057_2, f3057_3, f3057_4, f3057_5, f3057_6⟩ := hq3057
        have O3057 := extK O2978 K3057 (allS G_b2398_0 (allS G_b2308 all0))
        have N3057 := Fr.app N2978 N3057q
        show Go _ _ _ _ (State.setTop _ (mkF _ 121 _ []))
        refine gIload X3057 H at_121 rfl 123 rfl ?_
        refine gIconst X3057 H at_123 (z := 2) rfl 124 rfl ?_
        by_cases hc3058 : (2 : Int32) < (p3 &&& (3 : Int32))
        · refine gCmpN X3057 H at_124 (tlt hc3058).2.2.2 127 rfl ?_
          refine gAload X3057 H at_127 rfl rfl 129 rfl ?_
          refine gIload X3057 H at_129 rfl 131 rfl ?_
          refine gStatic X3057 H hZ hown (hw _ wd107) (hw _ wd108) (by decide) (hw _ wd110) (hw _ wd109) (rm3137_15 B b2308 b2398_0 k2398_0 b2253_0 _ O3057 f3057_0 ne_b2308_b2398_0 f3057_1 f3057_2 f3057_3 (Arv.arl f3057_4) f3057_4 G_b2398_0 G_b2308 f3057_5 f3057_6) rfl hml rfl pd9 rfl (W := 0) (argsL := [(.ref b2308), (.int 1)]) (rest := []) rfl rfl at_131 134 rfl ?_
          intro v3138 T3138 L3138 hq3138 X3138
          obtain ⟨rfl, N3138q, K3138, f3138_0, f3138_1, f3138_2, f3138_3, f3138_4, f3138_5, f3138_6⟩ := hq3138
          have O3138 := extK O3057 K3138 (allS G_b2398_0 (allS G_b2308 all0))
          have N3138 := Fr.app N3057 N3138q
          show Go _ _ _ _ (State.setTop _ (mkF _ 134 _ []))
          have hP3139 : (p3 &&& (3 : Int32)) = (3 : Int32) := pk3 hc3058
          rw [hP3139]
          refine gIload X3138 H at_134 rfl 136 rfl ?_
          refine gIfN X3138 H at_136 (by decide) 139 rfl ?_
          refine gIload X3138 H at_139 rfl 141 rfl ?_
          refine gIload X3138 H at_141 rfl 143 rfl ?_
          refine gStatic X3138 H hZ hown (hw _ wd127) (hw _ wd128) (by decide) (hw _ wd129) (hw _ wd59) (rm3140_19 B _ O3138) rfl hml rfl pd2 rfl (W := 0) (argsL := [(.int 3), (.int 3)]) (rest := []) rfl rfl at_143 146 rfl ?_
          intro v3141 T3141 L3141 hq3141 X3141
          obtain ⟨rfl, e3141, rfl⟩ := hq3141
          have N3141 := Fr.app N3138 (Fr.nil _)
          show Go _ _ _ _ (State.setTop _ (mkF _ 146 _ [(.int 3)]))
          refine gIstore X3141 H at_146 (Ls' := #[vJ p0, .second, vI p1, vI p2, vI p3, vI 3, vR b2233, vR b2308, vI 3, vI 1, .unset, .unset, vI 3, .unset, .unset, .unset]) rfl 148 rfl ?_
          refine gIload X3141 H at_148 rfl 150 rfl ?_
          refine gIload X3141 H at_150 rfl 152 rfl ?_
          refine g_isub X3141 H at_152 (z := 0) (by decide) 153 rfl ?_
          refine gIstore X3141 H at_153 (Ls' := #[vJ p0, .second, vI p1, vI p2, vI p3, vI 0, vR b2233, vR b2308, vI 3, vI 1, .unset, .unset, vI 3, .unset, .unset, .unset]) rfl 155 rfl ?_
          refine gIload X3141 H at_155 rfl 157 rfl ?_
          refine g_i2l X3141 H at_157 (z := 3) (by decide) 158 rfl ?_
          refine gLstore X3141 H at_158 (Ls' := #[vJ p0, .second, vI p1, vI p2, vI p3, vI 0, vR b2233, vR b2308, vI 3, vI 1, vJ 3, .second, vI 3, .unset, .unset, .unset]) rfl 160 rfl ?_
          refine gGoto X3141 H at_160 (by decide) 176 rfl ?_
          exact tail698_176 B p0 p1 p2 p3 b2233 b2308 ((3 : Int32)) ((1 : Int32)) ((3 : Int64)) ((3 : Int32)) X3141 H hml hZ hown hnm hret hlk N3141 (by decide) (by decide) e3141 O3138 f3138_0 f3138_1 f3138_5
        · refine gCmpY X3057 H at_124 (flt hc3058).2.2.2 (by decide) 134 rfl ?_
          have hP3142 : (p3 &&& (3 : Int32)) = (2 : Int32) := pk2 hc2979 hc3058
          rw [hP3142]
          refine gIload X3057 H at_134 rfl 136 rfl ?_
          refine gIfN X3057 H at_136 (by decide) 139 rfl ?_
          refine gIload X3057 H at_139 rfl 141 rfl ?_
          refine gIload X3057 H at_141 rfl 143 rfl ?_
          refine gStatic X3057 H hZ hown (hw _ wd127) (hw _ wd128) (by decide) (hw _ wd129) (hw _ wd59) (rm3143_19 B _ O3057) rfl hml rfl pd2 rfl (W := 0) (argsL := [(.int 2), (.int 3)]) (rest := []) rfl rfl at_143 146 rfl ?_
          intro v3144 T3144 L3144 hq3144 X3144
          obtain ⟨rfl, e3144, rfl⟩ := hq3144
          have N3144 := Fr.app N3057 (Fr.nil _)
          show Go _ _ _ _ (State.setTop _ (mkF _ 146 _ [(.int 2)]))
          refine gIstore X3144 H at_146 (Ls' := #[vJ p0, .second, vI p1, vI p2, vI p3, vI 3, vR b2233, vR b2308, vI 2, vI 1, .unset, .unset, vI 2, .unset, .unset, .unset]) rfl 148 rfl ?_
          refine gIload X3144 H at_148 rfl 150 rfl ?_
          refine gIload X3144 H at_150 rfl 152 rfl ?_
          refine g_isub X3144 H at_152 (z := 1) (by decide) 153 rfl ?_
          refine gIstore X3144 H at_153 (Ls' := #[vJ p0, .second, vI p1, vI p2, vI p3, vI 1, vR b2233, vR b2308, vI 2, vI 1, .unset, .unset, vI 2, .unset, .unset, .unset]) rfl 155 rfl ?_
          refine gIload X3144 H at_155 rfl 157 rfl ?_
          refine g_i2l X3144 H at_157 (z := 2) (by decide) 158 rfl ?_
          refine gLstore X3144 H at_158 (Ls' := #[vJ p0, .second, vI p1, vI p2, vI p3, vI 1, vR b2233, vR b2308, vI 2, vI 1, vJ 2, .second, vI 2, .unset, .unset, .unset]) rfl 160 rfl ?_
          refine gGoto X3144 H at_160 (by decide) 176 rfl ?_
          exact tail1381_176 B p0 p1 p2 p3 b2233 b2308 ((2 : Int32)) ((1 : Int32)) ((2 : Int64)) ((2 : Int32)) X3144 H hml hZ hown hnm hret hlk N3144 (by decide) (by decide) e3144 O3057 f3057_0 f3057_1 f3057_5
      · refine gCmpY X2978 H at_111 (flt hc2979).2.2.2 (by decide) 121 rfl ?_
        refine gIload X2978 H at_121 rfl 123 rfl ?_
        refine gIconst X2978 H at_123 (z := 2) rfl 124 rfl ?_
        refine gCmpY X2978 H at_124 (flt (fun q => hc2979 (Int32.lt_trans (by decide) q))).2.2.2 (by decide) 134 rfl ?_
        have hP3145 : (p3 &&& (3 : Int32)) = (1 : Int32) := pk1 hc2923 hc2979
        rw [hP3145]
        refine gIload X2978 H at_134 rfl 136 rfl ?_
        refine gIfN X2978 H at_136 (by decide) 139 rfl ?_
        refine gIload X2978 H at_139 rfl 141 rfl ?_
        refine gIload X2978 H at_141 rfl 143 rfl ?_
        refine gStatic X2978 H hZ hown (hw _ wd127) (hw _ wd128) (by decide) (hw _ wd129) (hw _ wd59) (rm3146_19 B _ O2978) rfl hml rfl pd2 rfl (W := 0) (argsL := [(.int 1), (.int 3)]) (rest := []) rfl rfl at_143 146 rfl ?_
        intro v3147 T3147 L3147 hq3147 X3147
        obtain ⟨rfl, e3147, rfl⟩ := hq3147
        have N3147 := Fr.app N2978 (Fr.nil _)
        show Go _ _ _ _ (State.setTop _ (mkF _ 146 _ [(.int 1)]))
        refine gIstore X3147 H at_146 (Ls' := #[vJ p0, .second, vI p1, vI p2, vI p3, vI 3, vR b2233, vR b2308, vI 1, vI 1, .unset, .unset, vI 1, .unset, .unset, .unset]) rfl 148 rfl ?_
        refine gIload X3147 H at_148 rfl 150 rfl ?_
        refine gIload X3147 H at_150 rfl 152 rfl ?_
        refine g_isub X3147 H at_152 (z := 2) (by decide) 153 rfl ?_
        refine gIstore X3147 H at_153 (Ls' := #[vJ p0, .second, vI p1, vI p2, vI p3, vI 2, vR b2233, vR b2308, vI 1, vI 1, .unset, .unset, vI 1, .unset, .unset, .unset]) rfl 155 rfl ?_
        refine gIload X3147 H at_155 rfl 157 rfl ?_
        refine g_i2l X3147 H at_157 (z := 1) (by decide) 158 rfl ?_
        refine gLstore X3147 H at_158 (Ls' := #[vJ p0, .second, vI p1, vI p2, vI p3, vI 2, vR b2233, vR b2308, vI 1, vI 1, vJ 1, .second, vI 1, .unset, .unset, .unset]) rfl 160 rfl ?_
        refine gGoto X3147 H at_160 (by decide) 176 rfl ?_
        exact tail2231_176 B p0 p1 p2 p3 b2233 b2308 ((1 : Int32)) ((1 : Int32)) ((1 : Int64)) ((1 : Int32)) X3147 H hml hZ hown hnm hret hlk N3147 (by decide) (by decide) e3147 O2978 f2978_0 f2978_1 f2978_5
    · refine gIfY X2398 H at_98 ((if0 _ _).trans (flt hc2923).2.2.2) (by decide) 108 rfl ?_
      refine gIload X2398 H at_108 rfl 110 rfl ?_
      refine gIconst X2398 H at_110 (z := 1) rfl 111 rfl ?_
      refine gCmpY X2398 H at_111 (flt (fun q => hc2923 (Int32.lt_trans (by decide) q))).2.2.2 (by decide) 121 rfl ?_
      refine gIload X2398 H at_121 rfl 123 rfl ?_
      refine gIconst X2398 H at_123 (z := 2) rfl 124 rfl ?_
      refine gCmpY X2398 H at_124 (flt (fun q => hc2923 (Int32.lt_trans (by decide) q))).2.2.2 (by decide) 134 rfl ?_
      have hP3148 : (p3 &&& (3 : Int32)) = (0 : Int32) := pk0 hc2923
      rw [hP3148]
      refine gIload X2398 H at_134 rfl 136 rfl ?_
      refine gIfN X2398 H at_136 (by decide) 139 rfl ?_
      refine gIload X2398 H at_139 rfl 141 rfl ?_
      refine gIload X2398 H at_141 rfl 143 rfl ?_
      refine gStatic X2398 H hZ hown (hw _ wd127) (hw _ wd128) (by decide) (hw _ wd129) (hw _ wd59) (rm3149_19 B _ O2398) rfl hml rfl pd2 rfl (W := 0) (argsL := [(.int 0), (.int 3)]) (rest := []) rfl rfl at_143 146 rfl ?_
      intro v3150 T3150 L3150 hq3150 X3150
      obtain ⟨rfl, e3150, rfl⟩ := hq3150
      have N3150 := Fr.app N2398 (Fr.nil _)
      show Go _ _ _ _ (State.setTop _ (mkF _ 146 _ [(.int 0)]))
      refine gIstore X3150 H at_146 (Ls' := #[vJ p0, .second, vI p1, vI p2, vI p3, vI 3, vR b2233, vR b2308, vI 0, vI 1, .unset, .unset, vI 0, .unset, .unset, .unset]) rfl 148 rfl ?_
      refine gIload X3150 H at_148 rfl 150 rfl ?_
      refine gIload X3150 H at_150 rfl 152 rfl ?_
      refine g_isub X3150 H at_152 (z := 3) (by decide) 153 rfl ?_
      refine gIstore X3150 H at_153 (Ls' := #[vJ p0, .second, vI p1, vI p2, vI p3, vI 3, vR b2233, vR b2308, vI 0, vI 1, .unset, .unset, vI 0, .unset, .unset, .unset]) rfl 155 rfl ?_
      refine gIload X3150 H at_155 rfl 157 rfl ?_
      refine g_i2l X3150 H at_157 (z := 0) (by decide) 158 rfl ?_
      refine gLstore X3150 H at_158 (Ls' := #[vJ p0, .second, vI p1, vI p2, vI p3, vI 3, vR b2233, vR b2308, vI 0, vI 1, vJ 0, .second, vI 0, .unset, .unset, .unset]) rfl 160 rfl ?_
      refine gGoto X3150 H at_160 (by decide) 176 rfl ?_
      exact tail3151_176 B p0 p1 p2 p3 b2233 b2308 ((0 : Int32)) ((1 : Int32)) ((0 : Int64)) ((0 : Int32)) X3150 H hml hZ hown hnm hret hlk N3150 (by decide) (by decide) e3150 O2398 f2398_0 f2398_4 f2398_5
theorem lawAll (B : Bg Z a0 wE0 w_cacheI k_wE0 cl_cacheI) (p0 : Int64) (p1 : Int32) (p2 : Int32) (p3 : Int32) :
    Con l Z x code maxLocals ret room_1 #[(.long p0), (.int p1), (.int p2), (.int p3)] Z.heap (fun v h' L => v = some (.int 1) ∧ Fr Z.heap.size L) := by
  rcases m3 p2 with ha0 | ha0 | ha0 | ha0
  · exact lawAll_0 B p0 p1 p2 p3 ha0
  · exact lawAll_1 B p0 p1 p2 p3 ha0
  · exact lawAll_2 B p0 p1 p2 p3 ha0
  · exact lawAll_3 B p0 p1 p2 p3 ha0
end Walk
set_option maxHeartbeats 4000000 in
theorem comes_1 {Post : Tables → Env → Array Value → State → Outcome → State → Prop} (hpost : ∀ tb e args s v u, (limb_1_1.after args s (.returned v) u = true ∧ limb_1_2.after args s (.returned v) u = true ∧ True) → FrameEnd s (.returned v) u (Jvm.fieldLocs frame_1_writes args s ++ Jvm.arrayLocs frame_1_arrays args s ++ Jvm.staticLocs frame_1_statics s) 24 128 → Post tb e args s (.returned v) u) :
    ArmFor flags0 classFile x code maxLocals ret World_1 tables_1 room_1 Calls_1 rest_1 Pre_1 Post := by
  intro l hfl _ _ p e ha hc hk s m args below hf hA hF happ hP
  obtain ⟨hcalls, hrest, hpre⟩ := hP
  obtain ⟨-, -, -, hnamed, -, -, -, hat⟩ := (Spec.applies_iff hf).mp happ
  obtain ⟨hg, hn⟩ := and_e (Cond.before_iff.mp (show (Jvm.Cond.and given_1 narrow_1).before args s = true from hpre))
  obtain ⟨n1, n2⟩ := and_e hg
  obtain ⟨n3, n4⟩ := and_e n2
  obtain ⟨n5, n6⟩ := and_e n4
  obtain ⟨n7, n8⟩ := and_e n6
  obtain ⟨w0, w1, w2, w3, rfl⟩ : ∃ w0 w1 w2 w3 : Value, args = #[w0, w1, w2, w3] := by
    have hs : args.size = 4 := by simpa [Cond.value, given_1] using n1
    obtain ⟨L⟩ := args
    match L, hs with
    | [w0, w1, w2, w3], _ => exact ⟨w0, w1, w2, w3, rfl⟩
  obtain ⟨hsets, hown0⟩ := atoms_of _ (rest_1_c_eq ▸ (show rest_1_c.before _ s = true from hrest))
  have hfit : Fit s := fun {y c} hc i hi => by
    obtain ⟨ha, rfl⟩ := Array.getElem?_eq_some_iff.mp hc
    have q := List.all_eq_true.mp ((Array.all_eq_true_iff_forall_mem.mp hF) _ (Array.getElem_mem ha)) i (List.mem_range.mpr hi)
    simpa [Array.getElem?_eq_getElem hi] using q
  have hw := fun d (hd : d ∈ tables_1) => atoms_spec (ws := Jvm.Cond.code x code maxLocals ret :: tables_1) hat d (List.mem_cons_of_mem _ hd)
  obtain ⟨i0, ei0⟩ := isL_v n3
  obtain rfl : w0 = (.long i0) := Option.some.inj ei0
  obtain ⟨i1, ei1⟩ := is_v n5
  obtain rfl : w1 = (.int i1) := Option.some.inj ei1
  obtain ⟨i2, ei2⟩ := is_v n7
  obtain rfl : w2 = (.int i2) := Option.some.inj ei2
  obtain ⟨i3, ei3⟩ := is_v n8
  obtain rfl : w3 = (.int i3) := Option.some.inj ei3
  obtain ⟨wE0, ev_wE0⟩ := arr_v (Cond.before_iff.mp (hsets _ (List.mem_of_getElem? (i := 6) rfl)))
  obtain ⟨cl_wE0, Ar_wE0⟩ := Arr.start ev_wE0 (Cond.before_iff.mp (hsets _ (List.mem_of_getElem? (i := 6) rfl)))
  obtain ⟨ln_wE0, le_wE0⟩ := Jvm.Free.IntBox.length_fwd (hsets _ (List.mem_of_getElem? (i := 8) rfl)) ev_wE0 Ar_wE0.1 Ar_wE0.2.1 Ar_wE0.2.2
  obtain ⟨k_wE0, ek_wE0⟩ : ∃ k, k = cl_wE0.cls := ⟨_, rfl⟩
  obtain ⟨w_cacheI, ev_w_cacheI⟩ := arr_v (Cond.before_iff.mp (hsets _ (List.mem_of_getElem? (i := 13) rfl)))
  obtain ⟨cl_cacheI, Ar_w_cacheI⟩ := Arr.start ev_w_cacheI (Cond.before_iff.mp (hsets _ (List.mem_of_getElem? (i := 13) rfl)))
  obtain ⟨ln_w_cacheI, le_w_cacheI⟩ := Jvm.Free.IntBox.length_fwd (hsets _ (List.mem_of_getElem? (i := 15) rfl)) ev_w_cacheI Ar_w_cacheI.1 Ar_w_cacheI.2.1 Ar_w_cacheI.2.2
  have W : World s wE0 w_cacheI k_wE0 cl_cacheI := ⟨Sta.start ev_wE0 (Or.inr ⟨(hw _ wd2), (hsets _ (List.mem_of_getElem? (i := 2) rfl))⟩), (ek_wE0 ▸ Arv.start hfit Ar_wE0 ln_wE0 le_wE0 (by decide) rfl trivial), Sta.start (eqv_i (Term.int_eval 127) (Cond.before_iff.mp (hsets _ (List.mem_of_getElem? (i := 12) rfl)))) (Or.inl (hsets _ (List.mem_of_getElem? (i := 10) rfl))), Sta.start ev_w_cacheI (Or.inr ⟨(hw _ wd31), (hsets _ (List.mem_of_getElem? (i := 11) rfl))⟩), Bxs.start (fun _ => ev_w_cacheI) Ar_w_cacheI ln_w_cacheI le_w_cacheI (by decide) (Cond.before_iff.mp (hsets _ (List.mem_of_getElem? (i := 16) rfl))) (fun X j nn q => eqv_i (by simp [Term.eval, (back32 nn).1]) q)⟩
  have B : Bg s _ wE0 w_cacheI k_wE0 cl_cacheI := ⟨hw, W⟩
  obtain ⟨n, o, h1, h2, h3, _, L, rfl, ⟨rfl, N⟩, hq⟩ := (lawAll (l := l) B i0 i1 i2 i3) tables_1 p e ha hc hk s m _ below hf ((Spec.applies_iff_loose hf).mp happ).1 ⟨rfl, State.Warmed39.refl s, rfl⟩ trivial
  refine ⟨n, _, h1, h2, h3, hpost _ _ _ _ _ _ ⟨Cond.after_iff.mpr rfl, Cond.after_iff.mpr (eq_i res_at (Term.int_eval (1)) rfl), trivial⟩ ⟨hq.1, hq.2.1, (hq.2.2.sift fun y hy => Or.inr (N y hy)).mono (by decide) (by decide)⟩⟩
theorem main_1_1 : Claimed_1_1 := comes_1 fun _ _ _ _ _ _ h hF => ⟨h.1, hF⟩
theorem main_1_2 : Claimed_1_2 := comes_1 fun _ _ _ _ _ _ h hF => ⟨h.2.1, hF⟩
end Jvm.Pilot.@@N@@
namespace Jvm.Pilot.@@N@@
open Jvm Jvm.ClassFile Sem Op Lib Jvm.Free Jvm.Stand Jvm.Pilot.@@N@@.Jvm.D
/-! MADE BY PROGRAM (witnessworld.py) out of the Statement's table words and the real class files: 27 classes; the members and pool entries that the words name. The judged class is class 1, her method 2. -/
namespace start1
open Jvm.ClassFile
def u (s : String) : CpInfo := .utf8 (stringToUtf16 s)
/-- a pool by its gaps: so many unusable entries, then the entry; so many at the end -/
def gap : Nat → List CpInfo → List CpInfo
  | 0, r => r
  | n + 1, r => .unusable :: gap n r
def poolList (es : List (Nat × CpInfo)) (last : Nat) : List CpInfo := es.foldr (fun e r => gap e.1 (e.2 :: r)) (gap last [])
def pool (es : List (Nat × CpInfo)) (last : Nat) : Array CpInfo := ⟨poolList es last⟩
def fileOf (pool : Array CpInfo) (this : Nat) (attrs : Array Attribute := #[]) (ms : Array MethodInfo := #[]) (fl : Nat := 33) (sup : Nat := 0) (ifs : Array Nat := #[]) (fds : Array FieldInfo := #[]) : ClassFile where
  minorVersion := 0
  majorVersion := 65
  constantPool := pool
  accessFlags := fl
  thisClass := this
  superClass := sup
  interfaces := ifs
  fields := fds
  methods := ms
  attributes := attrs
def plain (name : String) (sup : Option ClassId) : Class where
  name := name
  kind := .ordinary
  loader := none
  accessFlags := 33
  super := sup
  interfaces := #[]
  cf := none
  fields := #[]
  methods := #[]
  instanceTypes := #[]
  staticTypes := #[]
  resolved := #[]
  callSites := []
  init := .initialized
  statics := none
  mirror := none

def pool0 : Array CpInfo := pool [(5, u "<init>"), (0, u "()V"), (1, .class_ 10), (1, u "java/lang/Object")] 113

def k0c0 : Code := { maxStack := 0, maxLocals := 1, code := object_method_1_code, exceptionTable := #[], attributes := #[] }
def k0m0 : Method := { name := "<init>", desc := "()V", sig := { parameters := [], returnType := none }, accessFlags := 1, code := some k0c0 }
/-- java/lang/Object -/
def k0 : Class := { plain "java/lang/Object" none with
  accessFlags := 33
  interfaces := #[]
  cf := some (fileOf pool0 8 #[] #[{ accessFlags := 1, nameIndex := 5, descriptorIndex := 6, attributes := #[] }] 33 0 #[] #[])
  fields := #[]
  methods := #[k0m0]
  instanceTypes := #[]
  staticTypes := #[]
  resolved := Array.replicate 124 none
  statics := none }

def pool1 : Array CpInfo := pool [(2, .class_ 4), (0, .nameAndType 5 6), (0, u "java/lang/Object"), (0, u "<init>"), (0, u "()V"), (0, .methodref 8 9), (0, .class_ 10), (0, .nameAndType 11 12), (0, u "com/example/goalwatch/goalwatch/runtime/IconList"), (0, u "removeFirst"), (0, u "()Ljava/lang/Object;"), (0, .methodref 14 15), (0, .class_ 16), (0, .nameAndType 17 18), (0, u "java/lang/Integer"), (0, u "valueOf"), (0, u "(I)Ljava/lang/Integer;"), (0, .methodref 8 20), (0, .nameAndType 21 22), (0, u "prepend"), (0, u "(Ljava/lang/Object;)V"), (0, .class_ 24), (0, u "java/util/ArrayList"), (0, .methodref 23 3), (0, .methodref 23 27), (0, .nameAndType 28 29), (0, u "add"), (0, u "(Ljava/lang/Object;)Z"), (0, .methodref 8 31), (0, .nameAndType 5 32), (0, u "(ILjava/util/List;)V"), (0, .methodref 34 35), (0, .class_ 36), (0, .nameAndType 37 38), (0, u "com/example/goalwatch/goalwatch/runtime/IconListIndexOfPinLaw"), (0, u "step"), (0, u "(Lcom/example/goalwatch/goalwatch/runtime/IconList;Z)V"), (0, .methodref 40 41), (0, .class_ 42), (0, .nameAndType 43 44), (0, u "java/lang/Math"), (0, u "min"), (0, u "(II)I"), (0, .methodref 8 46), (0, .nameAndType 47 48), (0, u "indexOf"), (0, u "(J)I"), (0, .long 2), (1, .long 3), (1, .long 4), (1, .long 5), (4, u "law"), (0, u "(JIII)Z")] 2

def k1m0 : Method := { name := "<init>", desc := "()V", sig := { parameters := [], returnType := none }, accessFlags := 1, code := none }
def k1c1 : Code := { maxStack := 2, maxLocals := 2, code := method_2_code, exceptionTable := #[], attributes := #[] }
def k1m1 : Method := { name := "step", desc := "(Lcom/example/goalwatch/goalwatch/runtime/IconList;Z)V", sig := { parameters := [(.object "com/example/goalwatch/goalwatch/runtime/IconList"), .boolean], returnType := none }, accessFlags := 10, code := some k1c1 }
def k1c2 : Code := { maxStack := 6, maxLocals := 16, code := code, exceptionTable := #[], attributes := #[] }
def k1m2 : Method := { name := "law", desc := "(JIII)Z", sig := { parameters := [.long, .int, .int, .int], returnType := some .boolean }, accessFlags := 9, code := some k1c2 }
/-- com/example/goalwatch/goalwatch/runtime/IconListIndexOfPinLaw -/
def k1 : Class := { plain "com/example/goalwatch/goalwatch/runtime/IconListIndexOfPinLaw" (some 0) with
  accessFlags := 49
  interfaces := #[]
  cf := some (fileOf pool1 34 #[] #[{ accessFlags := 1, nameIndex := 5, descriptorIndex := 6, attributes := #[] }, { accessFlags := 10, nameIndex := 37, descriptorIndex := 38, attributes := #[] }, { accessFlags := 9, nameIndex := 60, descriptorIndex := 61, attributes := #[] }] 49 2 #[] #[])
  fields := #[]
  methods := #[k1m0, k1m1, k1m2]
  instanceTypes := #[]
  staticTypes := #[]
  resolved := Array.replicate 64 none
  statics := none }

def pool2 : Array CpInfo := pool [(8, .class_ 10), (1, u "java/lang/Iterable"), (24, .class_ 36), (0, u "java/lang/Object")] 25

/-- java/lang/Iterable -/
def k2 : Class := { plain "java/lang/Iterable" (some 0) with
  accessFlags := 1537
  interfaces := #[]
  cf := some (fileOf pool2 8 #[] #[] 1537 35 #[] #[])
  fields := #[]
  methods := #[]
  instanceTypes := #[]
  staticTypes := #[]
  resolved := Array.replicate 62 none
  statics := none }

def pool3 : Array CpInfo := pool [(10, .class_ 12), (1, u "java/util/Collection"), (47, .class_ 61), (0, u "java/lang/Object"), (0, .class_ 63), (0, u "java/lang/Iterable")] 51

/-- java/util/Collection -/
def k3 : Class := { plain "java/util/Collection" (some 0) with
  accessFlags := 1537
  interfaces := #[2]
  cf := some (fileOf pool3 10 #[] #[] 1537 60 #[62] #[])
  fields := #[]
  methods := #[]
  instanceTypes := #[]
  staticTypes := #[]
  resolved := Array.replicate 115 none
  statics := none }

def pool4 : Array CpInfo := pool [(1, .methodref 2 3), (0, .class_ 4), (0, .nameAndType 5 6), (0, u "java/lang/Object"), (0, u "<init>"), (0, u "()V"), (1, .class_ 10), (1, u "java/util/AbstractCollection"), (66, .class_ 78), (0, u "java/util/Collection")] 81

def k4c0 : Code := { maxStack := 1, maxLocals := 1, code := jdk_22_method_1_code, exceptionTable := #[], attributes := #[] }
def k4m0 : Method := { name := "<init>", desc := "()V", sig := { parameters := [], returnType := none }, accessFlags := 4, code := some k4c0 }
/-- java/util/AbstractCollection -/
def k4 : Class := { plain "java/util/AbstractCollection" (some 0) with
  accessFlags := 1057
  interfaces := #[3]
  cf := some (fileOf pool4 8 #[] #[{ accessFlags := 4, nameIndex := 5, descriptorIndex := 6, attributes := #[] }] 1057 2 #[77] #[])
  fields := #[]
  methods := #[k4m0]
  instanceTypes := #[]
  staticTypes := #[]
  resolved := Array.replicate 160 none
  statics := none }

def pool5 : Array CpInfo := pool [(8, .class_ 10), (1, u "java/util/SequencedCollection"), (15, .class_ 27), (0, u "java/lang/Object"), (0, .class_ 29), (0, u "java/util/Collection")] 27

/-- java/util/SequencedCollection -/
def k5 : Class := { plain "java/util/SequencedCollection" (some 0) with
  accessFlags := 1537
  interfaces := #[3]
  cf := some (fileOf pool5 8 #[] #[] 1537 26 #[28] #[])
  fields := #[]
  methods := #[]
  instanceTypes := #[]
  staticTypes := #[]
  resolved := Array.replicate 57 none
  statics := none }

def pool6 : Array CpInfo := pool [(8, .class_ 10), (1, u "java/util/List"), (23, u "toArray"), (44, u "size"), (0, u "()I"), (22, .class_ 104), (0, u "java/lang/Object"), (15, .class_ 121), (0, u "java/util/SequencedCollection"), (5, u "([Ljava/lang/Object;)[Ljava/lang/Object;")] 123

def k6m0 : Method := { name := "size", desc := "()I", sig := { parameters := [], returnType := some .int }, accessFlags := 1025, code := none }
def k6m1 : Method := { name := "toArray", desc := "([Ljava/lang/Object;)[Ljava/lang/Object;", sig := { parameters := [(.array (.object "java/lang/Object"))], returnType := some (.array (.object "java/lang/Object")) }, accessFlags := 1025, code := none }
/-- java/util/List -/
def k6 : Class := { plain "java/util/List" (some 0) with
  accessFlags := 1537
  interfaces := #[5]
  cf := some (fileOf pool6 8 #[] #[{ accessFlags := 1025, nameIndex := 79, descriptorIndex := 80, attributes := #[] }, { accessFlags := 1025, nameIndex := 34, descriptorIndex := 127, attributes := #[] }] 1537 103 #[120] #[])
  fields := #[]
  methods := #[k6m0, k6m1]
  instanceTypes := #[]
  staticTypes := #[]
  resolved := Array.replicate 251 none
  statics := none }

def pool7 : Array CpInfo := pool [(1, .methodref 2 3), (0, .class_ 4), (0, .nameAndType 5 6), (0, u "java/util/AbstractCollection"), (0, u "<init>"), (0, u "()V"), (0, .fieldref 8 9), (0, .class_ 10), (0, .nameAndType 11 12), (0, u "java/util/AbstractList"), (0, u "modCount"), (0, u "I"), (64, .class_ 78), (0, u "java/util/AbstractList$Itr"), (3, .class_ 83), (0, u "java/util/AbstractList$ListItr"), (9, .class_ 94), (0, u "java/util/AbstractList$RandomAccessSubList"), (3, .class_ 99), (0, u "java/util/AbstractList$SubList"), (33, .class_ 134), (0, u "java/util/List"), (73, .class_ 209), (0, u "java/util/AbstractList$SubList$1"), (0, .class_ 211), (0, u "java/util/AbstractList$RandomAccessSpliterator")] 6

def k7c0 : Code := { maxStack := 2, maxLocals := 1, code := jdk_39_method_1_code, exceptionTable := #[], attributes := #[] }
def k7m0 : Method := { name := "<init>", desc := "()V", sig := { parameters := [], returnType := none }, accessFlags := 4, code := some k7c0 }
/-- java/util/AbstractList -/
def k7 : Class := { plain "java/util/AbstractList" (some 4) with
  accessFlags := 1057
  interfaces := #[6]
  cf := some (fileOf pool7 8 #[.nestMembers #[93, 98, 208, 210, 82, 77]] #[{ accessFlags := 4, nameIndex := 5, descriptorIndex := 6, attributes := #[] }] 1057 2 #[133] #[{ accessFlags := 132, nameIndex := 11, descriptorIndex := 12, attributes := #[] }])
  fields := #[{ name := "modCount", type := .int, accessFlags := 132, slot := 0, constantValue := 0 }]
  methods := #[k7m0]
  instanceTypes := #[.int]
  staticTypes := #[]
  resolved := Array.replicate 218 none
  statics := none }

def pool8 : Array CpInfo := pool [(1, .class_ 2), (0, u "java/util/RandomAccess"), (0, .class_ 4), (0, u "java/lang/Object")] 2

/-- java/util/RandomAccess -/
def k8 : Class := { plain "java/util/RandomAccess" (some 0) with
  accessFlags := 1537
  interfaces := #[]
  cf := some (fileOf pool8 1 #[] #[] 1537 3 #[] #[])
  fields := #[]
  methods := #[]
  instanceTypes := #[]
  staticTypes := #[]
  resolved := Array.replicate 7 none
  statics := none }

def pool9 : Array CpInfo := pool [(1, .class_ 2), (0, u "java/lang/Cloneable"), (0, .class_ 4), (0, u "java/lang/Object")] 2

/-- java/lang/Cloneable -/
def k9 : Class := { plain "java/lang/Cloneable" (some 0) with
  accessFlags := 1537
  interfaces := #[]
  cf := some (fileOf pool9 1 #[] #[] 1537 3 #[] #[])
  fields := #[]
  methods := #[]
  instanceTypes := #[]
  staticTypes := #[]
  resolved := Array.replicate 7 none
  statics := none }

def pool10 : Array CpInfo := pool [(1, .class_ 2), (0, u "java/io/Serializable"), (0, .class_ 4), (0, u "java/lang/Object")] 2

/-- java/io/Serializable -/
def k10 : Class := { plain "java/io/Serializable" (some 0) with
  accessFlags := 1537
  interfaces := #[]
  cf := some (fileOf pool10 1 #[] #[] 1537 3 #[] #[])
  fields := #[]
  methods := #[]
  instanceTypes := #[]
  staticTypes := #[]
  resolved := Array.replicate 7 none
  statics := none }

def pool11 : Array CpInfo := pool [(1, .methodref 2 3), (0, .class_ 4), (0, .nameAndType 5 6), (0, u "java/util/AbstractList"), (0, u "<init>"), (0, u "()V"), (0, .class_ 8), (0, u "java/lang/Object"), (0, .fieldref 10 11), (0, .class_ 12), (0, .nameAndType 13 14), (0, u "java/util/ArrayList"), (0, u "elementData"), (0, u "[Ljava/lang/Object;"), (2, u "EMPTY_ELEMENTDATA"), (21, .fieldref 10 40), (0, .nameAndType 41 14), (0, u "DEFAULTCAPACITY_EMPTY_ELEMENTDATA"), (4, u "toArray"), (0, u "()[Ljava/lang/Object;"), (0, .fieldref 10 49), (0, .nameAndType 50 51), (0, u "size"), (0, u "I"), (11, .fieldref 10 64), (0, .nameAndType 65 51), (0, u "modCount"), (3, .methodref 10 70), (0, .nameAndType 71 72), (0, u "grow"), (0, u "(I)[Ljava/lang/Object;"), (6, .methodref 80 81), (0, .class_ 82), (0, .nameAndType 83 84), (0, u "java/lang/Math"), (0, u "max"), (0, u "(II)I"), (11, u "(Ljava/lang/Object;)Z"), (15, .methodref 113 114), (0, .class_ 115), (0, .nameAndType 116 117), (0, u "java/lang/System"), (0, u "arraycopy"), (0, u "(Ljava/lang/Object;ILjava/lang/Object;II)V"), (11, .methodref 10 130), (0, .nameAndType 71 47), (0, .methodref 10 132), (0, .nameAndType 133 134), (0, u "add"), (0, u "(Ljava/lang/Object;[Ljava/lang/Object;I)V"), (13, .class_ 149), (0, u "java/util/List"), (36, u "()I"), (75, .class_ 263), (0, u "java/util/ArrayList$ListItr"), (3, .class_ 268), (0, u "java/util/ArrayList$Itr"), (7, .class_ 277), (0, u "java/util/ArrayList$SubList"), (12, .class_ 291), (0, u "java/util/ArrayList$ArrayListSpliterator"), (37, .class_ 330), (0, u "java/util/RandomAccess"), (0, .class_ 332), (0, u "java/lang/Cloneable"), (0, .class_ 334), (0, u "java/io/Serializable"), (0, u "serialVersionUID"), (0, u "J"), (3, u "DEFAULT_CAPACITY"), (34, u "([Ljava/lang/Object;)[Ljava/lang/Object;"), (124, .class_ 501), (0, u "java/util/ArrayList$SubList$2"), (0, .class_ 503), (0, u "java/util/ArrayList$SubList$1")] 5

def k11c0 : Code := { maxStack := 2, maxLocals := 1, code := jdk_38_method_2_code, exceptionTable := #[], attributes := #[] }
def k11m0 : Method := { name := "<init>", desc := "()V", sig := { parameters := [], returnType := none }, accessFlags := 1, code := some k11c0 }
def k11c1 : Code := { maxStack := 4, maxLocals := 4, code := jdk_38_method_6_code, exceptionTable := #[], attributes := #[] }
def k11m1 : Method := { name := "grow", desc := "(I)[Ljava/lang/Object;", sig := { parameters := [.int], returnType := some (.array (.object "java/lang/Object")) }, accessFlags := 2, code := some k11c1 }
def k11c2 : Code := { maxStack := 3, maxLocals := 1, code := jdk_38_method_7_code, exceptionTable := #[], attributes := #[] }
def k11m2 : Method := { name := "grow", desc := "()[Ljava/lang/Object;", sig := { parameters := [], returnType := some (.array (.object "java/lang/Object")) }, accessFlags := 2, code := some k11c2 }
def k11c3 : Code := { maxStack := 1, maxLocals := 1, code := jdk_38_method_8_code, exceptionTable := #[], attributes := #[] }
def k11m3 : Method := { name := "size", desc := "()I", sig := { parameters := [], returnType := some .int }, accessFlags := 1, code := some k11c3 }
def k11c4 : Code := { maxStack := 5, maxLocals := 2, code := jdk_38_method_17_code, exceptionTable := #[], attributes := #[] }
def k11m4 : Method := { name := "toArray", desc := "([Ljava/lang/Object;)[Ljava/lang/Object;", sig := { parameters := [(.array (.object "java/lang/Object"))], returnType := some (.array (.object "java/lang/Object")) }, accessFlags := 1, code := some k11c4 }
def k11c5 : Code := { maxStack := 3, maxLocals := 4, code := jdk_38_method_24_code, exceptionTable := #[], attributes := #[] }
def k11m5 : Method := { name := "add", desc := "(Ljava/lang/Object;[Ljava/lang/Object;I)V", sig := { parameters := [(.object "java/lang/Object"), (.array (.object "java/lang/Object")), .int], returnType := none }, accessFlags := 2, code := some k11c5 }
def k11c6 : Code := { maxStack := 4, maxLocals := 2, code := jdk_38_method_25_code, exceptionTable := #[], attributes := #[] }
def k11m6 : Method := { name := "add", desc := "(Ljava/lang/Object;)Z", sig := { parameters := [(.object "java/lang/Object")], returnType := some .boolean }, accessFlags := 1, code := some k11c6 }
/-- java/util/ArrayList -/
def k11 : Class := { plain "java/util/ArrayList" (some 7) with
  accessFlags := 33
  interfaces := #[6, 8, 9, 10]
  cf := some (fileOf pool11 10 #[.nestMembers #[290, 276, 500, 502, 262, 267]] #[{ accessFlags := 1, nameIndex := 5, descriptorIndex := 6, attributes := #[] }, { accessFlags := 2, nameIndex := 71, descriptorIndex := 72, attributes := #[] }, { accessFlags := 2, nameIndex := 71, descriptorIndex := 47, attributes := #[] }, { accessFlags := 1, nameIndex := 50, descriptorIndex := 186, attributes := #[] }, { accessFlags := 1, nameIndex := 46, descriptorIndex := 375, attributes := #[] }, { accessFlags := 2, nameIndex := 133, descriptorIndex := 134, attributes := #[] }, { accessFlags := 1, nameIndex := 133, descriptorIndex := 96, attributes := #[] }] 33 2 #[148, 329, 331, 333] #[{ accessFlags := 26, nameIndex := 335, descriptorIndex := 336, attributes := #[] }, { accessFlags := 26, nameIndex := 340, descriptorIndex := 51, attributes := #[] }, { accessFlags := 26, nameIndex := 17, descriptorIndex := 14, attributes := #[] }, { accessFlags := 26, nameIndex := 41, descriptorIndex := 14, attributes := #[] }, { accessFlags := 128, nameIndex := 13, descriptorIndex := 14, attributes := #[] }, { accessFlags := 2, nameIndex := 50, descriptorIndex := 51, attributes := #[] }])
  fields := #[{ name := "serialVersionUID", type := .long, accessFlags := 26, slot := 0, constantValue := 0 }, { name := "DEFAULT_CAPACITY", type := .int, accessFlags := 26, slot := 1, constantValue := 0 }, { name := "EMPTY_ELEMENTDATA", type := (.array (.object "java/lang/Object")), accessFlags := 26, slot := 2, constantValue := 0 }, { name := "DEFAULTCAPACITY_EMPTY_ELEMENTDATA", type := (.array (.object "java/lang/Object")), accessFlags := 26, slot := 3, constantValue := 0 }, { name := "elementData", type := (.array (.object "java/lang/Object")), accessFlags := 128, slot := 1, constantValue := 0 }, { name := "size", type := .int, accessFlags := 2, slot := 2, constantValue := 0 }]
  methods := #[k11m0, k11m1, k11m2, k11m3, k11m4, k11m5, k11m6]
  instanceTypes := #[.int, (.array (.object "java/lang/Object")), .int]
  staticTypes := #[.long, .int, (.array (.object "java/lang/Object")), (.array (.object "java/lang/Object"))]
  resolved := Array.replicate 509 none
  statics := some 0 }

def pool12 : Array CpInfo := pool [(2, .class_ 4), (1, u "java/lang/Object"), (0, u "<init>"), (0, u "()V"), (1, .class_ 10), (1, u "java/lang/Number"), (2, .class_ 14), (0, u "java/io/Serializable"), (0, u "serialVersionUID"), (0, u "J")] 20

def k12m0 : Method := { name := "<init>", desc := "()V", sig := { parameters := [], returnType := none }, accessFlags := 1, code := none }
/-- java/lang/Number -/
def k12 : Class := { plain "java/lang/Number" (some 0) with
  accessFlags := 1057
  interfaces := #[10]
  cf := some (fileOf pool12 8 #[] #[{ accessFlags := 1, nameIndex := 5, descriptorIndex := 6, attributes := #[] }] 1057 2 #[13] #[{ accessFlags := 26, nameIndex := 15, descriptorIndex := 16, attributes := #[] }])
  fields := #[{ name := "serialVersionUID", type := .long, accessFlags := 26, slot := 0, constantValue := 0 }]
  methods := #[k12m0]
  instanceTypes := #[]
  staticTypes := #[.long]
  resolved := Array.replicate 37 none
  statics := none }

def pool13 : Array CpInfo := pool [(1, .class_ 2), (0, u "java/lang/Comparable"), (0, .class_ 4), (0, u "java/lang/Object")] 7

/-- java/lang/Comparable -/
def k13 : Class := { plain "java/lang/Comparable" (some 0) with
  accessFlags := 1537
  interfaces := #[]
  cf := some (fileOf pool13 1 #[] #[] 1537 3 #[] #[])
  fields := #[]
  methods := #[]
  instanceTypes := #[]
  staticTypes := #[]
  resolved := Array.replicate 12 none
  statics := none }

def pool14 : Array CpInfo := pool [(1, .class_ 2), (0, u "java/lang/constant/Constable"), (0, .class_ 4), (0, u "java/lang/Object")] 6

/-- java/lang/constant/Constable -/
def k14 : Class := { plain "java/lang/constant/Constable" (some 0) with
  accessFlags := 1537
  interfaces := #[]
  cf := some (fileOf pool14 1 #[] #[] 1537 3 #[] #[])
  fields := #[]
  methods := #[]
  instanceTypes := #[]
  staticTypes := #[]
  resolved := Array.replicate 11 none
  statics := none }

def pool15 : Array CpInfo := pool [(1, .class_ 2), (0, u "java/lang/constant/ConstantDesc"), (0, .class_ 4), (0, u "java/lang/Object")] 32

/-- java/lang/constant/ConstantDesc -/
def k15 : Class := { plain "java/lang/constant/ConstantDesc" (some 0) with
  accessFlags := 1537
  interfaces := #[]
  cf := some (fileOf pool15 1 #[] #[] 1537 3 #[] #[])
  fields := #[]
  methods := #[]
  instanceTypes := #[]
  staticTypes := #[]
  resolved := Array.replicate 37 none
  statics := none }

def pool16 : Array CpInfo := pool [(1, .class_ 2), (0, u "java/lang/Integer"), (16, u "digits"), (0, u "[C"), (64, u "DigitOnes"), (0, u "[B"), (2, u "DigitTens"), (97, u "valueOf"), (0, u "(I)Ljava/lang/Integer;"), (0, .class_ 190), (0, u "java/lang/Integer$IntegerCache"), (0, .fieldref 189 192), (0, .nameAndType 193 194), (0, u "high"), (0, u "I"), (0, .fieldref 189 196), (0, .nameAndType 197 198), (0, u "cache"), (0, u "[Ljava/lang/Integer;"), (4, .class_ 204), (0, u "java/lang/Number"), (2, u "value"), (94, u "TYPE"), (0, u "Ljava/lang/Class;"), (0, .class_ 305), (0, u "java/lang/Comparable"), (0, .class_ 307), (0, u "java/lang/constant/Constable"), (0, .class_ 309), (0, u "java/lang/constant/ConstantDesc"), (0, u "MIN_VALUE"), (1, u "MAX_VALUE"), (3, u "SIZE"), (1, u "BYTES"), (1, u "serialVersionUID"), (0, u "J")] 131

def k16c0 : Code := { maxStack := 3, maxLocals := 1, code := jdk_33_method_22_code, exceptionTable := #[], attributes := #[] }
def k16m0 : Method := { name := "valueOf", desc := "(I)Ljava/lang/Integer;", sig := { parameters := [.int], returnType := some (.object "java/lang/Integer") }, accessFlags := 9, code := some k16c0 }
/-- java/lang/Integer -/
def k16 : Class := { plain "java/lang/Integer" (some 12) with
  accessFlags := 49
  interfaces := #[13, 14, 15]
  cf := some (fileOf pool16 1 #[.nestMembers #[189]] #[{ accessFlags := 9, nameIndex := 187, descriptorIndex := 188, attributes := #[] }] 49 203 #[304, 306, 308] #[{ accessFlags := 25, nameIndex := 310, descriptorIndex := 194, attributes := #[] }, { accessFlags := 25, nameIndex := 312, descriptorIndex := 194, attributes := #[] }, { accessFlags := 25, nameIndex := 302, descriptorIndex := 303, attributes := #[] }, { accessFlags := 24, nameIndex := 19, descriptorIndex := 20, attributes := #[] }, { accessFlags := 24, nameIndex := 89, descriptorIndex := 86, attributes := #[] }, { accessFlags := 24, nameIndex := 85, descriptorIndex := 86, attributes := #[] }, { accessFlags := 18, nameIndex := 207, descriptorIndex := 194, attributes := #[] }, { accessFlags := 25, nameIndex := 316, descriptorIndex := 194, attributes := #[] }, { accessFlags := 25, nameIndex := 318, descriptorIndex := 194, attributes := #[] }, { accessFlags := 26, nameIndex := 320, descriptorIndex := 321, attributes := #[] }])
  fields := #[{ name := "MIN_VALUE", type := .int, accessFlags := 25, slot := 0, constantValue := 0 }, { name := "MAX_VALUE", type := .int, accessFlags := 25, slot := 1, constantValue := 0 }, { name := "TYPE", type := (.object "java/lang/Class"), accessFlags := 25, slot := 2, constantValue := 0 }, { name := "digits", type := (.array .char), accessFlags := 24, slot := 3, constantValue := 0 }, { name := "DigitTens", type := (.array .byte), accessFlags := 24, slot := 4, constantValue := 0 }, { name := "DigitOnes", type := (.array .byte), accessFlags := 24, slot := 5, constantValue := 0 }, { name := "value", type := .int, accessFlags := 18, slot := 0, constantValue := 0 }, { name := "SIZE", type := .int, accessFlags := 25, slot := 6, constantValue := 0 }, { name := "BYTES", type := .int, accessFlags := 25, slot := 7, constantValue := 0 }, { name := "serialVersionUID", type := .long, accessFlags := 26, slot := 8, constantValue := 0 }]
  methods := #[k16m0]
  instanceTypes := #[.int]
  staticTypes := #[.int, .int, (.object "java/lang/Class"), (.array .char), (.array .byte), (.array .byte), .int, .int, .long]
  resolved := Array.replicate 453 none
  statics := none }

def pool17 : Array CpInfo := pool [(2, .class_ 4), (1, u "java/lang/Object"), (0, u "<init>"), (0, u "()V"), (0, .class_ 8), (0, u "java/lang/Integer"), (7, .class_ 18), (1, u "java/lang/Integer$IntegerCache"), (0, u "$assertionsDisabled"), (0, u "Z"), (26, u "high"), (0, u "I"), (8, u "archivedCache"), (0, u "[Ljava/lang/Integer;"), (12, u "cache"), (0, u "low")] 27

def k17m0 : Method := { name := "<init>", desc := "()V", sig := { parameters := [], returnType := none }, accessFlags := 2, code := none }
/-- java/lang/Integer$IntegerCache -/
def k17 : Class := { plain "java/lang/Integer$IntegerCache" (some 0) with
  accessFlags := 48
  interfaces := #[]
  cf := some (fileOf pool17 16 #[.nestHost 7] #[{ accessFlags := 2, nameIndex := 5, descriptorIndex := 6, attributes := #[] }] 48 2 #[] #[{ accessFlags := 24, nameIndex := 72, descriptorIndex := 48, attributes := #[] }, { accessFlags := 24, nameIndex := 47, descriptorIndex := 48, attributes := #[] }, { accessFlags := 24, nameIndex := 71, descriptorIndex := 58, attributes := #[] }, { accessFlags := 8, nameIndex := 57, descriptorIndex := 58, attributes := #[] }, { accessFlags := 4120, nameIndex := 19, descriptorIndex := 20, attributes := #[] }])
  fields := #[{ name := "low", type := .int, accessFlags := 24, slot := 0, constantValue := 0 }, { name := "high", type := .int, accessFlags := 24, slot := 1, constantValue := 0 }, { name := "cache", type := (.array (.object "java/lang/Integer")), accessFlags := 24, slot := 2, constantValue := 0 }, { name := "archivedCache", type := (.array (.object "java/lang/Integer")), accessFlags := 8, slot := 3, constantValue := 0 }, { name := "$assertionsDisabled", type := .boolean, accessFlags := 4120, slot := 4, constantValue := 0 }]
  methods := #[k17m0]
  instanceTypes := #[]
  staticTypes := #[.int, .int, (.array (.object "java/lang/Integer")), (.array (.object "java/lang/Integer")), .boolean]
  resolved := Array.replicate 100 none
  statics := some 1 }

def pool18 : Array CpInfo := pool [(1, .class_ 2), (0, u "java/lang/Math"), (1, .class_ 6), (1, u "java/lang/Object"), (0, u "<init>"), (0, u "()V"), (89, .class_ 100), (1, u "java/lang/Math$RandomNumberGeneratorHolder"), (20, u "(JJ)J"), (50, u "negativeZeroFloatBits"), (0, u "J"), (2, u "negativeZeroDoubleBits"), (21, u "max"), (2, u "min"), (43, u "$assertionsDisabled"), (0, u "Z"), (88, u "(II)I"), (2, u "twoToTheDoubleScaleDown"), (0, u "D"), (4, u "twoToTheDoubleScaleUp"), (9, u "E"), (3, u "PI"), (2, u "TAU"), (2, u "DEGREES_TO_RADIANS"), (0, u "RADIANS_TO_DEGREES")] 94

def k18m0 : Method := { name := "<init>", desc := "()V", sig := { parameters := [], returnType := none }, accessFlags := 2, code := none }
def k18c1 : Code := { maxStack := 2, maxLocals := 2, code := jdk_29_method_65_code, exceptionTable := #[], attributes := #[] }
def k18m1 : Method := { name := "max", desc := "(II)I", sig := { parameters := [.int, .int], returnType := some .int }, accessFlags := 9, code := some k18c1 }
def k18c2 : Code := { maxStack := 2, maxLocals := 2, code := jdk_29_method_69_code, exceptionTable := #[], attributes := #[] }
def k18m2 : Method := { name := "min", desc := "(II)I", sig := { parameters := [.int, .int], returnType := some .int }, accessFlags := 9, code := some k18c2 }
def k18c3 : Code := { maxStack := 4, maxLocals := 4, code := jdk_29_method_70_code, exceptionTable := #[], attributes := #[] }
def k18m3 : Method := { name := "min", desc := "(JJ)J", sig := { parameters := [.long, .long], returnType := some .long }, accessFlags := 9, code := some k18c3 }
/-- java/lang/Math -/
def k18 : Class := { plain "java/lang/Math" (some 0) with
  accessFlags := 49
  interfaces := #[]
  cf := some (fileOf pool18 1 #[.nestMembers #[98]] #[{ accessFlags := 2, nameIndex := 7, descriptorIndex := 8, attributes := #[] }, { accessFlags := 9, nameIndex := 198, descriptorIndex := 335, attributes := #[] }, { accessFlags := 9, nameIndex := 201, descriptorIndex := 335, attributes := #[] }, { accessFlags := 9, nameIndex := 201, descriptorIndex := 121, attributes := #[] }] 49 4 #[] #[{ accessFlags := 25, nameIndex := 354, descriptorIndex := 339, attributes := #[] }, { accessFlags := 25, nameIndex := 358, descriptorIndex := 339, attributes := #[] }, { accessFlags := 25, nameIndex := 361, descriptorIndex := 339, attributes := #[] }, { accessFlags := 26, nameIndex := 364, descriptorIndex := 339, attributes := #[] }, { accessFlags := 26, nameIndex := 365, descriptorIndex := 339, attributes := #[] }, { accessFlags := 26, nameIndex := 172, descriptorIndex := 173, attributes := #[] }, { accessFlags := 26, nameIndex := 176, descriptorIndex := 173, attributes := #[] }, { accessFlags := 8, nameIndex := 344, descriptorIndex := 339, attributes := #[] }, { accessFlags := 8, nameIndex := 338, descriptorIndex := 339, attributes := #[] }, { accessFlags := 4120, nameIndex := 245, descriptorIndex := 246, attributes := #[] }])
  fields := #[{ name := "E", type := .double, accessFlags := 25, slot := 0, constantValue := 0 }, { name := "PI", type := .double, accessFlags := 25, slot := 1, constantValue := 0 }, { name := "TAU", type := .double, accessFlags := 25, slot := 2, constantValue := 0 }, { name := "DEGREES_TO_RADIANS", type := .double, accessFlags := 26, slot := 3, constantValue := 0 }, { name := "RADIANS_TO_DEGREES", type := .double, accessFlags := 26, slot := 4, constantValue := 0 }, { name := "negativeZeroFloatBits", type := .long, accessFlags := 26, slot := 5, constantValue := 0 }, { name := "negativeZeroDoubleBits", type := .long, accessFlags := 26, slot := 6, constantValue := 0 }, { name := "twoToTheDoubleScaleUp", type := .double, accessFlags := 8, slot := 7, constantValue := 0 }, { name := "twoToTheDoubleScaleDown", type := .double, accessFlags := 8, slot := 8, constantValue := 0 }, { name := "$assertionsDisabled", type := .boolean, accessFlags := 4120, slot := 9, constantValue := 0 }]
  methods := #[k18m0, k18m1, k18m2, k18m3]
  instanceTypes := #[]
  staticTypes := #[.double, .double, .double, .double, .double, .long, .long, .double, .double, .boolean]
  resolved := Array.replicate 460 none
  statics := none }

def pool19 : Array CpInfo := pool [(3, .methodref 4 5), (0, .class_ 6), (0, .nameAndType 7 8), (0, u "java/lang/Object"), (0, u "<init>"), (0, u "()V"), (0, .fieldref 10 11), (0, .class_ 12), (0, .nameAndType 13 14), (0, u "com/example/goalwatch/goalwatch/runtime/IconList"), (0, u "serial"), (0, u "I"), (0, .interfaceMethodref 16 17), (0, .class_ 18), (0, .nameAndType 19 20), (0, u "java/util/List"), (0, u "size"), (0, u "()I"), (0, .methodref 22 23), (0, .class_ 24), (0, .nameAndType 25 26), (0, u "java/lang/Math"), (0, u "max"), (0, u "(II)I"), (0, .interfaceMethodref 16 28), (0, .nameAndType 29 30), (0, u "toArray"), (0, u "([Ljava/lang/Object;)[Ljava/lang/Object;"), (0, .fieldref 10 32), (0, .nameAndType 33 34), (0, u "buffer"), (0, u "[Ljava/lang/Object;"), (0, .fieldref 10 36), (0, .nameAndType 19 14), (0, .methodref 10 38), (0, .nameAndType 39 40), (0, u "slot"), (0, u "(I)I"), (0, .fieldref 10 42), (0, .nameAndType 43 44), (0, u "firstNumber"), (0, u "J"), (0, .methodref 10 46), (0, .nameAndType 47 8), (0, u "makeRoom"), (0, .methodref 10 49), (0, .nameAndType 50 51), (0, u "set"), (0, u "(ILjava/lang/Object;)V"), (0, .fieldref 10 53), (0, .nameAndType 54 14), (0, u "head"), (0, .methodref 10 56), (0, .nameAndType 57 58), (0, u "get"), (0, u "(I)Ljava/lang/Object;"), (9, .long 2), (1, .long 2147483639), (1, .methodref 22 73), (0, .nameAndType 74 75), (0, u "min"), (0, u "(JJ)J"), (7, u "MAX_SIZE"), (2, u "(ILjava/util/List;)V"), (6, u "indexOf"), (0, u "(J)I"), (2, u "(Ljava/lang/Object;)V"), (0, u "prepend"), (0, u "removeFirst"), (0, u "()Ljava/lang/Object;")] 6

def k19c0 : Code := { maxStack := 4, maxLocals := 3, code := prog_50_method_1_code, exceptionTable := #[], attributes := #[] }
def k19m0 : Method := { name := "<init>", desc := "(ILjava/util/List;)V", sig := { parameters := [.int, (.object "java/util/List")], returnType := none }, accessFlags := 0, code := some k19c0 }
def k19c1 : Code := { maxStack := 3, maxLocals := 2, code := prog_50_method_4_code, exceptionTable := #[], attributes := #[] }
def k19m1 : Method := { name := "get", desc := "(I)Ljava/lang/Object;", sig := { parameters := [.int], returnType := some (.object "java/lang/Object") }, accessFlags := 0, code := some k19c1 }
def k19c2 : Code := { maxStack := 3, maxLocals := 3, code := prog_50_method_5_code, exceptionTable := #[], attributes := #[] }
def k19m2 : Method := { name := "set", desc := "(ILjava/lang/Object;)V", sig := { parameters := [.int, (.object "java/lang/Object")], returnType := none }, accessFlags := 0, code := some k19c2 }
def k19c3 : Code := { maxStack := 4, maxLocals := 5, code := prog_50_method_7_code, exceptionTable := #[], attributes := #[] }
def k19m3 : Method := { name := "indexOf", desc := "(J)I", sig := { parameters := [.long], returnType := some .int }, accessFlags := 0, code := some k19c3 }
def k19c4 : Code := { maxStack := 5, maxLocals := 2, code := prog_50_method_9_code, exceptionTable := #[], attributes := #[] }
def k19m4 : Method := { name := "prepend", desc := "(Ljava/lang/Object;)V", sig := { parameters := [(.object "java/lang/Object")], returnType := none }, accessFlags := 0, code := some k19c4 }
def k19c5 : Code := { maxStack := 5, maxLocals := 2, code := prog_50_method_10_code, exceptionTable := #[], attributes := #[] }
def k19m5 : Method := { name := "removeFirst", desc := "()Ljava/lang/Object;", sig := { parameters := [], returnType := some (.object "java/lang/Object") }, accessFlags := 0, code := some k19c5 }
def k19c6 : Code := { maxStack := 2, maxLocals := 3, code := prog_50_method_12_code, exceptionTable := #[], attributes := #[] }
def k19m6 : Method := { name := "slot", desc := "(I)I", sig := { parameters := [.int], returnType := some .int }, accessFlags := 2, code := some k19c6 }
def k19c7 : Code := { maxStack := 4, maxLocals := 4, code := prog_50_method_13_code, exceptionTable := #[], attributes := #[] }
def k19m7 : Method := { name := "makeRoom", desc := "()V", sig := { parameters := [], returnType := none }, accessFlags := 2, code := some k19c7 }
/-- com/example/goalwatch/goalwatch/runtime/IconList -/
def k19 : Class := { plain "com/example/goalwatch/goalwatch/runtime/IconList" (some 0) with
  accessFlags := 48
  interfaces := #[]
  cf := some (fileOf pool19 10 #[] #[{ accessFlags := 0, nameIndex := 7, descriptorIndex := 86, attributes := #[] }, { accessFlags := 0, nameIndex := 57, descriptorIndex := 58, attributes := #[] }, { accessFlags := 0, nameIndex := 50, descriptorIndex := 51, attributes := #[] }, { accessFlags := 0, nameIndex := 93, descriptorIndex := 94, attributes := #[] }, { accessFlags := 0, nameIndex := 98, descriptorIndex := 97, attributes := #[] }, { accessFlags := 0, nameIndex := 99, descriptorIndex := 100, attributes := #[] }, { accessFlags := 2, nameIndex := 39, descriptorIndex := 40, attributes := #[] }, { accessFlags := 2, nameIndex := 47, descriptorIndex := 8, attributes := #[] }] 48 4 #[] #[{ accessFlags := 24, nameIndex := 83, descriptorIndex := 14, attributes := #[] }, { accessFlags := 18, nameIndex := 13, descriptorIndex := 14, attributes := #[] }, { accessFlags := 2, nameIndex := 33, descriptorIndex := 34, attributes := #[] }, { accessFlags := 2, nameIndex := 54, descriptorIndex := 14, attributes := #[] }, { accessFlags := 2, nameIndex := 19, descriptorIndex := 14, attributes := #[] }, { accessFlags := 2, nameIndex := 43, descriptorIndex := 44, attributes := #[] }])
  fields := #[{ name := "MAX_SIZE", type := .int, accessFlags := 24, slot := 0, constantValue := 0 }, { name := "serial", type := .int, accessFlags := 18, slot := 0, constantValue := 0 }, { name := "buffer", type := (.array (.object "java/lang/Object")), accessFlags := 2, slot := 1, constantValue := 0 }, { name := "head", type := .int, accessFlags := 2, slot := 2, constantValue := 0 }, { name := "size", type := .int, accessFlags := 2, slot := 3, constantValue := 0 }, { name := "firstNumber", type := .long, accessFlags := 2, slot := 4, constantValue := 0 }]
  methods := #[k19m0, k19m1, k19m2, k19m3, k19m4, k19m5, k19m6, k19m7]
  instanceTypes := #[.int, (.array (.object "java/lang/Object")), .int, .int, .long]
  staticTypes := #[.int]
  resolved := Array.replicate 107 none
  statics := none }

def pool20 : Array CpInfo := pool [(2, .class_ 4), (1, u "java/lang/Object"), (0, u "<init>"), (0, u "()V"), (1, .class_ 10), (1, u "java/lang/System"), (0, u "allowSecurityManager"), (0, u "I"), (16, u "cons"), (0, u "Ljava/io/Console;"), (77, .class_ 110), (1, u "java/lang/System$CallersHolder"), (43, u "initialErrStream"), (0, u "Ljava/io/PrintStream;"), (19, u "security"), (0, u "Ljava/lang/SecurityManager;"), (31, .class_ 209), (0, u "java/lang/System$1"), (7, u "props"), (0, u "Ljava/util/Properties;"), (2, u "lineSeparator"), (0, u "Ljava/lang/String;"), (96, .class_ 321), (1, u "java/lang/System$LoggerFinder"), (5, .class_ 328), (0, u "java/lang/System$Logger"), (67, u "err"), (2, u "out"), (91, u "notSupportedJnuEncoding"), (15, u "in"), (17, u "initialIn"), (0, u "Ljava/io/InputStream;"), (35, u "bootLayer"), (0, u "Ljava/lang/ModuleLayer;"), (99, .class_ 664), (0, u "java/lang/System$2"), (9, u "NEVER"), (2, u "MAYBE"), (49, u "arraycopy"), (0, u "(Ljava/lang/Object;ILjava/lang/Object;II)V"), (72, .class_ 802), (0, u "java/lang/System$Logger$Level")] 31

def k20m0 : Method := { name := "<init>", desc := "()V", sig := { parameters := [], returnType := none }, accessFlags := 2, code := none }
def k20m1 : Method := { name := "arraycopy", desc := "(Ljava/lang/Object;ILjava/lang/Object;II)V", sig := { parameters := [(.object "java/lang/Object"), .int, (.object "java/lang/Object"), .int, .int], returnType := none }, accessFlags := 265, code := none }
/-- java/lang/System -/
def k20 : Class := { plain "java/lang/System" (some 0) with
  accessFlags := 49
  interfaces := #[]
  cf := some (fileOf pool20 8 #[.nestMembers #[319, 327, 801, 108, 663, 208]] #[{ accessFlags := 2, nameIndex := 5, descriptorIndex := 6, attributes := #[] }, { accessFlags := 265, nameIndex := 727, descriptorIndex := 728, attributes := #[] }] 49 2 #[] #[{ accessFlags := 25, nameIndex := 507, descriptorIndex := 526, attributes := #[] }, { accessFlags := 25, nameIndex := 399, descriptorIndex := 155, attributes := #[] }, { accessFlags := 25, nameIndex := 396, descriptorIndex := 155, attributes := #[] }, { accessFlags := 10, nameIndex := 525, descriptorIndex := 526, attributes := #[] }, { accessFlags := 26, nameIndex := 674, descriptorIndex := 12, attributes := #[] }, { accessFlags := 26, nameIndex := 677, descriptorIndex := 12, attributes := #[] }, { accessFlags := 10, nameIndex := 11, descriptorIndex := 12, attributes := #[] }, { accessFlags := 74, nameIndex := 175, descriptorIndex := 176, attributes := #[] }, { accessFlags := 10, nameIndex := 491, descriptorIndex := 222, attributes := #[] }, { accessFlags := 74, nameIndex := 29, descriptorIndex := 30, attributes := #[] }, { accessFlags := 74, nameIndex := 154, descriptorIndex := 155, attributes := #[] }, { accessFlags := 10, nameIndex := 217, descriptorIndex := 218, attributes := #[] }, { accessFlags := 10, nameIndex := 221, descriptorIndex := 222, attributes := #[] }, { accessFlags := 8, nameIndex := 562, descriptorIndex := 563, attributes := #[] }])
  fields := #[{ name := "in", type := (.object "java/io/InputStream"), accessFlags := 25, slot := 0, constantValue := 0 }, { name := "out", type := (.object "java/io/PrintStream"), accessFlags := 25, slot := 1, constantValue := 0 }, { name := "err", type := (.object "java/io/PrintStream"), accessFlags := 25, slot := 2, constantValue := 0 }, { name := "initialIn", type := (.object "java/io/InputStream"), accessFlags := 10, slot := 3, constantValue := 0 }, { name := "NEVER", type := .int, accessFlags := 26, slot := 4, constantValue := 0 }, { name := "MAYBE", type := .int, accessFlags := 26, slot := 5, constantValue := 0 }, { name := "allowSecurityManager", type := .int, accessFlags := 10, slot := 6, constantValue := 0 }, { name := "security", type := (.object "java/lang/SecurityManager"), accessFlags := 74, slot := 7, constantValue := 0 }, { name := "notSupportedJnuEncoding", type := (.object "java/lang/String"), accessFlags := 10, slot := 8, constantValue := 0 }, { name := "cons", type := (.object "java/io/Console"), accessFlags := 74, slot := 9, constantValue := 0 }, { name := "initialErrStream", type := (.object "java/io/PrintStream"), accessFlags := 74, slot := 10, constantValue := 0 }, { name := "props", type := (.object "java/util/Properties"), accessFlags := 10, slot := 11, constantValue := 0 }, { name := "lineSeparator", type := (.object "java/lang/String"), accessFlags := 10, slot := 12, constantValue := 0 }, { name := "bootLayer", type := (.object "java/lang/ModuleLayer"), accessFlags := 8, slot := 13, constantValue := 0 }]
  methods := #[k20m0, k20m1]
  instanceTypes := #[]
  staticTypes := #[(.object "java/io/InputStream"), (.object "java/io/PrintStream"), (.object "java/io/PrintStream"), (.object "java/io/InputStream"), .int, .int, .int, (.object "java/lang/SecurityManager"), (.object "java/lang/String"), (.object "java/io/Console"), (.object "java/io/PrintStream"), (.object "java/util/Properties"), (.object "java/lang/String"), (.object "java/lang/ModuleLayer")]
  resolved := Array.replicate 834 none
  statics := none }

/-- the primitive byte -/
def k21 : Class := { plain "byte" none with kind := .primitive 'B', accessFlags := 0x411 }
/-- [B -/
def k22 : Class := { plain "[B" (some 0) with kind := .array 21 .byte, interfaces := #[9, 10], accessFlags := 1041 }

/-- the primitive int -/
def k23 : Class := { plain "int" none with kind := .primitive 'I', accessFlags := 0x411 }
/-- [I -/
def k24 : Class := { plain "[I" (some 0) with kind := .array 23 .int, interfaces := #[9, 10], accessFlags := 1041 }

/-- [Ljava/lang/Integer; -/
def k25 : Class := { plain "[Ljava/lang/Integer;" (some 0) with kind := .array 16 (.object "java/lang/Integer"), interfaces := #[9, 10], accessFlags := 1041 }

/-- [Ljava/lang/Object; -/
def k26 : Class := { plain "[Ljava/lang/Object;" (some 0) with kind := .array 0 (.object "java/lang/Object"), interfaces := #[9, 10], accessFlags := 1041 }

def heap : Heap := #[{ cls := 11, slots := #[.long 0, .int 0, .ref 259, .ref 260], vm := .statics 11 },
  { cls := 17, slots := #[.int 0, .int 127, .ref 2, .null, .int 0], vm := .statics 17 },
  { cls := 25, slots := #[.ref 3, .ref 4, .ref 5, .ref 6, .ref 7, .ref 8, .ref 9, .ref 10, .ref 11, .ref 12, .ref 13, .ref 14, .ref 15, .ref 16, .ref 17, .ref 18, .ref 19, .ref 20, .ref 21, .ref 22, .ref 23, .ref 24, .ref 25, .ref 26, .ref 27, .ref 28, .ref 29, .ref 30, .ref 31, .ref 32, .ref 33, .ref 34, .ref 35, .ref 36, .ref 37, .ref 38, .ref 39, .ref 40, .ref 41, .ref 42, .ref 43, .ref 44, .ref 45, .ref 46, .ref 47, .ref 48, .ref 49, .ref 50, .ref 51, .ref 52, .ref 53, .ref 54, .ref 55, .ref 56, .ref 57, .ref 58, .ref 59, .ref 60, .ref 61, .ref 62, .ref 63, .ref 64, .ref 65, .ref 66, .ref 67, .ref 68, .ref 69, .ref 70, .ref 71, .ref 72, .ref 73, .ref 74, .ref 75, .ref 76, .ref 77, .ref 78, .ref 79, .ref 80, .ref 81, .ref 82, .ref 83, .ref 84, .ref 85, .ref 86, .ref 87, .ref 88, .ref 89, .ref 90, .ref 91, .ref 92, .ref 93, .ref 94, .ref 95, .ref 96, .ref 97, .ref 98, .ref 99, .ref 100, .ref 101, .ref 102, .ref 103, .ref 104, .ref 105, .ref 106, .ref 107, .ref 108, .ref 109, .ref 110, .ref 111, .ref 112, .ref 113, .ref 114, .ref 115, .ref 116, .ref 117, .ref 118, .ref 119, .ref 120, .ref 121, .ref 122, .ref 123, .ref 124, .ref 125, .ref 126, .ref 127, .ref 128, .ref 129, .ref 130, .ref 131, .ref 132, .ref 133, .ref 134, .ref 135, .ref 136, .ref 137, .ref 138, .ref 139, .ref 140, .ref 141, .ref 142, .ref 143, .ref 144, .ref 145, .ref 146, .ref 147, .ref 148, .ref 149, .ref 150, .ref 151, .ref 152, .ref 153, .ref 154, .ref 155, .ref 156, .ref 157, .ref 158, .ref 159, .ref 160, .ref 161, .ref 162, .ref 163, .ref 164, .ref 165, .ref 166, .ref 167, .ref 168, .ref 169, .ref 170, .ref 171, .ref 172, .ref 173, .ref 174, .ref 175, .ref 176, .ref 177, .ref 178, .ref 179, .ref 180, .ref 181, .ref 182, .ref 183, .ref 184, .ref 185, .ref 186, .ref 187, .ref 188, .ref 189, .ref 190, .ref 191, .ref 192, .ref 193, .ref 194, .ref 195, .ref 196, .ref 197, .ref 198, .ref 199, .ref 200, .ref 201, .ref 202, .ref 203, .ref 204, .ref 205, .ref 206, .ref 207, .ref 208, .ref 209, .ref 210, .ref 211, .ref 212, .ref 213, .ref 214, .ref 215, .ref 216, .ref 217, .ref 218, .ref 219, .ref 220, .ref 221, .ref 222, .ref 223, .ref 224, .ref 225, .ref 226, .ref 227, .ref 228, .ref 229, .ref 230, .ref 231, .ref 232, .ref 233, .ref 234, .ref 235, .ref 236, .ref 237, .ref 238, .ref 239, .ref 240, .ref 241, .ref 242, .ref 243, .ref 244, .ref 245, .ref 246, .ref 247, .ref 248, .ref 249, .ref 250, .ref 251, .ref 252, .ref 253, .ref 254, .ref 255, .ref 256, .ref 257, .ref 258], vm := .none },
  { cls := 16, slots := #[.int (-128)], vm := .none },
  { cls := 16, slots := #[.int (-127)], vm := .none },
  { cls := 16, slots := #[.int (-126)], vm := .none },
  { cls := 16, slots := #[.int (-125)], vm := .none },
  { cls := 16, slots := #[.int (-124)], vm := .none },
  { cls := 16, slots := #[.int (-123)], vm := .none },
  { cls := 16, slots := #[.int (-122)], vm := .none },
  { cls := 16, slots := #[.int (-121)], vm := .none },
  { cls := 16, slots := #[.int (-120)], vm := .none },
  { cls := 16, slots := #[.int (-119)], vm := .none },
  { cls := 16, slots := #[.int (-118)], vm := .none },
  { cls := 16, slots := #[.int (-117)], vm := .none },
  { cls := 16, slots := #[.int (-116)], vm := .none },
  { cls := 16, slots := #[.int (-115)], vm := .none },
  { cls := 16, slots := #[.int (-114)], vm := .none },
  { cls := 16, slots := #[.int (-113)], vm := .none },
  { cls := 16, slots := #[.int (-112)], vm := .none },
  { cls := 16, slots := #[.int (-111)], vm := .none },
  { cls := 16, slots := #[.int (-110)], vm := .none },
  { cls := 16, slots := #[.int (-109)], vm := .none },
  { cls := 16, slots := #[.int (-108)], vm := .none },
  { cls := 16, slots := #[.int (-107)], vm := .none },
  { cls := 16, slots := #[.int (-106)], vm := .none },
  { cls := 16, slots := #[.int (-105)], vm := .none },
  { cls := 16, slots := #[.int (-104)], vm := .none },
  { cls := 16, slots := #[.int (-103)], vm := .none },
  { cls := 16, slots := #[.int (-102)], vm := .none },
  { cls := 16, slots := #[.int (-101)], vm := .none },
  { cls := 16, slots := #[.int (-100)], vm := .none },
  { cls := 16, slots := #[.int (-99)], vm := .none },
  { cls := 16, slots := #[.int (-98)], vm := .none },
  { cls := 16, slots := #[.int (-97)], vm := .none },
  { cls := 16, slots := #[.int (-96)], vm := .none },
  { cls := 16, slots := #[.int (-95)], vm := .none },
  { cls := 16, slots := #[.int (-94)], vm := .none },
  { cls := 16, slots := #[.int (-93)], vm := .none },
  { cls := 16, slots := #[.int (-92)], vm := .none },
  { cls := 16, slots := #[.int (-91)], vm := .none },
  { cls := 16, slots := #[.int (-90)], vm := .none },
  { cls := 16, slots := #[.int (-89)], vm := .none },
  { cls := 16, slots := #[.int (-88)], vm := .none },
  { cls := 16, slots := #[.int (-87)], vm := .none },
  { cls := 16, slots := #[.int (-86)], vm := .none },
  { cls := 16, slots := #[.int (-85)], vm := .none },
  { cls := 16, slots := #[.int (-84)], vm := .none },
  { cls := 16, slots := #[.int (-83)], vm := .none },
  { cls := 16, slots := #[.int (-82)], vm := .none },
  { cls := 16, slots := #[.int (-81)], vm := .none },
  { cls := 16, slots := #[.int (-80)], vm := .none },
  { cls := 16, slots := #[.int (-79)], vm := .none },
  { cls := 16, slots := #[.int (-78)], vm := .none },
  { cls := 16, slots := #[.int (-77)], vm := .none },
  { cls := 16, slots := #[.int (-76)], vm := .none },
  { cls := 16, slots := #[.int (-75)], vm := .none },
  { cls := 16, slots := #[.int (-74)], vm := .none },
  { cls := 16, slots := #[.int (-73)], vm := .none },
  { cls := 16, slots := #[.int (-72)], vm := .none },
  { cls := 16, slots := #[.int (-71)], vm := .none },
  { cls := 16, slots := #[.int (-70)], vm := .none },
  { cls := 16, slots := #[.int (-69)], vm := .none },
  { cls := 16, slots := #[.int (-68)], vm := .none },
  { cls := 16, slots := #[.int (-67)], vm := .none },
  { cls := 16, slots := #[.int (-66)], vm := .none },
  { cls := 16, slots := #[.int (-65)], vm := .none },
  { cls := 16, slots := #[.int (-64)], vm := .none },
  { cls := 16, slots := #[.int (-63)], vm := .none },
  { cls := 16, slots := #[.int (-62)], vm := .none },
  { cls := 16, slots := #[.int (-61)], vm := .none },
  { cls := 16, slots := #[.int (-60)], vm := .none },
  { cls := 16, slots := #[.int (-59)], vm := .none },
  { cls := 16, slots := #[.int (-58)], vm := .none },
  { cls := 16, slots := #[.int (-57)], vm := .none },
  { cls := 16, slots := #[.int (-56)], vm := .none },
  { cls := 16, slots := #[.int (-55)], vm := .none },
  { cls := 16, slots := #[.int (-54)], vm := .none },
  { cls := 16, slots := #[.int (-53)], vm := .none },
  { cls := 16, slots := #[.int (-52)], vm := .none },
  { cls := 16, slots := #[.int (-51)], vm := .none },
  { cls := 16, slots := #[.int (-50)], vm := .none },
  { cls := 16, slots := #[.int (-49)], vm := .none },
  { cls := 16, slots := #[.int (-48)], vm := .none },
  { cls := 16, slots := #[.int (-47)], vm := .none },
  { cls := 16, slots := #[.int (-46)], vm := .none },
  { cls := 16, slots := #[.int (-45)], vm := .none },
  { cls := 16, slots := #[.int (-44)], vm := .none },
  { cls := 16, slots := #[.int (-43)], vm := .none },
  { cls := 16, slots := #[.int (-42)], vm := .none },
  { cls := 16, slots := #[.int (-41)], vm := .none },
  { cls := 16, slots := #[.int (-40)], vm := .none },
  { cls := 16, slots := #[.int (-39)], vm := .none },
  { cls := 16, slots := #[.int (-38)], vm := .none },
  { cls := 16, slots := #[.int (-37)], vm := .none },
  { cls := 16, slots := #[.int (-36)], vm := .none },
  { cls := 16, slots := #[.int (-35)], vm := .none },
  { cls := 16, slots := #[.int (-34)], vm := .none },
  { cls := 16, slots := #[.int (-33)], vm := .none },
  { cls := 16, slots := #[.int (-32)], vm := .none },
  { cls := 16, slots := #[.int (-31)], vm := .none },
  { cls := 16, slots := #[.int (-30)], vm := .none },
  { cls := 16, slots := #[.int (-29)], vm := .none },
  { cls := 16, slots := #[.int (-28)], vm := .none },
  { cls := 16, slots := #[.int (-27)], vm := .none },
  { cls := 16, slots := #[.int (-26)], vm := .none },
  { cls := 16, slots := #[.int (-25)], vm := .none },
  { cls := 16, slots := #[.int (-24)], vm := .none },
  { cls := 16, slots := #[.int (-23)], vm := .none },
  { cls := 16, slots := #[.int (-22)], vm := .none },
  { cls := 16, slots := #[.int (-21)], vm := .none },
  { cls := 16, slots := #[.int (-20)], vm := .none },
  { cls := 16, slots := #[.int (-19)], vm := .none },
  { cls := 16, slots := #[.int (-18)], vm := .none },
  { cls := 16, slots := #[.int (-17)], vm := .none },
  { cls := 16, slots := #[.int (-16)], vm := .none },
  { cls := 16, slots := #[.int (-15)], vm := .none },
  { cls := 16, slots := #[.int (-14)], vm := .none },
  { cls := 16, slots := #[.int (-13)], vm := .none },
  { cls := 16, slots := #[.int (-12)], vm := .none },
  { cls := 16, slots := #[.int (-11)], vm := .none },
  { cls := 16, slots := #[.int (-10)], vm := .none },
  { cls := 16, slots := #[.int (-9)], vm := .none },
  { cls := 16, slots := #[.int (-8)], vm := .none },
  { cls := 16, slots := #[.int (-7)], vm := .none },
  { cls := 16, slots := #[.int (-6)], vm := .none },
  { cls := 16, slots := #[.int (-5)], vm := .none },
  { cls := 16, slots := #[.int (-4)], vm := .none },
  { cls := 16, slots := #[.int (-3)], vm := .none },
  { cls := 16, slots := #[.int (-2)], vm := .none },
  { cls := 16, slots := #[.int (-1)], vm := .none },
  { cls := 16, slots := #[.int 0], vm := .none },
  { cls := 16, slots := #[.int 1], vm := .none },
  { cls := 16, slots := #[.int 2], vm := .none },
  { cls := 16, slots := #[.int 3], vm := .none },
  { cls := 16, slots := #[.int 4], vm := .none },
  { cls := 16, slots := #[.int 5], vm := .none },
  { cls := 16, slots := #[.int 6], vm := .none },
  { cls := 16, slots := #[.int 7], vm := .none },
  { cls := 16, slots := #[.int 8], vm := .none },
  { cls := 16, slots := #[.int 9], vm := .none },
  { cls := 16, slots := #[.int 10], vm := .none },
  { cls := 16, slots := #[.int 11], vm := .none },
  { cls := 16, slots := #[.int 12], vm := .none },
  { cls := 16, slots := #[.int 13], vm := .none },
  { cls := 16, slots := #[.int 14], vm := .none },
  { cls := 16, slots := #[.int 15], vm := .none },
  { cls := 16, slots := #[.int 16], vm := .none },
  { cls := 16, slots := #[.int 17], vm := .none },
  { cls := 16, slots := #[.int 18], vm := .none },
  { cls := 16, slots := #[.int 19], vm := .none },
  { cls := 16, slots := #[.int 20], vm := .none },
  { cls := 16, slots := #[.int 21], vm := .none },
  { cls := 16, slots := #[.int 22], vm := .none },
  { cls := 16, slots := #[.int 23], vm := .none },
  { cls := 16, slots := #[.int 24], vm := .none },
  { cls := 16, slots := #[.int 25], vm := .none },
  { cls := 16, slots := #[.int 26], vm := .none },
  { cls := 16, slots := #[.int 27], vm := .none },
  { cls := 16, slots := #[.int 28], vm := .none },
  { cls := 16, slots := #[.int 29], vm := .none },
  { cls := 16, slots := #[.int 30], vm := .none },
  { cls := 16, slots := #[.int 31], vm := .none },
  { cls := 16, slots := #[.int 32], vm := .none },
  { cls := 16, slots := #[.int 33], vm := .none },
  { cls := 16, slots := #[.int 34], vm := .none },
  { cls := 16, slots := #[.int 35], vm := .none },
  { cls := 16, slots := #[.int 36], vm := .none },
  { cls := 16, slots := #[.int 37], vm := .none },
  { cls := 16, slots := #[.int 38], vm := .none },
  { cls := 16, slots := #[.int 39], vm := .none },
  { cls := 16, slots := #[.int 40], vm := .none },
  { cls := 16, slots := #[.int 41], vm := .none },
  { cls := 16, slots := #[.int 42], vm := .none },
  { cls := 16, slots := #[.int 43], vm := .none },
  { cls := 16, slots := #[.int 44], vm := .none },
  { cls := 16, slots := #[.int 45], vm := .none },
  { cls := 16, slots := #[.int 46], vm := .none },
  { cls := 16, slots := #[.int 47], vm := .none },
  { cls := 16, slots := #[.int 48], vm := .none },
  { cls := 16, slots := #[.int 49], vm := .none },
  { cls := 16, slots := #[.int 50], vm := .none },
  { cls := 16, slots := #[.int 51], vm := .none },
  { cls := 16, slots := #[.int 52], vm := .none },
  { cls := 16, slots := #[.int 53], vm := .none },
  { cls := 16, slots := #[.int 54], vm := .none },
  { cls := 16, slots := #[.int 55], vm := .none },
  { cls := 16, slots := #[.int 56], vm := .none },
  { cls := 16, slots := #[.int 57], vm := .none },
  { cls := 16, slots := #[.int 58], vm := .none },
  { cls := 16, slots := #[.int 59], vm := .none },
  { cls := 16, slots := #[.int 60], vm := .none },
  { cls := 16, slots := #[.int 61], vm := .none },
  { cls := 16, slots := #[.int 62], vm := .none },
  { cls := 16, slots := #[.int 63], vm := .none },
  { cls := 16, slots := #[.int 64], vm := .none },
  { cls := 16, slots := #[.int 65], vm := .none },
  { cls := 16, slots := #[.int 66], vm := .none },
  { cls := 16, slots := #[.int 67], vm := .none },
  { cls := 16, slots := #[.int 68], vm := .none },
  { cls := 16, slots := #[.int 69], vm := .none },
  { cls := 16, slots := #[.int 70], vm := .none },
  { cls := 16, slots := #[.int 71], vm := .none },
  { cls := 16, slots := #[.int 72], vm := .none },
  { cls := 16, slots := #[.int 73], vm := .none },
  { cls := 16, slots := #[.int 74], vm := .none },
  { cls := 16, slots := #[.int 75], vm := .none },
  { cls := 16, slots := #[.int 76], vm := .none },
  { cls := 16, slots := #[.int 77], vm := .none },
  { cls := 16, slots := #[.int 78], vm := .none },
  { cls := 16, slots := #[.int 79], vm := .none },
  { cls := 16, slots := #[.int 80], vm := .none },
  { cls := 16, slots := #[.int 81], vm := .none },
  { cls := 16, slots := #[.int 82], vm := .none },
  { cls := 16, slots := #[.int 83], vm := .none },
  { cls := 16, slots := #[.int 84], vm := .none },
  { cls := 16, slots := #[.int 85], vm := .none },
  { cls := 16, slots := #[.int 86], vm := .none },
  { cls := 16, slots := #[.int 87], vm := .none },
  { cls := 16, slots := #[.int 88], vm := .none },
  { cls := 16, slots := #[.int 89], vm := .none },
  { cls := 16, slots := #[.int 90], vm := .none },
  { cls := 16, slots := #[.int 91], vm := .none },
  { cls := 16, slots := #[.int 92], vm := .none },
  { cls := 16, slots := #[.int 93], vm := .none },
  { cls := 16, slots := #[.int 94], vm := .none },
  { cls := 16, slots := #[.int 95], vm := .none },
  { cls := 16, slots := #[.int 96], vm := .none },
  { cls := 16, slots := #[.int 97], vm := .none },
  { cls := 16, slots := #[.int 98], vm := .none },
  { cls := 16, slots := #[.int 99], vm := .none },
  { cls := 16, slots := #[.int 100], vm := .none },
  { cls := 16, slots := #[.int 101], vm := .none },
  { cls := 16, slots := #[.int 102], vm := .none },
  { cls := 16, slots := #[.int 103], vm := .none },
  { cls := 16, slots := #[.int 104], vm := .none },
  { cls := 16, slots := #[.int 105], vm := .none },
  { cls := 16, slots := #[.int 106], vm := .none },
  { cls := 16, slots := #[.int 107], vm := .none },
  { cls := 16, slots := #[.int 108], vm := .none },
  { cls := 16, slots := #[.int 109], vm := .none },
  { cls := 16, slots := #[.int 110], vm := .none },
  { cls := 16, slots := #[.int 111], vm := .none },
  { cls := 16, slots := #[.int 112], vm := .none },
  { cls := 16, slots := #[.int 113], vm := .none },
  { cls := 16, slots := #[.int 114], vm := .none },
  { cls := 16, slots := #[.int 115], vm := .none },
  { cls := 16, slots := #[.int 116], vm := .none },
  { cls := 16, slots := #[.int 117], vm := .none },
  { cls := 16, slots := #[.int 118], vm := .none },
  { cls := 16, slots := #[.int 119], vm := .none },
  { cls := 16, slots := #[.int 120], vm := .none },
  { cls := 16, slots := #[.int 121], vm := .none },
  { cls := 16, slots := #[.int 122], vm := .none },
  { cls := 16, slots := #[.int 123], vm := .none },
  { cls := 16, slots := #[.int 124], vm := .none },
  { cls := 16, slots := #[.int 125], vm := .none },
  { cls := 16, slots := #[.int 126], vm := .none },
  { cls := 16, slots := #[.int 127], vm := .none },
  { cls := 26, slots := #[], vm := .none },
  { cls := 26, slots := #[], vm := .none }]
def classes : Array Class := #[k0, k1, k2, k3, k4, k5, k6, k7, k8, k9, k10, k11, k12, k13, k14, k15, k16, k17, k18, k19, k20, k21, k22, k23, k24, k25, k26]
def interned : List (Array UInt16 × Addr) := []
def slotsUsed : Nat := 521
def theMethod : MethodId := ⟨1, 2⟩
def args0 : Array Value := #[.long 5, .int 5, .int 5, .int 5]
def aboutOver (below : List Frame) : State where
  vm := { classes := classes, interned := interned.toArray }
  heap := heap
  slotsUsed := slotsUsed
  threads := #[{ frames := .invoking theMethod args0 :: below }]
def below0 : List Frame := [.native { method := ⟨0, 0⟩, args := #[] }]
def about1 : State := aboutOver below0
def p0 : Program := .bare "" "" ""
def e0 : Env := launch0.env 0 0 0
theorem w_frames : about1.frames = Frame.invoking theMethod args0 :: below0 := rfl
set_option maxRecDepth 65536 in
theorem w_args : argsFit about1.vm theMethod args0 = true := by decide +kernel
set_option maxRecDepth 65536 in
theorem w_heap : heapFits about1 = true := by decide +kernel
set_option maxRecDepth 65536 in
theorem w_runnable : about1.curStatus? = some .runnable := by decide +kernel
set_option maxRecDepth 65536 in
theorem w_alone : about1.alone = true := by decide +kernel
set_option maxRecDepth 65536 in
theorem w_named : about1.methodNamed? x = some theMethod := by decide +kernel
set_option maxRecDepth 65536 in
theorem w_hears : about1.hears theMethod below0 = true := by decide +kernel
set_option maxRecDepth 65536 in
theorem w_ripe : about1.ripe theMethod args0 below0 = true := by decide +kernel
theorem w_running : about1.status = .running := rfl
set_option maxRecDepth 65536 in
theorem w_room : about1.hasRoom e0.platform room_1 = true :=
  launch0.hasRoom_least _ room_1 (by decide +kernel) (by decide +kernel) (by decide +kernel) (by decide +kernel) (by decide +kernel) (by decide +kernel)
theorem allAtoms_all (ts : List Jvm.Cond) (a : Array Jvm.Value) (st : Jvm.State) : (allAtoms ts).before a st = ts.all (fun c => c.before a st) := by
  induction ts with
  | nil => rfl
  | cons c t ih =>
    show (Jvm.Cond.and c (allAtoms t)).before a st = _
    rw [Jvm.Cond.before_and, ih, List.all_cons]
def words1 : List Jvm.Cond := Jvm.Cond.code x code maxLocals ret :: tables_1
/-- a 'code' word, met by the world's own term for the bytes: nothing is compared byte by byte -/
theorem code_word {y : MethodName} {bytes : ByteArray} {mx : Nat} {rt : Option FieldType} {a : Array Value} {s : State} {m : MethodId} {meth : Method} {c : Code} (h1 : s.methodNamed? y = some m) (h2 : s.vm.method? m = some meth) (h3 : meth.code = some c) (h4 : c.code = bytes)
    (h5 : (c.maxLocals == mx && c.exceptionTable.isEmpty && decide (c.maxStack ≤ mostOperands) && decide (meth.sig.returnType = rt) && !meth.locks && decide (parseMethodDescriptor y.desc = some meth.sig)) = true) : (Jvm.Cond.code y bytes mx rt).before a s = true := by
  simp only [Bool.and_eq_true, beq_iff_eq, Bool.not_eq_true', decide_eq_true_eq] at h5
  obtain ⟨⟨⟨⟨⟨g1, g2⟩, g3⟩, g4⟩, g5⟩, g6⟩ := h5
  simp [Cond.before, Cond.holds, Cond.value, h1, h2, h3, h4, g1, g2, g3, g4, g5, g6]
def isCode : Jvm.Cond → Bool
  | .code _ _ _ _ => true
  | _ => false
theorem all_split {L : List Jvm.Cond} {P : Jvm.Cond → Bool} (h1 : L.all (fun c => isCode c || P c) = true) (h2 : ∀ c ∈ L.filter isCode, P c = true) : L.all P = true := by
  refine List.all_eq_true.mpr fun c hc => ?_
  have h := List.all_eq_true.mp h1 c hc
  rcases Bool.eq_false_or_eq_true (isCode c) with hi | hi
  · exact h2 c (List.mem_filter.mpr ⟨hc, hi⟩)
  · simpa [hi] using h
set_option maxRecDepth 65536 in
theorem w_c0 : (Jvm.Cond.code x code maxLocals ret).before args0 about1 = true := code_word (m := ⟨1, 2⟩) (meth := k1m2) (c := k1c2) (by decide +kernel) rfl rfl rfl (by decide +kernel)
set_option maxRecDepth 65536 in
theorem w_c1 : (Jvm.Cond.code ({ cls := "java/util/ArrayList", name := "<init>", desc := "()V" } : Jvm.MethodName) jdk_38_method_2_code (1 : Nat) (Option.none : Option Jvm.ClassFile.FieldType)).before args0 about1 = true := code_word (m := ⟨11, 0⟩) (meth := k11m0) (c := k11c0) (by decide +kernel) rfl rfl rfl (by decide +kernel)
set_option maxRecDepth 65536 in
theorem w_c2 : (Jvm.Cond.code ({ cls := "java/util/AbstractList", name := "<init>", desc := "()V" } : Jvm.MethodName) jdk_39_method_1_code (1 : Nat) (Option.none : Option Jvm.ClassFile.FieldType)).before args0 about1 = true := code_word (m := ⟨7, 0⟩) (meth := k7m0) (c := k7c0) (by decide +kernel) rfl rfl rfl (by decide +kernel)
set_option maxRecDepth 65536 in
theorem w_c3 : (Jvm.Cond.code ({ cls := "java/util/AbstractCollection", name := "<init>", desc := "()V" } : Jvm.MethodName) jdk_22_method_1_code (1 : Nat) (Option.none : Option Jvm.ClassFile.FieldType)).before args0 about1 = true := code_word (m := ⟨4, 0⟩) (meth := k4m0) (c := k4c0) (by decide +kernel) rfl rfl rfl (by decide +kernel)
set_option maxRecDepth 65536 in
theorem w_c4 : (Jvm.Cond.code ({ cls := "java/lang/Object", name := "<init>", desc := "()V" } : Jvm.MethodName) object_method_1_code (1 : Nat) (Option.none : Option Jvm.ClassFile.FieldType)).before args0 about1 = true := code_word (m := ⟨0, 0⟩) (meth := k0m0) (c := k0c0) (by decide +kernel) rfl rfl rfl (by decide +kernel)
set_option maxRecDepth 65536 in
theorem w_c5 : (Jvm.Cond.code ({ cls := "java/lang/Integer", name := "valueOf", desc := "(I)Ljava/lang/Integer;" } : Jvm.MethodName) jdk_33_method_22_code (1 : Nat) (Option.some (Jvm.ClassFile.FieldType.object "java/lang/Integer"))).before args0 about1 = true := code_word (m := ⟨16, 0⟩) (meth := k16m0) (c := k16c0) (by decide +kernel) rfl rfl rfl (by decide +kernel)
set_option maxRecDepth 65536 in
theorem w_c6 : (Jvm.Cond.code ({ cls := "java/util/ArrayList", name := "add", desc := "(Ljava/lang/Object;)Z" } : Jvm.MethodName) jdk_38_method_25_code (2 : Nat) (Option.some Jvm.ClassFile.FieldType.boolean)).before args0 about1 = true := code_word (m := ⟨11, 6⟩) (meth := k11m6) (c := k11c6) (by decide +kernel) rfl rfl rfl (by decide +kernel)
set_option maxRecDepth 65536 in
theorem w_c7 : (Jvm.Cond.code ({ cls := "java/util/ArrayList", name := "add", desc := "(Ljava/lang/Object;[Ljava/lang/Object;I)V" } : Jvm.MethodName) jdk_38_method_24_code (4 : Nat) (Option.none : Option Jvm.ClassFile.FieldType)).before args0 about1 = true := code_word (m := ⟨11, 5⟩) (meth := k11m5) (c := k11c5) (by decide +kernel) rfl rfl rfl (by decide +kernel)
set_option maxRecDepth 65536 in
theorem w_c8 : (Jvm.Cond.code ({ cls := "java/util/ArrayList", name := "grow", desc := "()[Ljava/lang/Object;" } : Jvm.MethodName) jdk_38_method_7_code (1 : Nat) (Option.some (Jvm.ClassFile.FieldType.array (Jvm.ClassFile.FieldType.object "java/lang/Object")))).before args0 about1 = true := code_word (m := ⟨11, 2⟩) (meth := k11m2) (c := k11c2) (by decide +kernel) rfl rfl rfl (by decide +kernel)
set_option maxRecDepth 65536 in
theorem w_c9 : (Jvm.Cond.code ({ cls := "java/util/ArrayList", name := "grow", desc := "(I)[Ljava/lang/Object;" } : Jvm.MethodName) jdk_38_method_6_code (4 : Nat) (Option.some (Jvm.ClassFile.FieldType.array (Jvm.ClassFile.FieldType.object "java/lang/Object")))).before args0 about1 = true := code_word (m := ⟨11, 1⟩) (meth := k11m1) (c := k11c1) (by decide +kernel) rfl rfl rfl (by decide +kernel)
set_option maxRecDepth 65536 in
theorem w_c10 : (Jvm.Cond.code ({ cls := "java/lang/Math", name := "max", desc := "(II)I" } : Jvm.MethodName) jdk_29_method_65_code (2 : Nat) (Option.some Jvm.ClassFile.FieldType.int)).before args0 about1 = true := code_word (m := ⟨18, 1⟩) (meth := k18m1) (c := k18c1) (by decide +kernel) rfl rfl rfl (by decide +kernel)
set_option maxRecDepth 65536 in
theorem w_c11 : (Jvm.Cond.code ({ cls := "com/example/goalwatch/goalwatch/runtime/IconList", name := "<init>", desc := "(ILjava/util/List;)V" } : Jvm.MethodName) prog_50_method_1_code (3 : Nat) (Option.none : Option Jvm.ClassFile.FieldType)).before args0 about1 = true := code_word (m := ⟨19, 0⟩) (meth := k19m0) (c := k19c0) (by decide +kernel) rfl rfl rfl (by decide +kernel)
set_option maxRecDepth 65536 in
theorem w_c12 : (Jvm.Cond.code ({ cls := "java/util/ArrayList", name := "size", desc := "()I" } : Jvm.MethodName) jdk_38_method_8_code (1 : Nat) (Option.some Jvm.ClassFile.FieldType.int)).before args0 about1 = true := code_word (m := ⟨11, 3⟩) (meth := k11m3) (c := k11c3) (by decide +kernel) rfl rfl rfl (by decide +kernel)
set_option maxRecDepth 65536 in
theorem w_c13 : (Jvm.Cond.code ({ cls := "java/util/ArrayList", name := "toArray", desc := "([Ljava/lang/Object;)[Ljava/lang/Object;" } : Jvm.MethodName) jdk_38_method_17_code (2 : Nat) (Option.some (Jvm.ClassFile.FieldType.array (Jvm.ClassFile.FieldType.object "java/lang/Object")))).before args0 about1 = true := code_word (m := ⟨11, 4⟩) (meth := k11m4) (c := k11c4) (by decide +kernel) rfl rfl rfl (by decide +kernel)
set_option maxRecDepth 65536 in
theorem w_c14 : (Jvm.Cond.code ({ cls := "com/example/goalwatch/goalwatch/runtime/IconList", name := "indexOf", desc := "(J)I" } : Jvm.MethodName) prog_50_method_7_code (5 : Nat) (Option.some Jvm.ClassFile.FieldType.int)).before args0 about1 = true := code_word (m := ⟨19, 3⟩) (meth := k19m3) (c := k19c3) (by decide +kernel) rfl rfl rfl (by decide +kernel)
set_option maxRecDepth 65536 in
theorem w_c15 : (Jvm.Cond.code ({ cls := "com/example/goalwatch/goalwatch/runtime/IconListIndexOfPinLaw", name := "step", desc := "(Lcom/example/goalwatch/goalwatch/runtime/IconList;Z)V" } : Jvm.MethodName) method_2_code (2 : Nat) (Option.none : Option Jvm.ClassFile.FieldType)).before args0 about1 = true := code_word (m := ⟨1, 1⟩) (meth := k1m1) (c := k1c1) (by decide +kernel) rfl rfl rfl (by decide +kernel)
set_option maxRecDepth 65536 in
theorem w_c16 : (Jvm.Cond.code ({ cls := "com/example/goalwatch/goalwatch/runtime/IconList", name := "removeFirst", desc := "()Ljava/lang/Object;" } : Jvm.MethodName) prog_50_method_10_code (2 : Nat) (Option.some (Jvm.ClassFile.FieldType.object "java/lang/Object"))).before args0 about1 = true := code_word (m := ⟨19, 5⟩) (meth := k19m5) (c := k19c5) (by decide +kernel) rfl rfl rfl (by decide +kernel)
set_option maxRecDepth 65536 in
theorem w_c17 : (Jvm.Cond.code ({ cls := "com/example/goalwatch/goalwatch/runtime/IconList", name := "get", desc := "(I)Ljava/lang/Object;" } : Jvm.MethodName) prog_50_method_4_code (2 : Nat) (Option.some (Jvm.ClassFile.FieldType.object "java/lang/Object"))).before args0 about1 = true := code_word (m := ⟨19, 1⟩) (meth := k19m1) (c := k19c1) (by decide +kernel) rfl rfl rfl (by decide +kernel)
set_option maxRecDepth 65536 in
theorem w_c18 : (Jvm.Cond.code ({ cls := "com/example/goalwatch/goalwatch/runtime/IconList", name := "slot", desc := "(I)I" } : Jvm.MethodName) prog_50_method_12_code (3 : Nat) (Option.some Jvm.ClassFile.FieldType.int)).before args0 about1 = true := code_word (m := ⟨19, 6⟩) (meth := k19m6) (c := k19c6) (by decide +kernel) rfl rfl rfl (by decide +kernel)
set_option maxRecDepth 65536 in
theorem w_c19 : (Jvm.Cond.code ({ cls := "java/lang/Math", name := "min", desc := "(II)I" } : Jvm.MethodName) jdk_29_method_69_code (2 : Nat) (Option.some Jvm.ClassFile.FieldType.int)).before args0 about1 = true := code_word (m := ⟨18, 2⟩) (meth := k18m2) (c := k18c2) (by decide +kernel) rfl rfl rfl (by decide +kernel)
set_option maxRecDepth 65536 in
theorem w_c20 : (Jvm.Cond.code ({ cls := "com/example/goalwatch/goalwatch/runtime/IconList", name := "prepend", desc := "(Ljava/lang/Object;)V" } : Jvm.MethodName) prog_50_method_9_code (2 : Nat) (Option.none : Option Jvm.ClassFile.FieldType)).before args0 about1 = true := code_word (m := ⟨19, 4⟩) (meth := k19m4) (c := k19c4) (by decide +kernel) rfl rfl rfl (by decide +kernel)
set_option maxRecDepth 65536 in
theorem w_c21 : (Jvm.Cond.code ({ cls := "com/example/goalwatch/goalwatch/runtime/IconList", name := "makeRoom", desc := "()V" } : Jvm.MethodName) prog_50_method_13_code (4 : Nat) (Option.none : Option Jvm.ClassFile.FieldType)).before args0 about1 = true := code_word (m := ⟨19, 7⟩) (meth := k19m7) (c := k19c7) (by decide +kernel) rfl rfl rfl (by decide +kernel)
set_option maxRecDepth 65536 in
theorem w_c22 : (Jvm.Cond.code ({ cls := "java/lang/Math", name := "min", desc := "(JJ)J" } : Jvm.MethodName) jdk_29_method_70_code (4 : Nat) (Option.some Jvm.ClassFile.FieldType.long)).before args0 about1 = true := code_word (m := ⟨18, 3⟩) (meth := k18m3) (c := k18c3) (by decide +kernel) rfl rfl rfl (by decide +kernel)
set_option maxRecDepth 65536 in
theorem w_c23 : (Jvm.Cond.code ({ cls := "com/example/goalwatch/goalwatch/runtime/IconList", name := "set", desc := "(ILjava/lang/Object;)V" } : Jvm.MethodName) prog_50_method_5_code (3 : Nat) (Option.none : Option Jvm.ClassFile.FieldType)).before args0 about1 = true := code_word (m := ⟨19, 2⟩) (meth := k19m2) (c := k19c2) (by decide +kernel) rfl rfl rfl (by decide +kernel)
def codes1 : List Jvm.Cond := [Jvm.Cond.code x code maxLocals ret, Jvm.Cond.code ({ cls := "java/util/ArrayList", name := "<init>", desc := "()V" } : Jvm.MethodName) jdk_38_method_2_code (1 : Nat) (Option.none : Option Jvm.ClassFile.FieldType), Jvm.Cond.code ({ cls := "java/util/AbstractList", name := "<init>", desc := "()V" } : Jvm.MethodName) jdk_39_method_1_code (1 : Nat) (Option.none : Option Jvm.ClassFile.FieldType), Jvm.Cond.code ({ cls := "java/util/AbstractCollection", name := "<init>", desc := "()V" } : Jvm.MethodName) jdk_22_method_1_code (1 : Nat) (Option.none : Option Jvm.ClassFile.FieldType), Jvm.Cond.code ({ cls := "java/lang/Object", name := "<init>", desc := "()V" } : Jvm.MethodName) object_method_1_code (1 : Nat) (Option.none : Option Jvm.ClassFile.FieldType), Jvm.Cond.code ({ cls := "java/lang/Integer", name := "valueOf", desc := "(I)Ljava/lang/Integer;" } : Jvm.MethodName) jdk_33_method_22_code (1 : Nat) (Option.some (Jvm.ClassFile.FieldType.object "java/lang/Integer")), Jvm.Cond.code ({ cls := "java/util/ArrayList", name := "add", desc := "(Ljava/lang/Object;)Z" } : Jvm.MethodName) jdk_38_method_25_code (2 : Nat) (Option.some Jvm.ClassFile.FieldType.boolean), Jvm.Cond.code ({ cls := "java/util/ArrayList", name := "add", desc := "(Ljava/lang/Object;[Ljava/lang/Object;I)V" } : Jvm.MethodName) jdk_38_method_24_code (4 : Nat) (Option.none : Option Jvm.ClassFile.FieldType), Jvm.Cond.code ({ cls := "java/util/ArrayList", name := "grow", desc := "()[Ljava/lang/Object;" } : Jvm.MethodName) jdk_38_method_7_code (1 : Nat) (Option.some (Jvm.ClassFile.FieldType.array (Jvm.ClassFile.FieldType.object "java/lang/Object"))), Jvm.Cond.code ({ cls := "java/util/ArrayList", name := "grow", desc := "(I)[Ljava/lang/Object;" } : Jvm.MethodName) jdk_38_method_6_code (4 : Nat) (Option.some (Jvm.ClassFile.FieldType.array (Jvm.ClassFile.FieldType.object "java/lang/Object"))), Jvm.Cond.code ({ cls := "java/lang/Math", name := "max", desc := "(II)I" } : Jvm.MethodName) jdk_29_method_65_code (2 : Nat) (Option.some Jvm.ClassFile.FieldType.int), Jvm.Cond.code ({ cls := "com/example/goalwatch/goalwatch/runtime/IconList", name := "<init>", desc := "(ILjava/util/List;)V" } : Jvm.MethodName) prog_50_method_1_code (3 : Nat) (Option.none : Option Jvm.ClassFile.FieldType), Jvm.Cond.code ({ cls := "java/util/ArrayList", name := "size", desc := "()I" } : Jvm.MethodName) jdk_38_method_8_code (1 : Nat) (Option.some Jvm.ClassFile.FieldType.int), Jvm.Cond.code ({ cls := "java/util/ArrayList", name := "toArray", desc := "([Ljava/lang/Object;)[Ljava/lang/Object;" } : Jvm.MethodName) jdk_38_method_17_code (2 : Nat) (Option.some (Jvm.ClassFile.FieldType.array (Jvm.ClassFile.FieldType.object "java/lang/Object"))), Jvm.Cond.code ({ cls := "com/example/goalwatch/goalwatch/runtime/IconList", name := "indexOf", desc := "(J)I" } : Jvm.MethodName) prog_50_method_7_code (5 : Nat) (Option.some Jvm.ClassFile.FieldType.int), Jvm.Cond.code ({ cls := "com/example/goalwatch/goalwatch/runtime/IconListIndexOfPinLaw", name := "step", desc := "(Lcom/example/goalwatch/goalwatch/runtime/IconList;Z)V" } : Jvm.MethodName) method_2_code (2 : Nat) (Option.none : Option Jvm.ClassFile.FieldType), Jvm.Cond.code ({ cls := "com/example/goalwatch/goalwatch/runtime/IconList", name := "removeFirst", desc := "()Ljava/lang/Object;" } : Jvm.MethodName) prog_50_method_10_code (2 : Nat) (Option.some (Jvm.ClassFile.FieldType.object "java/lang/Object")), Jvm.Cond.code ({ cls := "com/example/goalwatch/goalwatch/runtime/IconList", name := "get", desc := "(I)Ljava/lang/Object;" } : Jvm.MethodName) prog_50_method_4_code (2 : Nat) (Option.some (Jvm.ClassFile.FieldType.object "java/lang/Object")), Jvm.Cond.code ({ cls := "com/example/goalwatch/goalwatch/runtime/IconList", name := "slot", desc := "(I)I" } : Jvm.MethodName) prog_50_method_12_code (3 : Nat) (Option.some Jvm.ClassFile.FieldType.int), Jvm.Cond.code ({ cls := "java/lang/Math", name := "min", desc := "(II)I" } : Jvm.MethodName) jdk_29_method_69_code (2 : Nat) (Option.some Jvm.ClassFile.FieldType.int), Jvm.Cond.code ({ cls := "com/example/goalwatch/goalwatch/runtime/IconList", name := "prepend", desc := "(Ljava/lang/Object;)V" } : Jvm.MethodName) prog_50_method_9_code (2 : Nat) (Option.none : Option Jvm.ClassFile.FieldType), Jvm.Cond.code ({ cls := "com/example/goalwatch/goalwatch/runtime/IconList", name := "makeRoom", desc := "()V" } : Jvm.MethodName) prog_50_method_13_code (4 : Nat) (Option.none : Option Jvm.ClassFile.FieldType), Jvm.Cond.code ({ cls := "java/lang/Math", name := "min", desc := "(JJ)J" } : Jvm.MethodName) jdk_29_method_70_code (4 : Nat) (Option.some Jvm.ClassFile.FieldType.long), Jvm.Cond.code ({ cls := "com/example/goalwatch/goalwatch/runtime/IconList", name := "set", desc := "(ILjava/lang/Object;)V" } : Jvm.MethodName) prog_50_method_5_code (3 : Nat) (Option.none : Option Jvm.ClassFile.FieldType)]
set_option maxRecDepth 65536 in
theorem codes_eq : words1.filter isCode = codes1 := rfl
theorem w_codes : ∀ c ∈ words1.filter isCode, c.before args0 about1 = true := by
  rw [codes_eq]
  intro c hc
  simp only [codes1, List.mem_cons, List.not_mem_nil, or_false] at hc
  rcases hc with rfl | rfl | rfl | rfl | rfl | rfl | rfl | rfl | rfl | rfl | rfl | rfl | rfl | rfl | rfl | rfl | rfl | rfl | rfl | rfl | rfl | rfl | rfl | rfl
  · exact w_c0
  · exact w_c1
  · exact w_c2
  · exact w_c3
  · exact w_c4
  · exact w_c5
  · exact w_c6
  · exact w_c7
  · exact w_c8
  · exact w_c9
  · exact w_c10
  · exact w_c11
  · exact w_c12
  · exact w_c13
  · exact w_c14
  · exact w_c15
  · exact w_c16
  · exact w_c17
  · exact w_c18
  · exact w_c19
  · exact w_c20
  · exact w_c21
  · exact w_c22
  · exact w_c23
set_option maxRecDepth 65536 in
theorem w_t1 : (words1.take 24).all (fun c => isCode c || c.before args0 about1) = true := by decide +kernel
set_option maxRecDepth 65536 in
theorem w_t2 : ((words1.drop 24).take 24).all (fun c => isCode c || c.before args0 about1) = true := by decide +kernel
set_option maxRecDepth 65536 in
theorem w_t3 : (((words1.drop 24).drop 24).take 24).all (fun c => isCode c || c.before args0 about1) = true := by decide +kernel
set_option maxRecDepth 65536 in
theorem w_t4 : ((((words1.drop 24).drop 24).drop 24).take 24).all (fun c => isCode c || c.before args0 about1) = true := by decide +kernel
set_option maxRecDepth 65536 in
theorem w_t5 : (((((words1.drop 24).drop 24).drop 24).drop 24).take 24).all (fun c => isCode c || c.before args0 about1) = true := by decide +kernel
set_option maxRecDepth 65536 in
theorem w_t6 : ((((((words1.drop 24).drop 24).drop 24).drop 24).drop 24).take 24).all (fun c => isCode c || c.before args0 about1) = true := by decide +kernel
set_option maxRecDepth 65536 in
theorem w_t7 : ((((((words1.drop 24).drop 24).drop 24).drop 24).drop 24).drop 24).all (fun c => isCode c || c.before args0 about1) = true := by decide +kernel
theorem w_tables : (allAtoms (Jvm.Cond.code x code maxLocals ret :: tables_1)).before args0 about1 = true := by
  rw [allAtoms_all]
  show words1.all (fun c => c.before args0 about1) = true
  refine all_split ?_ w_codes
  rw [← List.take_append_drop 24 words1, List.all_append, w_t1, ← List.take_append_drop 24 (words1.drop 24), List.all_append, w_t2, ← List.take_append_drop 24 ((words1.drop 24).drop 24), List.all_append, w_t3, ← List.take_append_drop 24 (((words1.drop 24).drop 24).drop 24), List.all_append, w_t4, ← List.take_append_drop 24 ((((words1.drop 24).drop 24).drop 24).drop 24), List.all_append, w_t5, ← List.take_append_drop 24 (((((words1.drop 24).drop 24).drop 24).drop 24).drop 24), List.all_append, w_t6, w_t7]
  rfl
set_option maxRecDepth 65536 in
theorem w_rest : rest_1_c.before args0 about1 = true := by decide +kernel
set_option maxRecDepth 65536 in
theorem w_case : (Jvm.Cond.and given_1 narrow_1).before args0 about1 = true := by decide +kernel
theorem w_applies : (headSpec (Jvm.Cond.code x code maxLocals ret :: tables_1) room_1).applies x e0.platform about1 = true :=
  (Spec.applies_iff w_frames).mpr ⟨w_running, w_runnable, w_alone, w_named, w_hears, w_ripe, w_room, w_tables⟩
theorem atStart : AtStart classFile x code maxLocals ret World_1 tables_1 room_1 Calls_1 rest_1 Pre_1 launch0 p0 e0 about1 theMethod args0 below0 :=
  ⟨lists_1, trivial, launch0.admits_env _ _ _, launch0.least_env, fairChoices_fair.cas, fairChoices_fair.clock, w_frames, w_args, w_heap, w_applies, trivial, w_rest, w_case⟩
end start1
theorem witness_1 : WitnessClaimed_1 := ⟨start1.p0, start1.e0, start1.about1, start1.theMethod, start1.args0, start1.below0, start1.atStart⟩
end Jvm.Pilot.@@N@@
