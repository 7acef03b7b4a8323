import JvmDerived
import JvmDerived.Pilot.@@N@@Statement
import JvmDerived.Pilot.@@N@@Code
set_option linter.unusedVariables false
set_option linter.unusedSimpArgs false
set_option maxRecDepth 65536
set_option maxHeartbeats 8000000
namespace Jvm.Pilot.@@N@@
open Jvm Jvm.ClassFile Sem Op Lib Jvm.Free Jvm.Stand Jvm.LawKit Jvm.RoadKit Bundle Jvm.Pilot.@@N@@.Jvm.D
abbrev vI (x : Int32) : Slot := .val (.int x)
abbrev vJ (x : Int64) : Slot := .val (.long x)
abbrev vR (x : Addr) : Slot := .val (.ref x)
abbrev vN : Slot := .val .null
/-- the run from S comes to an end at which K holds -/
def Go (p : Program) (e : Env) (below : List Frame) (K : State → Outcome → Prop) (S : State) : Prop := ∃ t o, Steps p.tables e below S t ∧ K t o
theorem Go.via {p : Program} {e : Env} {below : List Frame} {K : State → Outcome → Prop} {A B : State} (h : ∀ t, Steps p.tables e below B t → Steps p.tables e below A t) (g : Go p e below K B) : Go p e below K A := by
  obtain ⟨t, o, h1, h2⟩ := g; exact ⟨t, o, h t h1, h2⟩
/-- a method's end: what it returned, the heap and the places written answer Q -/
def EndK (s : State) (below : List Frame) (Q : Option Value → Heap → List Loc → Prop) (C S : Nat) (t : State) (o : Outcome) : Prop := t.status = .running ∧ Ended t below o ∧ ∃ v L, o = .returned v ∧ Q v t.heap L ∧ FrameEnd s o t L C S
/-- a method's contract -/
def Con (l : Launch) (Z : State) (y : MethodName) (bytes : ByteArray) (maxL : Nat) (ret : Option FieldType) (rm : Room) (as : Array Value) (h : Heap) (Q : Option Value → Heap → List Loc → Prop) : Prop :=
  ∀ ws, MetFree l y (head1 (Jvm.Cond.code y bytes maxL ret :: ws) rm) (fun a U => a = as ∧ Z.Warmed39 U.vm ∧ U.heap = h) (fun _ _ _ _ _ => True) (fun _ U o U' => ∃ v L, o = .returned v ∧ Q v U'.heap L ∧ FrameEnd U o U' L rm.cells rm.slots)
theorem Con.of {l : Launch} {Z : State} {y : MethodName} {bytes : ByteArray} {maxL : Nat} {ret : Option FieldType} {rm : Room} {as : Array Value} {h : Heap} {Q : Option Value → Heap → List Loc → Prop} {Ls : Array Slot} (hp : plainFor y = true) (hfr : ∀ m, entryFrame m as maxL = mkF m 0 Ls [])
    (body : ∀ (p : Program) (e : Env) (s : State) (m : MethodId) (below : List Frame) (meth : Method) (c : Code) (T : State), Stand p l e rm s m as below meth c T [] 0 0 → p.tables.exec = Jvm.exec ∧ c.code = bytes → c.maxLocals = maxL → Z.Warmed39 s.vm → s.vm.findClass y.cls = some m.cls → meth.name = y.name → meth.sig.returnType = ret → meth.locks = false → T.heap = h → Go p e below (EndK s below Q rm.cells rm.slots) (T.setTop (mkF m 0 Ls []))) :
    Con l Z y bytes maxL ret rm as h Q := by
  intro ws
  refine MetFree.of_bodySF hp hisR ?_
  intro p e s m args below meth c s₁ Bd hml hP hK
  obtain ⟨rfl, hZ, hh⟩ := hP
  have e0 : s₁.heap = h := by rw [← hh, Bd.state]; rfl
  obtain ⟨t, o, h1, h2⟩ := body p e s m below meth c s₁ (Stand.of_body Bd) ⟨Bd.exec, Bd.bytes⟩ hml hZ (findClass_of_methodNamed Bd.named) (name_of_methodNamed Bd.named Bd.method).1 Bd.returns Bd.notSynchronized e0
  exact ⟨t, o, castTop (hfr m) h1, h2⟩
theorem selPriv {Z : State} {a0 : Array Value} {y : MethodName} {kk : Nat} (wp : (Cond.privateMethod y).before a0 Z = true) (wi : (Cond.instanceMethod y).before a0 Z = true) (wk : (Cond.instantiable y.cls kk).before a0 Z = true) (hy : y.cls ≠ "java/lang/invoke/MethodHandle" ∧ y.cls ≠ "java/lang/invoke/VarHandle") : (Cond.selects y.cls y y).before a0 Z = true := by
  obtain ⟨mk, methM, hnamed, hmethM, hst, hab⟩ := Cond.instanceMethod_spec wi
  have hp := Cond.privateMethod_at wp mk methM hnamed hmethM
  have hf := State.methodFound?_of_named hnamed hy
  have hc := findClass_of_methodNamed hnamed
  obtain ⟨c, k, h1, h2, h3, h4, -⟩ := Cond.instantiable_spec wk
  cases h1.symm.trans hc
  have h5 : k.isInterface = false := (Bool.or_eq_false_iff.mp h4).1
  simp [Cond.before, Cond.holds, Cond.value, hc, hf, hnamed, selectMethod, hmethM, hp, h2, h5]
/-- an array of that length -/
def Arl (Z : State) (h : Heap) (a : Addr) (n : Int32) : Prop := ∃ k ty vs d, Arv Z h a k ty n vs d
theorem Arv.arl {Z : State} {h : Heap} {a : Addr} {k : ClassId} {ty : FieldType} {n : Int32} {vs : List Value} {d : Value} (A : Arv Z h a k ty n vs d) : Arl Z h a n := ⟨k, ty, vs, d, A⟩
theorem Arl.lt {Z : State} {h : Heap} {a : Addr} {n : Int32} (A : Arl Z h a n) : a < h.size := by obtain ⟨k, ty, vs, d, A⟩ := A; exact A.lt
theorem Arl.ext {Z : State} {h h' : Heap} {a : Addr} {n : Int32} (A : Arl Z h a n) (E : Ext h h') : Arl Z h' a n := by obtain ⟨k, ty, vs, d, A⟩ := A; exact ⟨k, ty, vs, d, A.ext E⟩
theorem Arl.other {Z : State} {h h' : Heap} {a b : Addr} {n : Int32} {sl : Nat} {v : Value} (A : Arl Z h b n) (W : Wr h h' a sl v) (q : b ≠ a) : Arl Z h' b n := by obtain ⟨k, ty, vs, d, A⟩ := A; exact ⟨k, ty, vs, d, A.other W q⟩
theorem Arl.keep {Z : State} {h h' : Heap} {a : Addr} {n : Int32} {ws : List Addr} (A : Arl Z h a n) (K : Keep h h' ws) (q : a ∉ ws) : Arl Z h' a n := by obtain ⟨k, ty, vs, d, A⟩ := A; exact ⟨k, ty, vs, d, A.keep K q⟩
section Steps
variable {p : Program} {l : Launch} {e : Env} {R : Room} {s : State} {m : MethodId} {args : Array Value} {below : List Frame} {meth : Method} {c : Code} {T : State} {locs : List Loc} {cells slots : Nat} {K : State → Outcome → Prop} {Z : State} {a0 : Array Value} {h : Heap} {bs : ByteArray} {Ls Ls' : Array Slot} {st : List Value} {pc pc' : Nat}
theorem gIloadN (X : Stand p l e R s m args below meth c T locs cells slots) (H : p.tables.exec = Jvm.exec ∧ c.code = bs) {k : Fin 4} {v : Int32} (hd : decode bs pc = .ok (.iload_n k, 1)) (hl : Ls[k.val]? = some (.val (.int v))) (pc' : Nat) (hp : pc + 1 = pc') (g : Go p e below K (T.setTop (mkF m pc' Ls (.int v :: st)))) : Go p e below K (T.setTop (mkF m pc Ls (st))) := by
  subst hp
  exact Go.via (fun t k => XS.iloadN (g := mkF m pc Ls (st)) X.here H.1 rfl (hb H.2 hd) hl k) g
theorem gAloadN (X : Stand p l e R s m args below meth c T locs cells slots) (H : p.tables.exec = Jvm.exec ∧ c.code = bs) {k : Fin 4} {v : Value} (hd : decode bs pc = .ok (.aload_n k, 1)) (hl : Ls[k.val]? = some (.val v)) (hv : v.isRef = true) (pc' : Nat) (hp : pc + 1 = pc') (g : Go p e below K (T.setTop (mkF m pc' Ls (v :: st)))) : Go p e below K (T.setTop (mkF m pc Ls (st))) := by
  subst hp
  exact Go.via (fun t k => XS.aloadN (g := mkF m pc Ls (st)) X.here H.1 rfl (hb H.2 hd) hl hv k) g
theorem gIstoreN (X : Stand p l e R s m args below meth c T locs cells slots) (H : p.tables.exec = Jvm.exec ∧ c.code = bs) {k : Fin 4} {v : Int32} (hd : decode bs pc = .ok (.istore_n k, 1)) (hl : storeLocals Ls k.val (.int v) = some Ls') (pc' : Nat) (hp : pc + 1 = pc') (g : Go p e below K (T.setTop (mkF m pc' Ls' (st)))) : Go p e below K (T.setTop (mkF m pc Ls (.int v :: st))) := by
  subst hp
  exact Go.via (fun t k => XS.istoreN (g := mkF m pc Ls (.int v :: st)) X.here H.1 rfl (hb H.2 hd) rfl hl k) g
theorem gAstoreN (X : Stand p l e R s m args below meth c T locs cells slots) (H : p.tables.exec = Jvm.exec ∧ c.code = bs) {k : Fin 4} {v : Value} (hd : decode bs pc = .ok (.astore_n k, 1)) (hv : v.isRef = true) (hl : storeLocals Ls k.val v = some Ls') (pc' : Nat) (hp : pc + 1 = pc') (g : Go p e below K (T.setTop (mkF m pc' Ls' (st)))) : Go p e below K (T.setTop (mkF m pc Ls (v :: st))) := by
  subst hp
  exact Go.via (fun t k => XS.astoreN (g := mkF m pc Ls (v :: st)) X.here H.1 rfl (hb H.2 hd) rfl hv hl k) g
theorem gIload (X : Stand p l e R s m args below meth c T locs cells slots) (H : p.tables.exec = Jvm.exec ∧ c.code = bs) {k : Nat} {v : Int32} (hd : decode bs pc = .ok (.iload k, 2)) (hl : Ls[k]? = some (.val (.int v))) (pc' : Nat) (hp : pc + 2 = pc') (g : Go p e below K (T.setTop (mkF m pc' Ls (.int v :: st)))) : Go p e below K (T.setTop (mkF m pc Ls (st))) := by
  subst hp
  exact Go.via (fun t k => XS.iload (g := mkF m pc Ls (st)) X.here H.1 rfl (hb H.2 hd) hl k) g
theorem gAload (X : Stand p l e R s m args below meth c T locs cells slots) (H : p.tables.exec = Jvm.exec ∧ c.code = bs) {k : Nat} {v : Value} (hd : decode bs pc = .ok (.aload k, 2)) (hl : Ls[k]? = some (.val v)) (hv : v.isRef = true) (pc' : Nat) (hp : pc + 2 = pc') (g : Go p e below K (T.setTop (mkF m pc' Ls (v :: st)))) : Go p e below K (T.setTop (mkF m pc Ls (st))) := by
  subst hp
  exact Go.via (fun t k => XS.aload (g := mkF m pc Ls (st)) X.here H.1 rfl (hb H.2 hd) hl hv k) g
theorem gIstore (X : Stand p l e R s m args below meth c T locs cells slots) (H : p.tables.exec = Jvm.exec ∧ c.code = bs) {k : Nat} {v : Int32} (hd : decode bs pc = .ok (.istore k, 2)) (hl : storeLocals Ls k (.int v) = some Ls') (pc' : Nat) (hp : pc + 2 = pc') (g : Go p e below K (T.setTop (mkF m pc' Ls' (st)))) : Go p e below K (T.setTop (mkF m pc Ls (.int v :: st))) := by
  subst hp
  exact Go.via (fun t k => XS.istore (g := mkF m pc Ls (.int v :: st)) X.here H.1 rfl (hb H.2 hd) rfl hl k) g
theorem gAstore (X : Stand p l e R s m args below meth c T locs cells slots) (H : p.tables.exec = Jvm.exec ∧ c.code = bs) {k : Nat} {v : Value} (hd : decode bs pc = .ok (.astore k, 2)) (hv : v.isRef = true) (hl : storeLocals Ls k v = some Ls') (pc' : Nat) (hp : pc + 2 = pc') (g : Go p e below K (T.setTop (mkF m pc' Ls' (st)))) : Go p e below K (T.setTop (mkF m pc Ls (v :: st))) := by
  subst hp
  exact Go.via (fun t k => XS.astore (g := mkF m pc Ls (v :: st)) X.here H.1 rfl (hb H.2 hd) rfl hv hl k) g
theorem gIconst (X : Stand p l e R s m args below meth c T locs cells slots) (H : p.tables.exec = Jvm.exec ∧ c.code = bs) {i : Int} {z : Int32} (hd : decode bs pc = .ok (.iconst i, 1)) (hz : Int32.ofInt i = z) (pc' : Nat) (hp : pc + 1 = pc') (g : Go p e below K (T.setTop (mkF m pc' Ls (.int z :: st)))) : Go p e below K (T.setTop (mkF m pc Ls (st))) := by
  subst hp hz
  exact Go.via (fun t k => XS.iconst (g := mkF m pc Ls (st)) X.here H.1 rfl (hb H.2 hd) k) g
theorem gBipush (X : Stand p l e R s m args below meth c T locs cells slots) (H : p.tables.exec = Jvm.exec ∧ c.code = bs) {i : Int} {z : Int32} (hd : decode bs pc = .ok (.bipush i, 2)) (hz : (Int8.ofInt i).toInt32 = z) (pc' : Nat) (hp : pc + 2 = pc') (g : Go p e below K (T.setTop (mkF m pc' Ls (.int z :: st)))) : Go p e below K (T.setTop (mkF m pc Ls (st))) := by
  subst hp hz
  exact Go.via (fun t k => XS.bipush (g := mkF m pc Ls (st)) X.here H.1 rfl (hb H.2 hd) k) g
theorem g_iadd (X : Stand p l e R s m args below meth c T locs cells slots) (H : p.tables.exec = Jvm.exec ∧ c.code = bs) {x y z : Int32} (hd : decode bs pc = .ok (.iadd, 1)) (hz : x + y = z) (pc' : Nat) (hp : pc + 1 = pc') (g : Go p e below K (T.setTop (mkF m pc' Ls (.int z :: st)))) : Go p e below K (T.setTop (mkF m pc Ls (.int y :: .int x :: st))) := by
  subst hp hz
  exact Go.via (fun t k => XS.iadd (g := mkF m pc Ls (.int y :: .int x :: st)) X.here H.1 rfl (hb H.2 hd) rfl k) g
theorem g_imul (X : Stand p l e R s m args below meth c T locs cells slots) (H : p.tables.exec = Jvm.exec ∧ c.code = bs) {x y z : Int32} (hd : decode bs pc = .ok (.imul, 1)) (hz : x * y = z) (pc' : Nat) (hp : pc + 1 = pc') (g : Go p e below K (T.setTop (mkF m pc' Ls (.int z :: st)))) : Go p e below K (T.setTop (mkF m pc Ls (.int y :: .int x :: st))) := by
  subst hp hz
  exact Go.via (fun t k => XS.imul (g := mkF m pc Ls (.int y :: .int x :: st)) X.here H.1 rfl (hb H.2 hd) rfl k) g
theorem g_iand (X : Stand p l e R s m args below meth c T locs cells slots) (H : p.tables.exec = Jvm.exec ∧ c.code = bs) {x y z : Int32} (hd : decode bs pc = .ok (.iand, 1)) (hz : x &&& y = z) (pc' : Nat) (hp : pc + 1 = pc') (g : Go p e below K (T.setTop (mkF m pc' Ls (.int z :: st)))) : Go p e below K (T.setTop (mkF m pc Ls (.int y :: .int x :: st))) := by
  subst hp hz
  exact Go.via (fun t k => XS.iand (g := mkF m pc Ls (.int y :: .int x :: st)) X.here H.1 rfl (hb H.2 hd) rfl k) g
theorem g_iushr (X : Stand p l e R s m args below meth c T locs cells slots) (H : p.tables.exec = Jvm.exec ∧ c.code = bs) {x y z : Int32} (hd : decode bs pc = .ok (.iushr, 1)) (hz : (x.toUInt32 >>> (y &&& 31).toUInt32).toInt32 = z) (pc' : Nat) (hp : pc + 1 = pc') (g : Go p e below K (T.setTop (mkF m pc' Ls (.int z :: st)))) : Go p e below K (T.setTop (mkF m pc Ls (.int y :: .int x :: st))) := by
  subst hp hz
  exact Go.via (fun t k => XS.iushr (g := mkF m pc Ls (.int y :: .int x :: st)) X.here H.1 rfl (hb H.2 hd) rfl k) g
theorem g_irem (X : Stand p l e R s m args below meth c T locs cells slots) (H : p.tables.exec = Jvm.exec ∧ c.code = bs) {x y z : Int32} (hd : decode bs pc = .ok (.irem, 1)) (hy : y ≠ 0) (hz : x % y = z) (pc' : Nat) (hp : pc + 1 = pc') (g : Go p e below K (T.setTop (mkF m pc' Ls (.int z :: st)))) : Go p e below K (T.setTop (mkF m pc Ls (.int y :: .int x :: st))) := by
  subst hp hz
  exact Go.via (fun t k => iremM (g := mkF m pc Ls (.int y :: .int x :: st)) X H.1 rfl (hb H.2 hd) rfl hy k) g
theorem gDup (X : Stand p l e R s m args below meth c T locs cells slots) (H : p.tables.exec = Jvm.exec ∧ c.code = bs) {v : Value} (hd : decode bs pc = .ok (.dup, 1)) (hc : v.category = 1) (pc' : Nat) (hp : pc + 1 = pc') (g : Go p e below K (T.setTop (mkF m pc' Ls (v :: v :: st)))) : Go p e below K (T.setTop (mkF m pc Ls (v :: st))) := by
  subst hp
  exact Go.via (fun t k => XS.dup (g := mkF m pc Ls (v :: st)) X.here H.1 rfl (hb H.2 hd) rfl hc k) g
theorem gIinc (X : Stand p l e R s m args below meth c T locs cells slots) (H : p.tables.exec = Jvm.exec ∧ c.code = bs) {k : Nat} {i : Int} {v : Int32} (hd : decode bs pc = .ok (.iinc k i, 3)) (hl : Ls[k]? = some (.val (.int v))) (hl' : storeLocals Ls k (.int (v + Int32.ofInt i)) = some Ls') (pc' : Nat) (hp : pc + 3 = pc') (g : Go p e below K (T.setTop (mkF m pc' Ls' (st)))) : Go p e below K (T.setTop (mkF m pc Ls (st))) := by
  subst hp
  exact Go.via (fun t k => XS.iinc (g := mkF m pc Ls (st)) X.here H.1 rfl (hb H.2 hd) hl hl' k) g
theorem gGoto (X : Stand p l e R s m args below meth c T locs cells slots) (H : p.tables.exec = Jvm.exec ∧ c.code = bs)  {o : Int} (hd : decode bs pc = .ok (.goto o, 3)) (ho : 0 ≤ (pc : Int) + o) (pc' : Nat) (hp : ((pc : Int) + o).toNat = pc') (g : Go p e below K (T.setTop (mkF m pc' Ls (st)))) : Go p e below K (T.setTop (mkF m pc Ls (st))) :=
  Go.via (fun t k => XS.goto (g := mkF m pc Ls (st)) X.here H.1 rfl rfl (hb H.2 hd) ho hp k) g
theorem gIfY (X : Stand p l e R s m args below meth c T locs cells slots) (H : p.tables.exec = Jvm.exec ∧ c.code = bs) {cd : ClassFile.Cond} {x : Int32} {o : Int} (hd : decode bs pc = .ok (.ifCond cd o, 3)) (hc : ifCond.holds cd x = true) (ho : 0 ≤ (pc : Int) + o) (pc' : Nat) (hp : ((pc : Int) + o).toNat = pc') (g : Go p e below K (T.setTop (mkF m pc' Ls (st)))) : Go p e below K (T.setTop (mkF m pc Ls (.int x :: st))) :=
  Go.via (fun t k => XS.ifYes (g := mkF m pc Ls (.int x :: st)) X.here H.1 rfl rfl (hb H.2 hd) rfl hc ho hp k) g
theorem gCmpY (X : Stand p l e R s m args below meth c T locs cells slots) (H : p.tables.exec = Jvm.exec ∧ c.code = bs) {cd : ClassFile.Cond} {x y : Int32} {o : Int} (hd : decode bs pc = .ok (.if_icmp cd o, 3)) (hc : if_icmp.holds cd x y = true) (ho : 0 ≤ (pc : Int) + o) (pc' : Nat) (hp : ((pc : Int) + o).toNat = pc') (g : Go p e below K (T.setTop (mkF m pc' Ls (st)))) : Go p e below K (T.setTop (mkF m pc Ls (.int y :: .int x :: st))) :=
  Go.via (fun t k => XS.icmpYes (g := mkF m pc Ls (.int y :: .int x :: st)) X.here H.1 rfl rfl (hb H.2 hd) rfl hc ho hp k) g
theorem gIfN (X : Stand p l e R s m args below meth c T locs cells slots) (H : p.tables.exec = Jvm.exec ∧ c.code = bs) {o : Int} {cd : ClassFile.Cond} {x : Int32} (hd : decode bs pc = .ok (.ifCond cd o, 3)) (hc : ifCond.holds cd x = false) (pc' : Nat) (hp : pc + 3 = pc') (g : Go p e below K (T.setTop (mkF m pc' Ls (st)))) : Go p e below K (T.setTop (mkF m pc Ls (.int x :: st))) := by
  subst hp
  exact Go.via (fun t k => XS.ifNo (g := mkF m pc Ls (.int x :: st)) X.here H.1 rfl (hb H.2 hd) rfl hc k) g
theorem gCmpN (X : Stand p l e R s m args below meth c T locs cells slots) (H : p.tables.exec = Jvm.exec ∧ c.code = bs) {o : Int} {cd : ClassFile.Cond} {x y : Int32} (hd : decode bs pc = .ok (.if_icmp cd o, 3)) (hc : if_icmp.holds cd x y = false) (pc' : Nat) (hp : pc + 3 = pc') (g : Go p e below K (T.setTop (mkF m pc' Ls (st)))) : Go p e below K (T.setTop (mkF m pc Ls (.int y :: .int x :: st))) := by
  subst hp
  exact Go.via (fun t k => XS.icmpNo (g := mkF m pc Ls (.int y :: .int x :: st)) X.here H.1 rfl (hb H.2 hd) rfl hc k) g
theorem gGetS (X : Stand p l e R s m args below meth c T locs cells slots) (H : p.tables.exec = Jvm.exec ∧ c.code = bs) (hZ : Z.Warmed39 s.vm) {own : String} {index : Nat} (hown : s.vm.findClass own = some m.cls) {O n d : String} {v : Value} (w : (Cond.fieldLink own index O n d).before a0 Z = true) (eT : T.heap = h) (F : Sta Z h O n d v) (hd : decode bs pc = .ok (.getstatic index, 3)) (pc' : Nat) (hp : pc + 3 = pc') (g : ∀ T', Stand p l e R s m args below meth c T' locs cells slots → T'.heap = h → Go p e below K (T'.setTop (mkF m pc' Ls (v :: st)))) : Go p e below K (T.setTop (mkF m pc Ls (st))) := by
  subst hp
  obtain ⟨T', X', e', k⟩ := getS2 X H.1 hZ hown (host := "") (Or.inl w) Via.refl eT F (g := mkF m pc Ls st) rfl (hb H.2 hd)
  exact Go.via k (g T' X' e')
theorem gGetF (X : Stand p l e R s m args below meth c T locs cells slots) (H : p.tables.exec = Jvm.exec ∧ c.code = bs) (hZ : Z.Warmed39 s.vm) {own : String} {index : Nat} (hown : s.vm.findClass own = some m.cls) {R0 O n d : String} {a : Addr} {v : Value} (w : (Cond.fieldLink own index R0 n d).before a0 Z = true) (via : Via Z R0 O n d) (eT : T.heap = h) (F : Fld Z h a O n d v) (hd : decode bs pc = .ok (.getfield index, 3)) (pc' : Nat) (hp : pc + 3 = pc') (g : ∀ T', Stand p l e R s m args below meth c T' locs cells slots → T'.heap = h → Go p e below K (T'.setTop (mkF m pc' Ls (v :: st)))) : Go p e below K (T.setTop (mkF m pc Ls (.ref a :: st))) := by
  subst hp
  obtain ⟨T', X', e', k⟩ := getF X H.1 hZ hown (host := "") (Or.inl w) via eT F (g := mkF m pc Ls (.ref a :: st)) rfl rfl (hb H.2 hd)
  exact Go.via k (g T' X' e')
theorem gStatic (X : Stand p l e R s m args below meth c T locs cells slots) (H : p.tables.exec = Jvm.exec ∧ c.code = bs) (hZ : Z.Warmed39 s.vm) {own : String} {index : Nat} (hown : s.vm.findClass own = some m.cls) {y : MethodName} {bytes : ByteArray} {maxL : Nat} {ret : Option FieldType} {rm : Room} {as : Array Value} {Q : Option Value → Heap → List Loc → Prop} {W maxO : Nat} {argsL rest : List Value} {ps : List FieldType} {r : Option FieldType} (wl : (Cond.methodLink own index y).before a0 Z = true) (wst : (Cond.static y).before a0 Z = true) (hy : y.cls ≠ "java/lang/invoke/MethodHandle" ∧ y.cls ≠ "java/lang/invoke/VarHandle") (wc : (Cond.code y bytes maxL ret).before a0 Z = true) (wz : (Cond.initialized (y).cls).before a0 Z = true) (M : Con l Z y bytes maxL ret rm as h Q) (eT : T.heap = h) (hml : c.maxLocals = maxO) (hs : Ls.size = maxO) (hpd : parseMethodDescriptor y.desc = some ⟨ps, r⟩) (hlen : argsL.length = ps.length) (hstack : st = argsL.reverse ++ rest) (has : argsL.toArray = as) (hd : decode bs pc = .ok (.invokestatic index, 3)) (pc' : Nat) (hp : pc + 3 = pc')
    (g : ∀ v T' L, Q v T'.heap L → Stand p l e R s m args below meth c T' (locs ++ L) (cells + rm.cells) (slots + rm.slots) → Go p e below K (T'.setTop (mkF m pc' Ls (v.toList ++ rest)))) (hW : (rest.map fun v => v.category).sum ≤ W := by exact Nat.le_of_eq rfl) (hf : rm.frames + 1 ≤ R.frames := by decide) (hl : W + (maxL + 11) + rm.locals ≤ R.locals := by decide) (hc : cells + rm.cells ≤ R.cells := by decide) (hsl : slots + rm.slots ≤ R.slots := by decide) : Go p e below K (T.setTop (mkF m pc Ls (st))) := by
  subst hp has
  obtain ⟨v, _, ⟨T', L', k', n'⟩, -, X', ⟨L, hQ, l', y', z'⟩, k⟩ := Jvm.LawKit.callS X H.1 (y := y) hown (mvT hZ wl) (mvT hZ wst) (mvT hZ wz) (mvT hZ wc) hy (backOf (W := W) (M []) hZ wc wz hf hl) (g := mkF m pc Ls st) rfl (hs.trans hml.symm) (argsL := argsL) (rest := rest) (lenOf hpd hlen) hstack (by show 2 * 0 + _ ≤ _; omega) (hb H.2 hd) (fun _ _ => ⟨rfl, eT, hc, hsl⟩)
  dsimp only [Pt.U, Pt.locs, Pt.cells, Pt.slots] at X' l' y' z' k hQ
  subst l' y' z'
  exact Go.via k (g v T' L hQ X')
theorem gSpecial (X : Stand p l e R s m args below meth c T locs cells slots) (H : p.tables.exec = Jvm.exec ∧ c.code = bs) (hZ : Z.Warmed39 s.vm) {own : String} {index : Nat} (hown : s.vm.findClass own = some m.cls) {y : MethodName} {bytes : ByteArray} {maxL : Nat} {ret : Option FieldType} {rm : Room} {as : Array Value} {Q : Option Value → Heap → List Loc → Prop} {W maxO : Nat} {argsL rest : List Value} {ps : List FieldType} {r : Option FieldType} (hin : y.name = "<init>") (hrn : ret = none) (wl : (Cond.methodLink own index y).before a0 Z = true) (wi : (Cond.instanceMethod y).before a0 Z = true) (hy : y.cls ≠ "java/lang/invoke/MethodHandle" ∧ y.cls ≠ "java/lang/invoke/VarHandle") {b : Addr} (wc : (Cond.code y bytes maxL ret).before a0 Z = true) (wz : (Cond.initialized (y).cls).before a0 Z = true) (M : Con l Z y bytes maxL ret rm as h Q) (eT : T.heap = h) (hml : c.maxLocals = maxO) (hs : Ls.size = maxO) (hpd : parseMethodDescriptor y.desc = some ⟨ps, r⟩) (hlen : argsL.length = ps.length) (hstack : st = argsL.reverse ++ .ref b :: rest) (has : (.ref b :: argsL).toArray = as) (hd : decode bs pc = .ok (.invokespecial index, 3)) (pc' : Nat) (hp : pc + 3 = pc')
    (g : ∀ v T' L, Q v T'.heap L → Stand p l e R s m args below meth c T' (locs ++ L) (cells + rm.cells) (slots + rm.slots) → Go p e below K (T'.setTop (mkF m pc' Ls (v.toList ++ rest)))) (hW : (rest.map fun v => v.category).sum ≤ W := by exact Nat.le_of_eq rfl) (hf : rm.frames + 1 ≤ R.frames := by decide) (hl : W + (maxL + 11) + rm.locals ≤ R.locals := by decide) (hc : cells + rm.cells ≤ R.cells := by decide) (hsl : slots + rm.slots ≤ R.slots := by decide) : Go p e below K (T.setTop (mkF m pc Ls (st))) := by
  subst hp has
  subst hrn
  obtain ⟨v, _, ⟨T', L', k', n'⟩, -, X', ⟨L, hQ, l', y', z'⟩, k⟩ := X.specialBack H.1 (y := y) hin hown (mvT hZ wl) (mvT hZ wi) (mvT hZ wc) hy (backOf (W := W) (M []) hZ wc wz hf hl) (g := mkF m pc Ls st) rfl (hs.trans hml.symm) (Steps.refl _) (a := b) (argsL := argsL) (rest := rest) (lenOf hpd hlen) hstack (by show 2 * 0 + _ ≤ _; omega) (hb H.2 hd) (fun _ _ => ⟨rfl, eT, hc, hsl⟩)
  dsimp only [Pt.U, Pt.locs, Pt.cells, Pt.slots] at X' l' y' z' k hQ
  subst l' y' z'
  exact Go.via (fun t q => k.trans q) (g v T' L hQ X')
theorem gRetN (X : Stand p l e R s m args below meth c T locs cells slots) (H : p.tables.exec = Jvm.exec ∧ c.code = bs) (hlk : meth.locks = false) {Q : Option Value → Heap → List Loc → Prop} {C S : Nat} {t : FieldType} {z : Int32} (hret : meth.sig.returnType = some t) (ht : t = .boolean ∨ t = .byte ∨ t = .char ∨ t = .short) (hd : decode bs pc = .ok (.ireturn, 1)) (eT : T.heap = h) (q : Q (some (.int (nar t z))) h locs) (hC : cells ≤ C := by decide) (hS : slots ≤ S := by decide) : Go p e below (EndK s below Q C S) (T.setTop (mkF m pc Ls (.int z :: st))) := by
  subst eT
  obtain ⟨fs, hr, hrun, hended, hW, hsame⟩ := X.leave (v := (some (.int (nar t z)))) (fun h => by rw [hret] at h; cases h) hlk
  exact ⟨_, _, retN X H.1 hret ht (hb H.2 hd) hr, hrun, hended, _, _, rfl, q, ⟨_, rfl⟩, hW, hsame.mono hC hS⟩
theorem gRetI (X : Stand p l e R s m args below meth c T locs cells slots) (H : p.tables.exec = Jvm.exec ∧ c.code = bs) (hlk : meth.locks = false) {Q : Option Value → Heap → List Loc → Prop} {C S : Nat} {z : Int32} (hret : meth.sig.returnType = some .int) (hd : decode bs pc = .ok (.ireturn, 1)) (eT : T.heap = h) (q : Q (some (.int z)) h locs) (hC : cells ≤ C := by decide) (hS : slots ≤ S := by decide) : Go p e below (EndK s below Q C S) (T.setTop (mkF m pc Ls (.int z :: st))) := by
  subst eT
  obtain ⟨fs, hr, hrun, hended, hW, hsame⟩ := X.leave (v := (some (.int z))) (fun h => by rw [hret] at h; cases h) hlk
  exact ⟨_, _, retOut X H.1 hret rfl (Or.inl ⟨rfl, Or.inl rfl, z, rfl⟩) (hb H.2 hd) hr, hrun, hended, _, _, rfl, q, ⟨_, rfl⟩, hW, hsame.mono hC hS⟩
theorem gRetA (X : Stand p l e R s m args below meth c T locs cells slots) (H : p.tables.exec = Jvm.exec ∧ c.code = bs) (hlk : meth.locks = false) {Q : Option Value → Heap → List Loc → Prop} {C S : Nat} {w : Value} {t : FieldType} (hret : meth.sig.returnType = some t) (hn : narrow t w = w) (ht : t.isReference = true) (hv : w.isRef = true) (hd : decode bs pc = .ok (.areturn, 1)) (eT : T.heap = h) (q : Q (some w) h locs) (hC : cells ≤ C := by decide) (hS : slots ≤ S := by decide) : Go p e below (EndK s below Q C S) (T.setTop (mkF m pc Ls (w :: st))) := by
  subst eT
  obtain ⟨fs, hr, hrun, hended, hW, hsame⟩ := X.leave (v := (some w)) (fun h => by rw [hret] at h; cases h) hlk
  exact ⟨_, _, retOut X H.1 hret hn (Or.inr (Or.inr (Or.inr (Or.inr ⟨rfl, ht, hv⟩)))) (hb H.2 hd) hr, hrun, hended, _, _, rfl, q, ⟨_, rfl⟩, hW, hsame.mono hC hS⟩
theorem gRetV (X : Stand p l e R s m args below meth c T locs cells slots) (H : p.tables.exec = Jvm.exec ∧ c.code = bs) (hlk : meth.locks = false) {Q : Option Value → Heap → List Loc → Prop} {C S : Nat}  (hret : meth.sig.returnType = none) (hd : decode bs pc = .ok (.return_, 1)) (eT : T.heap = h) (q : Q none h locs) (hC : cells ≤ C := by decide) (hS : slots ≤ S := by decide) : Go p e below (EndK s below Q C S) (T.setTop (mkF m pc Ls ([]))) := by
  subst eT
  obtain ⟨fs, hr, hrun, hended, hW, hsame⟩ := X.leave (v := none) (fun _ => rfl) hlk
  exact ⟨_, _, X.returnOut H.1 hret (hb H.2 hd) hr, hrun, hended, _, _, rfl, q, ⟨_, rfl⟩, hW, hsame.mono hC hS⟩
theorem gNew (X : Stand p l e R s m args below meth c T locs cells slots) (H : p.tables.exec = Jvm.exec ∧ c.code = bs) (hZ : Z.Warmed39 s.vm) {own : String} {index : Nat} (hown : s.vm.findClass own = some m.cls) {C : String} {n : Nat} (w : (Cond.classLink own index C).before a0 Z = true) (wi : (Cond.instantiable C n).before a0 Z = true) (wz : (Cond.initialized C).before a0 Z = true) (eT : T.heap = h) (hc : cells + 1 ≤ R.cells) (hsl : slots + n ≤ R.slots) (hd : decode bs pc = .ok (.new index, 3)) (pc' : Nat) (hp : pc + 3 = pc')
    (g : ∀ T' h' b, Stand p l e R s m args below meth c T' locs (cells + 1) (slots + n) → T'.heap = h' → h.size = b → Ext h h' → Exa Z h' b C → (∀ {O nm d : String} {ty : FieldType}, Laid Z a0 C O nm d → parseFieldDescriptor d = some ty → Fld Z h' b O nm d (defaultValue ty)) → Go p e below K (T'.setTop (mkF m pc' Ls (.ref b :: st)))) : Go p e below K (T.setTop (mkF m pc Ls (st))) := by
  subst hp
  obtain ⟨T', h', X', e', E', A', D', -, k⟩ := newO X H.1 hZ hown w wi wz eT (g := mkF m pc Ls st) rfl (hb H.2 hd) hc hsl
  exact Go.via k (g T' h' _ X' e' rfl E' A' D')
theorem gInitO (X : Stand p l e R s m args below meth c T locs cells slots) (H : p.tables.exec = Jvm.exec ∧ c.code = bs) (hZ : Z.Warmed39 s.vm) {own : String} {index : Nat} (hown : s.vm.findClass own = some m.cls) (w1 : (Cond.methodLink own index Lib.objectInit).before a0 Z = true) (w2 : (Cond.instanceMethod Lib.objectInit).before a0 Z = true) (w3 : (Cond.code Lib.objectInit ⟨#[0xb1]⟩ 1 none).before a0 Z = true) (eT : T.heap = h) {a : Addr} {V maxO : Nat} (hml : c.maxLocals = maxO) (hs : Ls.size = maxO) (hW : (st.map fun v => v.category).sum ≤ V) (hf : 1 ≤ R.frames) (hl : V + 12 ≤ R.locals) (hd : decode bs pc = .ok (.invokespecial index, 3)) (pc' : Nat) (hp : pc + 3 = pc')
    (g : ∀ T', Stand p l e R s m args below meth c T' locs cells slots → T'.heap = h → Go p e below K (T'.setTop (mkF m pc' Ls st))) : Go p e below K (T.setTop (mkF m pc Ls (.ref a :: st))) := by
  subst hp
  obtain ⟨T', X', e', k⟩ := initO X H.1 hZ hown w1 w2 w3 eT (g := mkF m pc Ls (.ref a :: st)) rfl (hs.trans hml.symm) rfl (hb H.2 hd) hf (W := V) (by show 2 * 0 + _ ≤ _; omega) hl
  exact Go.via k (g T' X' e')
theorem gPutF (X : Stand p l e R s m args below meth c T locs cells slots) (H : p.tables.exec = Jvm.exec ∧ c.code = bs) (hZ : Z.Warmed39 s.vm) {own : String} {index : Nat} (hown : s.vm.findClass own = some m.cls) {R0 O n d C : String} {kk : Nat} {ty : FieldType} (w : (Cond.fieldLink own index R0 n d).before a0 Z = true) (via : Via Z R0 O n d) (eT : T.heap = h) {a : Addr} {v v' old : Value} (F : Fld Z h a O n d old) (E : Exa Z h a C) (L : (Cond.lays C O n d).before a0 Z = true ∨ ((Cond.laysFinal C O n d).before a0 Z = true ∧ own = O ∧ meth.name = "<init>")) (wi : (Cond.instantiable C kk).before a0 Z = true) (hty : parseFieldDescriptor d = some ty) (hn : narrow ty v = v') (hf : fits ty v' = true) (hd : decode bs pc = .ok (.putfield index, 3)) (pc' : Nat) (hp : pc + 3 = pc')
    (g : ∀ T' h', Stand p l e R s m args below meth c T' (locs ++ [⟨a, Jvm.RoadKit.slotOf Z O n d⟩]) cells slots → T'.heap = h' → Wr h h' a (Jvm.RoadKit.slotOf Z O n d) v' → Fld Z h' a O n d v' → Go p e below K (T'.setTop (mkF m pc' Ls st))) : Go p e below K (T.setTop (mkF m pc Ls (v :: .ref a :: st))) := by
  subst hp
  obtain ⟨T', h', X', e', W', k⟩ := putFN X H.1 hZ hown w via eT F E L wi hty hn hf (g := mkF m pc Ls (v :: .ref a :: st)) rfl rfl (hb H.2 hd)
  exact Go.via k (g T' h' X' e' W' (F.same W'))
theorem gNewP (X : Stand p l e R s m args below meth c T locs cells slots) (H : p.tables.exec = Jvm.exec ∧ c.code = bs) (hZ : Z.Warmed39 s.vm) {aty : ArrayType} (w : (Cond.arrayClass (newarray.typeOf aty)).before a0 Z = true) (eT : T.heap = h) {n : Int32} (hn : ¬ n < 0) {cap : Nat} (hcap : n.toNatClampNeg ≤ cap) (hb8 : cap * 8 ≤ 536870912) {vs : List Value} (hvs : List.replicate cap (defaultValue (newarray.typeOf aty)) = vs) (hc : cells + 1 ≤ R.cells) (hsl : slots + cap ≤ R.slots) (hd : decode bs pc = .ok (.newarray aty, 2)) (pc' : Nat) (hp : pc + 2 = pc')
    (g : ∀ T' h' b k, Stand p l e R s m args below meth c T' locs (cells + 1) (slots + cap) → T'.heap = h' → h.size = b → Ext h h' → Arv Z h' b k (newarray.typeOf aty) n vs (defaultValue (newarray.typeOf aty)) → Go p e below K (T'.setTop (mkF m pc' Ls (.ref b :: st)))) : Go p e below K (T.setTop (mkF m pc Ls (.int n :: st))) := by
  subst hp
  obtain ⟨T', h', k', X', e', E', A', k⟩ := newP X H.1 hZ w eT (g := mkF m pc Ls (.int n :: st)) rfl (hb H.2 hd) rfl hn hcap hb8 hc hsl
  refine Go.via k (g T' h' _ k' X' e' rfl E' ?_)
  rw [← hvs]
  exact (Arv.new A' hn).pad (pad_rep [] _ _)
theorem gIaload (X : Stand p l e R s m args below meth c T locs cells slots) (H : p.tables.exec = Jvm.exec ∧ c.code = bs) (hZ : Z.Warmed39 s.vm) (eT : T.heap = h) {a : Addr} {k : ClassId} {n j : Int32} {vs : List Value} {dv v : Value} (A : Arv Z h a k .int n vs dv) (hj : ¬ j < 0 ∧ j < n) (hv : vs.getD j.toNatClampNeg dv = v) (hd : decode bs pc = .ok (.iaload, 1)) (pc' : Nat) (hp : pc + 1 = pc') (g : Go p e below K (T.setTop (mkF m pc' Ls (v :: st)))) : Go p e below K (T.setTop (mkF m pc Ls (.int j :: .ref a :: st))) := by
  subst hp
  obtain ⟨c', Ar, q, S, N, Hs, Gs⟩ := A
  have hin := inb_of S hj
  exact Go.via (X.iaload H.1 (j := j) (v := v) (by rw [eT]; exact Ar.1) (State.isArrayOf_alike hZ.alike Ar.2.1) Ar.2.2 hin (Hs.at hin hv) (g := mkF m pc Ls (.int j :: .ref a :: st)) rfl rfl (hb H.2 hd)) g
theorem gLen (X : Stand p l e R s m args below meth c T locs cells slots) (H : p.tables.exec = Jvm.exec ∧ c.code = bs) (hZ : Z.Warmed39 s.vm) (eT : T.heap = h) {a : Addr} {n : Int32} (A : Arl Z h a n) (hd : decode bs pc = .ok (.arraylength, 1)) (pc' : Nat) (hp : pc + 1 = pc') (g : Go p e below K (T.setTop (mkF m pc' Ls (.int n :: st)))) : Go p e below K (T.setTop (mkF m pc Ls (.ref a :: st))) := by
  subst hp
  obtain ⟨k, ty, vs, dv, c', Ar, q, S, N, Hs, Gs⟩ := A
  refine Go.via (X.arraylength H.1 (by rw [eT]; exact Ar.1) (State.isArrayOf_alike hZ.alike Ar.2.1) (g := mkF m pc Ls (.ref a :: st)) rfl rfl (hb H.2 hd)) ?_
  rw [len_of S N]
  exact g
theorem gIastore (X : Stand p l e R s m args below meth c T locs cells slots) (H : p.tables.exec = Jvm.exec ∧ c.code = bs) (hZ : Z.Warmed39 s.vm) (eT : T.heap = h) {a : Addr} {k : ClassId} {n j : Int32} {vs vs' : List Value} {dv : Value} {x : Int32} (A : Arv Z h a k .int n vs dv) (hj : ¬ j < 0 ∧ j < n) {i : Nat} (hi : j.toNatClampNeg = i) (hlt : i < vs.length) (hvs : vs.set i (.int x) = vs') (hd : decode bs pc = .ok (.iastore, 1)) (pc' : Nat) (hp : pc + 1 = pc')
    (g : ∀ T' h', Stand p l e R s m args below meth c T' (locs ++ [⟨a, j.toNatClampNeg⟩]) cells slots → T'.heap = h' → Wr h h' a j.toNatClampNeg (.int x) → Arv Z h' a k .int n vs' dv → Go p e below K (T'.setTop (mkF m pc' Ls st))) : Go p e below K (T.setTop (mkF m pc Ls (.int x :: .int j :: .ref a :: st))) := by
  subst hp hvs
  obtain ⟨c', Ar, q, S, N, Hs, Gs⟩ := A
  have hin := inb_of S hj
  obtain ⟨T', h', X', e', W', k'⟩ := stI X H.1 hZ eT Ar (j := j) hin (g := mkF m pc Ls (.int x :: .int j :: .ref a :: st)) rfl rfl (hb H.2 hd)
  exact Go.via k' (g T' h' X' e' W' (Arv.set Ar q S N Hs Gs rfl W' i hi hlt))
theorem gPrivate (X : Stand p l e R s m args below meth c T locs cells slots) (H : p.tables.exec = Jvm.exec ∧ c.code = bs) (hZ : Z.Warmed39 s.vm) {own : String} {index : Nat} (hown : s.vm.findClass own = some m.cls) {y : MethodName} {bytes : ByteArray} {maxL : Nat} {ret : Option FieldType} {rm : Room} {as : Array Value} {Q : Option Value → Heap → List Loc → Prop} {W maxO : Nat} {argsL rest : List Value} {ps : List FieldType} {r : Option FieldType} (wl : (Cond.methodLink own index y).before a0 Z = true) (wi : (Cond.instanceMethod y).before a0 Z = true) (wp : (Cond.privateMethod y).before a0 Z = true) {kk : Nat} (wk : (Cond.instantiable y.cls kk).before a0 Z = true) (hy : y.cls ≠ "java/lang/invoke/MethodHandle" ∧ y.cls ≠ "java/lang/invoke/VarHandle") {b : Addr} {C : String} (E : Exa Z h b C) (wc : (Cond.code y bytes maxL ret).before a0 Z = true) (wz : (Cond.initialized (y).cls).before a0 Z = true) (M : Con l Z y bytes maxL ret rm as h Q) (eT : T.heap = h) (hml : c.maxLocals = maxO) (hs : Ls.size = maxO) (hpd : parseMethodDescriptor y.desc = some ⟨ps, r⟩) (hlen : argsL.length = ps.length) (hstack : st = argsL.reverse ++ .ref b :: rest) (has : (.ref b :: argsL).toArray = as) (hd : decode bs pc = .ok (.invokevirtual index, 3)) (pc' : Nat) (hp : pc + 3 = pc')
    (g : ∀ v T' L, Q v T'.heap L → Stand p l e R s m args below meth c T' (locs ++ L) (cells + rm.cells) (slots + rm.slots) → Go p e below K (T'.setTop (mkF m pc' Ls (v.toList ++ rest)))) (hW : (rest.map fun v => v.category).sum ≤ W := by exact Nat.le_of_eq rfl) (hf : rm.frames + 1 ≤ R.frames := by decide) (hl : W + (maxL + 11) + rm.locals ≤ R.locals := by decide) (hc : cells + rm.cells ≤ R.cells := by decide) (hsl : slots + rm.slots ≤ R.slots := by decide) : Go p e below K (T.setTop (mkF m pc Ls (st))) := by
  subst hp has
  obtain ⟨cq, q1, q2⟩ := E.cell
  obtain ⟨v, _, ⟨T', L', k', n'⟩, -, X', ⟨L, hQ, l', y', z'⟩, k⟩ := X.privateBack H.1 (y := y) hown (mvT hZ wl) (mvT hZ wi) (mvT hZ (selPriv wp wi wk hy)) (Cond.privateMethod_at (mvP hZ wp (args := #[]))) (mvT hZ wc) hy (backOf (W := W) (M []) hZ wc wz hf hl) (g := mkF m pc Ls st) rfl (hs.trans hml.symm) (Steps.refl _) (a := b) (by rw [eT]; exact q1) q2 (argsL := argsL) (rest := rest) (lenOf hpd hlen) hstack (by show 2 * 0 + _ ≤ _; omega) (hb H.2 hd) (fun _ _ => ⟨rfl, eT, hc, hsl⟩)
  dsimp only [Pt.U, Pt.locs, Pt.cells, Pt.slots] at X' l' y' z' k hQ
  subst l' y' z'
  exact Go.via (fun t q => k.trans q) (g v T' L hQ X')
theorem gCopy (X : Stand p l e R s m args below meth c T locs cells slots) (H : p.tables.exec = Jvm.exec ∧ c.code = bs) (hZ : Z.Warmed39 s.vm) {own : String} {index : Nat} (hown : s.vm.findClass own = some m.cls) (w1 : (Cond.methodLink own index Jvm.Stand.acN).before a0 Z = true) (w2 : (Cond.native Jvm.Stand.acN).before a0 Z = true) (w3 : (Cond.static Jvm.Stand.acN).before a0 Z = true) (w4 : (Cond.initialized "java/lang/System").before a0 Z = true) (eT : T.heap = h) {a b : Addr} {k k' : ClassId} {ty ty' : FieldType} {z z' sp dp nn : Int32} {vs vd us vd' : List Value} {dv dd : Value} (A : Arv Z h a k ty z vs dv) (B : Arv Z h b k' ty' z' vd dd) (hty : (ty = ty' ∧ refKind ty = false) ∨ (refKind ty = true ∧ refKind ty' = true ∧ StoL Z h b us)) (h1 : ¬ sp < 0) (h2 : ¬ dp < 0) (h3 : ¬ nn < 0) (h4 : sp.toNatClampNeg + nn.toNatClampNeg ≤ z.toNatClampNeg) (h5 : dp.toNatClampNeg + nn.toNatClampNeg ≤ z'.toNatClampNeg) (hus : us = (List.range nn.toNatClampNeg).map fun i => vs.getD (sp.toNatClampNeg + i) dv) (hll : dp.toNatClampNeg + nn.toNatClampNeg ≤ vd.length) {n0 : Nat} (N : Fr n0 locs) (ge : n0 ≤ b) {V maxO : Nat} (hml : c.maxLocals = maxO) (hs : Ls.size = maxO) (hf : 1 ≤ R.frames) (hW : (st.map fun v => v.category).sum ≤ V) (hlo : V + (nativeFrameWords "java/lang/System" "arraycopy" 5 + 11) ≤ R.locals) (hvd : vd.take dp.toNatClampNeg ++ us ++ vd.drop (dp.toNatClampNeg + nn.toNatClampNeg) = vd') (hd : decode bs pc = .ok (.invokestatic index, 3)) (pc' : Nat) (hp : pc + 3 = pc')
    (g : ∀ T' h' L, Stand p l e R s m args below meth c T' L cells slots → T'.heap = h' → Fr n0 L → Keep h h' [b] → Arv Z h' b k' ty' z' vd' dd → Go p e below K (T'.setTop (mkF m pc' Ls st))) : Go p e below K (T.setTop (mkF m pc Ls (.int nn :: .int dp :: .ref b :: .int sp :: .ref a :: st))) := by
  subst hp hvd
  obtain ⟨T', h', L, X', e', N', K', V', q⟩ := cpA X H.1 hZ hown w1 w2 w3 w4 eT A B hty h1 h2 h3 h4 h5 hus hll N ge (g := mkF m pc Ls (.int nn :: .int dp :: .ref b :: .int sp :: .ref a :: st)) rfl (hs.trans hml.symm) rfl (hb H.2 hd) hf (W := V) (by show 2 * 0 + _ ≤ _; omega) hlo
  exact Go.via q (g T' h' L X' e' N' K' V')
theorem gVirt (X : Stand p l e R s m args below meth c T locs cells slots) (H : p.tables.exec = Jvm.exec ∧ c.code = bs) (hZ : Z.Warmed39 s.vm) {own : String} {index : Nat} (hown : s.vm.findClass own = some m.cls) {C : String} {y : MethodName} {bytes : ByteArray} {maxL : Nat} {ret : Option FieldType} {rm : Room} {as : Array Value} {Q : Option Value → Heap → List Loc → Prop} {W maxO : Nat} {argsL rest : List Value} {ps : List FieldType} {r : Option FieldType} (wl : (Cond.methodLink own index y).before a0 Z = true) (wd : (Cond.declares y).before a0 Z = true) (wse : (Cond.selects C y y).before a0 Z = true) (wi : (Cond.instanceMethod y).before a0 Z = true) (hy : y.cls ≠ "java/lang/invoke/MethodHandle" ∧ y.cls ≠ "java/lang/invoke/VarHandle") {b : Addr} (E : Exa Z h b C) (wc : (Cond.code y bytes maxL ret).before a0 Z = true) (wz : (Cond.initialized (y).cls).before a0 Z = true) (M : Con l Z y bytes maxL ret rm as h Q) (eT : T.heap = h) (hml : c.maxLocals = maxO) (hs : Ls.size = maxO) (hpd : parseMethodDescriptor y.desc = some ⟨ps, r⟩) (hlen : argsL.length = ps.length) (hstack : st = argsL.reverse ++ .ref b :: rest) (has : (.ref b :: argsL).toArray = as) (hd : decode bs pc = .ok (.invokevirtual index, 3)) (pc' : Nat) (hp : pc + 3 = pc')
    (g : ∀ v T' L, Q v T'.heap L → Stand p l e R s m args below meth c T' (locs ++ L) (cells + rm.cells) (slots + rm.slots) → Go p e below K (T'.setTop (mkF m pc' Ls (v.toList ++ rest)))) (hW : (rest.map fun v => v.category).sum ≤ W := by exact Nat.le_of_eq rfl) (hf : rm.frames + 1 ≤ R.frames := by decide) (hl : W + (maxL + 11) + rm.locals ≤ R.locals := by decide) (hc : cells + rm.cells ≤ R.cells := by decide) (hsl : slots + rm.slots ≤ R.slots := by decide) : Go p e below K (T.setTop (mkF m pc Ls (st))) := by
  subst hp has
  obtain ⟨cB, kB, q1, q2, q3⟩ := isOf hZ eT E
  obtain ⟨v, _, ⟨T', L', k', n'⟩, -, X', ⟨L, hQ, l', y', z'⟩, k⟩ := X.virtualBack H.1 (y := y) (z := y) hown (mvT hZ wl) (mvT hZ wd) (notFace_of_selects (args := #[]) (mvT hZ wse)) (mvT hZ wse) (mvT hZ wi) hy (backOf (W := W) (M []) hZ wc wz hf hl) q1 q3 (g := mkF m pc Ls st) rfl (hs.trans hml.symm) (Steps.refl _) (argsL := argsL) (rest := rest) (lenOf hpd hlen) hstack (by show 2 * 0 + _ ≤ _; omega) (hb H.2 hd) (fun _ _ => ⟨rfl, eT, hc, hsl⟩)
  dsimp only [Pt.U, Pt.locs, Pt.cells, Pt.slots] at X' l' y' z' k hQ
  subst l' y' z'
  exact Go.via (fun t q => k.trans q) (g v T' L hQ X')
end Steps
theorem wd0 : (Jvm.Cond.classLink "com/example/blackheight/blackheight/node/TrailReplacePinLaw" (7 : Nat) "com/example/blackheight/blackheight/node/Trail") ∈ tables_1 := List.mem_of_getElem? (i := 0) rfl
theorem wd1 : (Jvm.Cond.instantiable "com/example/blackheight/blackheight/node/Trail" (4 : Nat)) ∈ tables_1 := List.mem_of_getElem? (i := 1) rfl
theorem wd2 : (Jvm.Cond.initialized "com/example/blackheight/blackheight/node/Trail") ∈ tables_1 := List.mem_of_getElem? (i := 2) rfl
theorem wd3 : (Jvm.Cond.methodLink "com/example/blackheight/blackheight/node/TrailReplacePinLaw" (9 : Nat) ({ cls := "com/example/blackheight/blackheight/node/Trail", name := "<init>", desc := "()V" } : Jvm.MethodName)) ∈ tables_1 := List.mem_of_getElem? (i := 3) rfl
theorem wd4 : (Jvm.Cond.instanceMethod ({ cls := "com/example/blackheight/blackheight/node/Trail", name := "<init>", desc := "()V" } : Jvm.MethodName)) ∈ tables_1 := List.mem_of_getElem? (i := 4) rfl
theorem wd5 : (Jvm.Cond.code ({ cls := "com/example/blackheight/blackheight/node/Trail", name := "<init>", desc := "()V" } : Jvm.MethodName) prog_22_method_1_code (1 : Nat) (Option.none : Option Jvm.ClassFile.FieldType)) ∈ tables_1 := List.mem_of_getElem? (i := 5) rfl
theorem wd6 : (Jvm.Cond.methodLink "com/example/blackheight/blackheight/node/Trail" (1 : Nat) ({ cls := "java/lang/Object", name := "<init>", desc := "()V" } : Jvm.MethodName)) ∈ tables_1 := List.mem_of_getElem? (i := 6) rfl
theorem wd7 : (Jvm.Cond.instanceMethod ({ cls := "java/lang/Object", name := "<init>", desc := "()V" } : Jvm.MethodName)) ∈ tables_1 := List.mem_of_getElem? (i := 7) rfl
theorem wd8 : (Jvm.Cond.code ({ cls := "java/lang/Object", name := "<init>", desc := "()V" } : Jvm.MethodName) object_method_1_code (1 : Nat) (Option.none : Option Jvm.ClassFile.FieldType)) ∈ tables_1 := List.mem_of_getElem? (i := 8) rfl
theorem wd9 : (Jvm.Cond.fieldLink "com/example/blackheight/blackheight/node/Trail" (7 : Nat) "com/example/blackheight/blackheight/node/Trail" "NO_ROOM" "[I") ∈ tables_1 := List.mem_of_getElem? (i := 9) rfl
theorem wd10 : (Jvm.Cond.laysStatic "com/example/blackheight/blackheight/node/Trail" "NO_ROOM" "[I") ∈ tables_1 := List.mem_of_getElem? (i := 10) rfl
theorem wd11 : (Jvm.Cond.fieldLink "com/example/blackheight/blackheight/node/Trail" (13 : Nat) "com/example/blackheight/blackheight/node/Trail" "entries" "[I") ∈ tables_1 := List.mem_of_getElem? (i := 11) rfl
theorem wd12 : (Jvm.Cond.lays "com/example/blackheight/blackheight/node/Trail" "com/example/blackheight/blackheight/node/Trail" "entries" "[I") ∈ tables_1 := List.mem_of_getElem? (i := 12) rfl
theorem wd13 : (Jvm.Cond.methodLink "com/example/blackheight/blackheight/node/TrailReplacePinLaw" (10 : Nat) ({ cls := "com/example/blackheight/blackheight/node/Trail", name := "push", desc := "(I)V" } : Jvm.MethodName)) ∈ tables_1 := List.mem_of_getElem? (i := 13) rfl
theorem wd14 : (Jvm.Cond.declares ({ cls := "com/example/blackheight/blackheight/node/Trail", name := "push", desc := "(I)V" } : Jvm.MethodName)) ∈ tables_1 := List.mem_of_getElem? (i := 14) rfl
theorem wd15 : (Jvm.Cond.instanceMethod ({ cls := "com/example/blackheight/blackheight/node/Trail", name := "push", desc := "(I)V" } : Jvm.MethodName)) ∈ tables_1 := List.mem_of_getElem? (i := 15) rfl
theorem wd16 : (Jvm.Cond.selects "com/example/blackheight/blackheight/node/Trail" ({ cls := "com/example/blackheight/blackheight/node/Trail", name := "push", desc := "(I)V" } : Jvm.MethodName) ({ cls := "com/example/blackheight/blackheight/node/Trail", name := "push", desc := "(I)V" } : Jvm.MethodName)) ∈ tables_1 := List.mem_of_getElem? (i := 16) rfl
theorem wd17 : (Jvm.Cond.code ({ cls := "com/example/blackheight/blackheight/node/Trail", name := "push", desc := "(I)V" } : Jvm.MethodName) prog_22_method_6_code (2 : Nat) (Option.none : Option Jvm.ClassFile.FieldType)) ∈ tables_1 := List.mem_of_getElem? (i := 17) rfl
theorem wd18 : (Jvm.Cond.fieldLink "com/example/blackheight/blackheight/node/Trail" (16 : Nat) "com/example/blackheight/blackheight/node/Trail" "depth" "I") ∈ tables_1 := List.mem_of_getElem? (i := 18) rfl
theorem wd19 : (Jvm.Cond.lays "com/example/blackheight/blackheight/node/Trail" "com/example/blackheight/blackheight/node/Trail" "depth" "I") ∈ tables_1 := List.mem_of_getElem? (i := 19) rfl
theorem wd20 : (Jvm.Cond.methodLink "com/example/blackheight/blackheight/node/Trail" (26 : Nat) ({ cls := "com/example/blackheight/blackheight/node/Trail", name := "grow", desc := "()V" } : Jvm.MethodName)) ∈ tables_1 := List.mem_of_getElem? (i := 20) rfl
theorem wd21 : (Jvm.Cond.instanceMethod ({ cls := "com/example/blackheight/blackheight/node/Trail", name := "grow", desc := "()V" } : Jvm.MethodName)) ∈ tables_1 := List.mem_of_getElem? (i := 21) rfl
theorem wd22 : (Jvm.Cond.privateMethod ({ cls := "com/example/blackheight/blackheight/node/Trail", name := "grow", desc := "()V" } : Jvm.MethodName)) ∈ tables_1 := List.mem_of_getElem? (i := 22) rfl
theorem wd23 : (Jvm.Cond.code ({ cls := "com/example/blackheight/blackheight/node/Trail", name := "grow", desc := "()V" } : Jvm.MethodName) prog_22_method_16_code (1 : Nat) (Option.none : Option Jvm.ClassFile.FieldType)) ∈ tables_1 := List.mem_of_getElem? (i := 23) rfl
theorem wd24 : (Jvm.Cond.methodLink "com/example/blackheight/blackheight/node/Trail" (58 : Nat) ({ cls := "java/lang/Math", name := "max", desc := "(II)I" } : Jvm.MethodName)) ∈ tables_1 := List.mem_of_getElem? (i := 24) rfl
theorem wd25 : (Jvm.Cond.static ({ cls := "java/lang/Math", name := "max", desc := "(II)I" } : Jvm.MethodName)) ∈ tables_1 := List.mem_of_getElem? (i := 25) rfl
theorem wd26 : (Jvm.Cond.initialized "java/lang/Math") ∈ tables_1 := List.mem_of_getElem? (i := 26) rfl
theorem wd27 : (Jvm.Cond.code ({ cls := "java/lang/Math", name := "max", desc := "(II)I" } : Jvm.MethodName) jdk_29_method_65_code (2 : Nat) (Option.some Jvm.ClassFile.FieldType.int)) ∈ tables_1 := List.mem_of_getElem? (i := 27) rfl
theorem wd28 : (Jvm.Cond.methodLink "com/example/blackheight/blackheight/node/Trail" (52 : Nat) ({ cls := "java/util/Arrays", name := "copyOf", desc := "([II)[I" } : Jvm.MethodName)) ∈ tables_1 := List.mem_of_getElem? (i := 28) rfl
theorem wd29 : (Jvm.Cond.static ({ cls := "java/util/Arrays", name := "copyOf", desc := "([II)[I" } : Jvm.MethodName)) ∈ tables_1 := List.mem_of_getElem? (i := 29) rfl
theorem wd30 : (Jvm.Cond.initialized "java/util/Arrays") ∈ tables_1 := List.mem_of_getElem? (i := 30) rfl
theorem wd31 : (Jvm.Cond.code ({ cls := "java/util/Arrays", name := "copyOf", desc := "([II)[I" } : Jvm.MethodName) jdk_65_method_123_code (3 : Nat) (Option.some (Jvm.ClassFile.FieldType.array Jvm.ClassFile.FieldType.int))) ∈ tables_1 := List.mem_of_getElem? (i := 31) rfl
theorem wd32 : (Jvm.Cond.arrayClass Jvm.ClassFile.FieldType.int) ∈ tables_1 := List.mem_of_getElem? (i := 32) rfl
theorem wd33 : (Jvm.Cond.methodLink "java/util/Arrays" (304 : Nat) ({ cls := "java/lang/Math", name := "min", desc := "(II)I" } : Jvm.MethodName)) ∈ tables_1 := List.mem_of_getElem? (i := 33) rfl
theorem wd34 : (Jvm.Cond.static ({ cls := "java/lang/Math", name := "min", desc := "(II)I" } : Jvm.MethodName)) ∈ tables_1 := List.mem_of_getElem? (i := 34) rfl
theorem wd35 : (Jvm.Cond.code ({ cls := "java/lang/Math", name := "min", desc := "(II)I" } : Jvm.MethodName) jdk_29_method_69_code (2 : Nat) (Option.some Jvm.ClassFile.FieldType.int)) ∈ tables_1 := List.mem_of_getElem? (i := 35) rfl
theorem wd36 : (Jvm.Cond.methodLink "java/util/Arrays" (150 : Nat) ({ cls := "java/lang/System", name := "arraycopy", desc := "(Ljava/lang/Object;ILjava/lang/Object;II)V" } : Jvm.MethodName)) ∈ tables_1 := List.mem_of_getElem? (i := 36) rfl
theorem wd37 : (Jvm.Cond.static ({ cls := "java/lang/System", name := "arraycopy", desc := "(Ljava/lang/Object;ILjava/lang/Object;II)V" } : Jvm.MethodName)) ∈ tables_1 := List.mem_of_getElem? (i := 37) rfl
theorem wd38 : (Jvm.Cond.initialized "java/lang/System") ∈ tables_1 := List.mem_of_getElem? (i := 38) rfl
theorem wd39 : (Jvm.Cond.native ({ cls := "java/lang/System", name := "arraycopy", desc := "(Ljava/lang/Object;ILjava/lang/Object;II)V" } : Jvm.MethodName)) ∈ tables_1 := List.mem_of_getElem? (i := 39) rfl
theorem wd40 : (Jvm.Cond.methodLink "com/example/blackheight/blackheight/node/Trail" (22 : Nat) ({ cls := "com/example/blackheight/blackheight/node/Trail", name := "changeAt", desc := "(I)V" } : Jvm.MethodName)) ∈ tables_1 := List.mem_of_getElem? (i := 40) rfl
theorem wd41 : (Jvm.Cond.instanceMethod ({ cls := "com/example/blackheight/blackheight/node/Trail", name := "changeAt", desc := "(I)V" } : Jvm.MethodName)) ∈ tables_1 := List.mem_of_getElem? (i := 41) rfl
theorem wd42 : (Jvm.Cond.privateMethod ({ cls := "com/example/blackheight/blackheight/node/Trail", name := "changeAt", desc := "(I)V" } : Jvm.MethodName)) ∈ tables_1 := List.mem_of_getElem? (i := 42) rfl
theorem wd43 : (Jvm.Cond.code ({ cls := "com/example/blackheight/blackheight/node/Trail", name := "changeAt", desc := "(I)V" } : Jvm.MethodName) prog_22_method_15_code (2 : Nat) (Option.none : Option Jvm.ClassFile.FieldType)) ∈ tables_1 := List.mem_of_getElem? (i := 43) rfl
theorem wd44 : (Jvm.Cond.fieldLink "com/example/blackheight/blackheight/node/Trail" (42 : Nat) "com/example/blackheight/blackheight/node/Trail" "unchanged" "B") ∈ tables_1 := List.mem_of_getElem? (i := 44) rfl
theorem wd45 : (Jvm.Cond.lays "com/example/blackheight/blackheight/node/Trail" "com/example/blackheight/blackheight/node/Trail" "unchanged" "B") ∈ tables_1 := List.mem_of_getElem? (i := 45) rfl
theorem wd46 : (Jvm.Cond.methodLink "com/example/blackheight/blackheight/node/TrailReplacePinLaw" (14 : Nat) ({ cls := "com/example/blackheight/blackheight/node/Trail", name := "keep", desc := "(I)V" } : Jvm.MethodName)) ∈ tables_1 := List.mem_of_getElem? (i := 46) rfl
theorem wd47 : (Jvm.Cond.declares ({ cls := "com/example/blackheight/blackheight/node/Trail", name := "keep", desc := "(I)V" } : Jvm.MethodName)) ∈ tables_1 := List.mem_of_getElem? (i := 47) rfl
theorem wd48 : (Jvm.Cond.instanceMethod ({ cls := "com/example/blackheight/blackheight/node/Trail", name := "keep", desc := "(I)V" } : Jvm.MethodName)) ∈ tables_1 := List.mem_of_getElem? (i := 48) rfl
theorem wd49 : (Jvm.Cond.selects "com/example/blackheight/blackheight/node/Trail" ({ cls := "com/example/blackheight/blackheight/node/Trail", name := "keep", desc := "(I)V" } : Jvm.MethodName) ({ cls := "com/example/blackheight/blackheight/node/Trail", name := "keep", desc := "(I)V" } : Jvm.MethodName)) ∈ tables_1 := List.mem_of_getElem? (i := 49) rfl
theorem wd50 : (Jvm.Cond.code ({ cls := "com/example/blackheight/blackheight/node/Trail", name := "keep", desc := "(I)V" } : Jvm.MethodName) prog_22_method_8_code (2 : Nat) (Option.none : Option Jvm.ClassFile.FieldType)) ∈ tables_1 := List.mem_of_getElem? (i := 50) rfl
theorem wd51 : (Jvm.Cond.methodLink "com/example/blackheight/blackheight/node/TrailReplacePinLaw" (17 : Nat) ({ cls := "com/example/blackheight/blackheight/node/Trail", name := "replace", desc := "(II)V" } : Jvm.MethodName)) ∈ tables_1 := List.mem_of_getElem? (i := 51) rfl
theorem wd52 : (Jvm.Cond.declares ({ cls := "com/example/blackheight/blackheight/node/Trail", name := "replace", desc := "(II)V" } : Jvm.MethodName)) ∈ tables_1 := List.mem_of_getElem? (i := 52) rfl
theorem wd53 : (Jvm.Cond.instanceMethod ({ cls := "com/example/blackheight/blackheight/node/Trail", name := "replace", desc := "(II)V" } : Jvm.MethodName)) ∈ tables_1 := List.mem_of_getElem? (i := 53) rfl
theorem wd54 : (Jvm.Cond.selects "com/example/blackheight/blackheight/node/Trail" ({ cls := "com/example/blackheight/blackheight/node/Trail", name := "replace", desc := "(II)V" } : Jvm.MethodName) ({ cls := "com/example/blackheight/blackheight/node/Trail", name := "replace", desc := "(II)V" } : Jvm.MethodName)) ∈ tables_1 := List.mem_of_getElem? (i := 54) rfl
theorem wd55 : (Jvm.Cond.code ({ cls := "com/example/blackheight/blackheight/node/Trail", name := "replace", desc := "(II)V" } : Jvm.MethodName) prog_22_method_10_code (4 : Nat) (Option.none : Option Jvm.ClassFile.FieldType)) ∈ tables_1 := List.mem_of_getElem? (i := 55) rfl
theorem wd56 : (Jvm.Cond.methodLink "com/example/blackheight/blackheight/node/TrailReplacePinLaw" (21 : Nat) ({ cls := "com/example/blackheight/blackheight/node/Trail", name := "depth", desc := "()I" } : Jvm.MethodName)) ∈ tables_1 := List.mem_of_getElem? (i := 56) rfl
theorem wd57 : (Jvm.Cond.declares ({ cls := "com/example/blackheight/blackheight/node/Trail", name := "depth", desc := "()I" } : Jvm.MethodName)) ∈ tables_1 := List.mem_of_getElem? (i := 57) rfl
theorem wd58 : (Jvm.Cond.instanceMethod ({ cls := "com/example/blackheight/blackheight/node/Trail", name := "depth", desc := "()I" } : Jvm.MethodName)) ∈ tables_1 := List.mem_of_getElem? (i := 58) rfl
theorem wd59 : (Jvm.Cond.selects "com/example/blackheight/blackheight/node/Trail" ({ cls := "com/example/blackheight/blackheight/node/Trail", name := "depth", desc := "()I" } : Jvm.MethodName) ({ cls := "com/example/blackheight/blackheight/node/Trail", name := "depth", desc := "()I" } : Jvm.MethodName)) ∈ tables_1 := List.mem_of_getElem? (i := 59) rfl
theorem wd60 : (Jvm.Cond.code ({ cls := "com/example/blackheight/blackheight/node/Trail", name := "depth", desc := "()I" } : Jvm.MethodName) prog_22_method_2_code (1 : Nat) (Option.some Jvm.ClassFile.FieldType.int)) ∈ tables_1 := List.mem_of_getElem? (i := 60) rfl
theorem wd61 : (Jvm.Cond.methodLink "com/example/blackheight/blackheight/node/TrailReplacePinLaw" (25 : Nat) ({ cls := "com/example/blackheight/blackheight/node/Trail", name := "entry", desc := "(I)I" } : Jvm.MethodName)) ∈ tables_1 := List.mem_of_getElem? (i := 61) rfl
theorem wd62 : (Jvm.Cond.declares ({ cls := "com/example/blackheight/blackheight/node/Trail", name := "entry", desc := "(I)I" } : Jvm.MethodName)) ∈ tables_1 := List.mem_of_getElem? (i := 62) rfl
theorem wd63 : (Jvm.Cond.instanceMethod ({ cls := "com/example/blackheight/blackheight/node/Trail", name := "entry", desc := "(I)I" } : Jvm.MethodName)) ∈ tables_1 := List.mem_of_getElem? (i := 63) rfl
theorem wd64 : (Jvm.Cond.selects "com/example/blackheight/blackheight/node/Trail" ({ cls := "com/example/blackheight/blackheight/node/Trail", name := "entry", desc := "(I)I" } : Jvm.MethodName) ({ cls := "com/example/blackheight/blackheight/node/Trail", name := "entry", desc := "(I)I" } : Jvm.MethodName)) ∈ tables_1 := List.mem_of_getElem? (i := 64) rfl
theorem wd65 : (Jvm.Cond.code ({ cls := "com/example/blackheight/blackheight/node/Trail", name := "entry", desc := "(I)I" } : Jvm.MethodName) prog_22_method_3_code (2 : Nat) (Option.some Jvm.ClassFile.FieldType.int)) ∈ tables_1 := List.mem_of_getElem? (i := 65) rfl
theorem d1_0 : decode prog_22_method_1_code 0 = .ok (.aload_n 0, 1) := by decide +kernel
theorem d1_1 : decode prog_22_method_1_code 1 = .ok (.invokespecial 1, 3) := by decide +kernel
theorem d1_4 : decode prog_22_method_1_code 4 = .ok (.aload_n 0, 1) := by decide +kernel
theorem d1_5 : decode prog_22_method_1_code 5 = .ok (.getstatic 7, 3) := by decide +kernel
theorem d1_8 : decode prog_22_method_1_code 8 = .ok (.putfield 13, 3) := by decide +kernel
theorem d1_11 : decode prog_22_method_1_code 11 = .ok (.return_, 1) := by decide +kernel
theorem d3_0 : decode prog_22_method_6_code 0 = .ok (.aload_n 0, 1) := by decide +kernel
theorem d3_1 : decode prog_22_method_6_code 1 = .ok (.getfield 16, 3) := by decide +kernel
theorem d3_4 : decode prog_22_method_6_code 4 = .ok (.aload_n 0, 1) := by decide +kernel
theorem d3_5 : decode prog_22_method_6_code 5 = .ok (.getfield 13, 3) := by decide +kernel
theorem d3_8 : decode prog_22_method_6_code 8 = .ok (.arraylength, 1) := by decide +kernel
theorem d3_9 : decode prog_22_method_6_code 9 = .ok (.if_icmp .ne 7, 3) := by decide +kernel
theorem d3_12 : decode prog_22_method_6_code 12 = .ok (.aload_n 0, 1) := by decide +kernel
theorem d3_13 : decode prog_22_method_6_code 13 = .ok (.invokevirtual 26, 3) := by decide +kernel
theorem d3_16 : decode prog_22_method_6_code 16 = .ok (.aload_n 0, 1) := by decide +kernel
theorem d3_17 : decode prog_22_method_6_code 17 = .ok (.aload_n 0, 1) := by decide +kernel
theorem d3_18 : decode prog_22_method_6_code 18 = .ok (.getfield 16, 3) := by decide +kernel
theorem d3_21 : decode prog_22_method_6_code 21 = .ok (.invokevirtual 22, 3) := by decide +kernel
theorem d3_24 : decode prog_22_method_6_code 24 = .ok (.aload_n 0, 1) := by decide +kernel
theorem d3_25 : decode prog_22_method_6_code 25 = .ok (.getfield 13, 3) := by decide +kernel
theorem d3_28 : decode prog_22_method_6_code 28 = .ok (.aload_n 0, 1) := by decide +kernel
theorem d3_29 : decode prog_22_method_6_code 29 = .ok (.getfield 16, 3) := by decide +kernel
theorem d3_32 : decode prog_22_method_6_code 32 = .ok (.iload_n 1, 1) := by decide +kernel
theorem d3_33 : decode prog_22_method_6_code 33 = .ok (.iastore, 1) := by decide +kernel
theorem d3_34 : decode prog_22_method_6_code 34 = .ok (.aload_n 0, 1) := by decide +kernel
theorem d3_35 : decode prog_22_method_6_code 35 = .ok (.dup, 1) := by decide +kernel
theorem d3_36 : decode prog_22_method_6_code 36 = .ok (.getfield 16, 3) := by decide +kernel
theorem d3_39 : decode prog_22_method_6_code 39 = .ok (.iconst 1, 1) := by decide +kernel
theorem d3_40 : decode prog_22_method_6_code 40 = .ok (.iadd, 1) := by decide +kernel
theorem d3_41 : decode prog_22_method_6_code 41 = .ok (.putfield 16, 3) := by decide +kernel
theorem d3_44 : decode prog_22_method_6_code 44 = .ok (.return_, 1) := by decide +kernel
theorem d4_0 : decode prog_22_method_16_code 0 = .ok (.aload_n 0, 1) := by decide +kernel
theorem d4_1 : decode prog_22_method_16_code 1 = .ok (.aload_n 0, 1) := by decide +kernel
theorem d4_2 : decode prog_22_method_16_code 2 = .ok (.getfield 13, 3) := by decide +kernel
theorem d4_5 : decode prog_22_method_16_code 5 = .ok (.bipush 16, 2) := by decide +kernel
theorem d4_7 : decode prog_22_method_16_code 7 = .ok (.iconst 2, 1) := by decide +kernel
theorem d4_8 : decode prog_22_method_16_code 8 = .ok (.aload_n 0, 1) := by decide +kernel
theorem d4_9 : decode prog_22_method_16_code 9 = .ok (.getfield 13, 3) := by decide +kernel
theorem d4_12 : decode prog_22_method_16_code 12 = .ok (.arraylength, 1) := by decide +kernel
theorem d4_13 : decode prog_22_method_16_code 13 = .ok (.imul, 1) := by decide +kernel
theorem d4_14 : decode prog_22_method_16_code 14 = .ok (.invokestatic 58, 3) := by decide +kernel
theorem d4_17 : decode prog_22_method_16_code 17 = .ok (.invokestatic 52, 3) := by decide +kernel
theorem d4_20 : decode prog_22_method_16_code 20 = .ok (.putfield 13, 3) := by decide +kernel
theorem d4_23 : decode prog_22_method_16_code 23 = .ok (.return_, 1) := by decide +kernel
theorem d5_0 : decode jdk_29_method_65_code 0 = .ok (.iload_n 0, 1) := by decide +kernel
theorem d5_1 : decode jdk_29_method_65_code 1 = .ok (.iload_n 1, 1) := by decide +kernel
theorem d5_2 : decode jdk_29_method_65_code 2 = .ok (.if_icmp .lt 7, 3) := by decide +kernel
theorem d5_5 : decode jdk_29_method_65_code 5 = .ok (.iload_n 0, 1) := by decide +kernel
theorem d5_6 : decode jdk_29_method_65_code 6 = .ok (.goto 4, 3) := by decide +kernel
theorem d5_10 : decode jdk_29_method_65_code 10 = .ok (.ireturn, 1) := by decide +kernel
theorem d6_0 : decode jdk_65_method_123_code 0 = .ok (.iload_n 1, 1) := by decide +kernel
theorem d6_1 : decode jdk_65_method_123_code 1 = .ok (.aload_n 0, 1) := by decide +kernel
theorem d6_2 : decode jdk_65_method_123_code 2 = .ok (.arraylength, 1) := by decide +kernel
theorem d6_3 : decode jdk_65_method_123_code 3 = .ok (.if_icmp .ne 11, 3) := by decide +kernel
theorem d6_14 : decode jdk_65_method_123_code 14 = .ok (.iload_n 1, 1) := by decide +kernel
theorem d6_15 : decode jdk_65_method_123_code 15 = .ok (.newarray .int, 2) := by decide +kernel
theorem d6_17 : decode jdk_65_method_123_code 17 = .ok (.astore_n 2, 1) := by decide +kernel
theorem d6_18 : decode jdk_65_method_123_code 18 = .ok (.aload_n 0, 1) := by decide +kernel
theorem d6_19 : decode jdk_65_method_123_code 19 = .ok (.iconst 0, 1) := by decide +kernel
theorem d6_20 : decode jdk_65_method_123_code 20 = .ok (.aload_n 2, 1) := by decide +kernel
theorem d6_21 : decode jdk_65_method_123_code 21 = .ok (.iconst 0, 1) := by decide +kernel
theorem d6_22 : decode jdk_65_method_123_code 22 = .ok (.aload_n 0, 1) := by decide +kernel
theorem d6_23 : decode jdk_65_method_123_code 23 = .ok (.arraylength, 1) := by decide +kernel
theorem d6_24 : decode jdk_65_method_123_code 24 = .ok (.iload_n 1, 1) := by decide +kernel
theorem d6_25 : decode jdk_65_method_123_code 25 = .ok (.invokestatic 304, 3) := by decide +kernel
theorem d6_28 : decode jdk_65_method_123_code 28 = .ok (.invokestatic 150, 3) := by decide +kernel
theorem d6_31 : decode jdk_65_method_123_code 31 = .ok (.aload_n 2, 1) := by decide +kernel
theorem d6_32 : decode jdk_65_method_123_code 32 = .ok (.areturn, 1) := by decide +kernel
theorem d7_0 : decode jdk_29_method_69_code 0 = .ok (.iload_n 0, 1) := by decide +kernel
theorem d7_1 : decode jdk_29_method_69_code 1 = .ok (.iload_n 1, 1) := by decide +kernel
theorem d7_2 : decode jdk_29_method_69_code 2 = .ok (.if_icmp .gt 7, 3) := by decide +kernel
theorem d7_5 : decode jdk_29_method_69_code 5 = .ok (.iload_n 0, 1) := by decide +kernel
theorem d7_6 : decode jdk_29_method_69_code 6 = .ok (.goto 4, 3) := by decide +kernel
theorem d7_10 : decode jdk_29_method_69_code 10 = .ok (.ireturn, 1) := by decide +kernel
theorem d8_0 : decode prog_22_method_15_code 0 = .ok (.iload_n 1, 1) := by decide +kernel
theorem d8_1 : decode prog_22_method_15_code 1 = .ok (.aload_n 0, 1) := by decide +kernel
theorem d8_2 : decode prog_22_method_15_code 2 = .ok (.getfield 42, 3) := by decide +kernel
theorem d8_5 : decode prog_22_method_15_code 5 = .ok (.if_icmp .ge 9, 3) := by decide +kernel
theorem d8_14 : decode prog_22_method_15_code 14 = .ok (.return_, 1) := by decide +kernel
theorem d9_0 : decode prog_22_method_8_code 0 = .ok (.aload_n 0, 1) := by decide +kernel
theorem d9_1 : decode prog_22_method_8_code 1 = .ok (.iload_n 1, 1) := by decide +kernel
theorem d9_2 : decode prog_22_method_8_code 2 = .ok (.putfield 16, 3) := by decide +kernel
theorem d9_5 : decode prog_22_method_8_code 5 = .ok (.return_, 1) := by decide +kernel
theorem d10_0 : decode prog_22_method_10_code 0 = .ok (.iconst 0, 1) := by decide +kernel
theorem d10_1 : decode prog_22_method_10_code 1 = .ok (.istore_n 3, 1) := by decide +kernel
theorem d10_2 : decode prog_22_method_10_code 2 = .ok (.iload_n 3, 1) := by decide +kernel
theorem d10_3 : decode prog_22_method_10_code 3 = .ok (.aload_n 0, 1) := by decide +kernel
theorem d10_4 : decode prog_22_method_10_code 4 = .ok (.getfield 16, 3) := by decide +kernel
theorem d10_7 : decode prog_22_method_10_code 7 = .ok (.if_icmp .ge 27, 3) := by decide +kernel
theorem d10_10 : decode prog_22_method_10_code 10 = .ok (.aload_n 0, 1) := by decide +kernel
theorem d10_11 : decode prog_22_method_10_code 11 = .ok (.getfield 13, 3) := by decide +kernel
theorem d10_14 : decode prog_22_method_10_code 14 = .ok (.iload_n 3, 1) := by decide +kernel
theorem d10_15 : decode prog_22_method_10_code 15 = .ok (.iaload, 1) := by decide +kernel
theorem d10_16 : decode prog_22_method_10_code 16 = .ok (.iload_n 1, 1) := by decide +kernel
theorem d10_17 : decode prog_22_method_10_code 17 = .ok (.if_icmp .ne 11, 3) := by decide +kernel
theorem d10_20 : decode prog_22_method_10_code 20 = .ok (.aload_n 0, 1) := by decide +kernel
theorem d10_21 : decode prog_22_method_10_code 21 = .ok (.getfield 13, 3) := by decide +kernel
theorem d10_24 : decode prog_22_method_10_code 24 = .ok (.iload_n 3, 1) := by decide +kernel
theorem d10_25 : decode prog_22_method_10_code 25 = .ok (.iload_n 2, 1) := by decide +kernel
theorem d10_26 : decode prog_22_method_10_code 26 = .ok (.iastore, 1) := by decide +kernel
theorem d10_27 : decode prog_22_method_10_code 27 = .ok (.return_, 1) := by decide +kernel
theorem d10_28 : decode prog_22_method_10_code 28 = .ok (.iinc 3 1, 3) := by decide +kernel
theorem d10_31 : decode prog_22_method_10_code 31 = .ok (.goto (-29), 3) := by decide +kernel
theorem d10_34 : decode prog_22_method_10_code 34 = .ok (.return_, 1) := by decide +kernel
theorem d11_0 : decode prog_22_method_2_code 0 = .ok (.aload_n 0, 1) := by decide +kernel
theorem d11_1 : decode prog_22_method_2_code 1 = .ok (.getfield 16, 3) := by decide +kernel
theorem d11_4 : decode prog_22_method_2_code 4 = .ok (.ireturn, 1) := by decide +kernel
theorem d12_0 : decode prog_22_method_3_code 0 = .ok (.aload_n 0, 1) := by decide +kernel
theorem d12_1 : decode prog_22_method_3_code 1 = .ok (.getfield 13, 3) := by decide +kernel
theorem d12_4 : decode prog_22_method_3_code 4 = .ok (.iload_n 1, 1) := by decide +kernel
theorem d12_5 : decode prog_22_method_3_code 5 = .ok (.iaload, 1) := by decide +kernel
theorem d12_6 : decode prog_22_method_3_code 6 = .ok (.ireturn, 1) := by decide +kernel
theorem pd0 : parseMethodDescriptor "()V" = some ⟨[], none⟩ := by decide +kernel
theorem pd1 : parseMethodDescriptor "(I)V" = some ⟨[.int], none⟩ := by decide +kernel
theorem pd2 : parseMethodDescriptor "(II)V" = some ⟨[.int, .int], none⟩ := by decide +kernel
theorem pd3 : parseMethodDescriptor "()I" = some ⟨[], some .int⟩ := by decide +kernel
theorem pd4 : parseMethodDescriptor "(II)I" = some ⟨[.int, .int], some .int⟩ := by decide +kernel
theorem pd5 : parseMethodDescriptor "([II)[I" = some ⟨[(.array .int), .int], some (.array .int)⟩ := by decide +kernel
theorem pd6 : parseMethodDescriptor "(I)I" = some ⟨[.int], some .int⟩ := by decide +kernel
theorem pn0 : plainName "com/example/blackheight/blackheight/node/TrailReplacePinLaw" = true := by first | (simp [plainName, overriddenIn]; done) | decide +kernel
theorem pn1 : plainName "com/example/blackheight/blackheight/node/Trail" = true := by first | (simp [plainName, overriddenIn]; done) | decide +kernel
theorem pn10 : plainName "com/example/blackheight/blackheight/node/Trail" = true := by first | (simp [plainName, overriddenIn]; done) | decide +kernel
theorem pn11 : plainName "com/example/blackheight/blackheight/node/Trail" = true := by first | (simp [plainName, overriddenIn]; done) | decide +kernel
theorem pn12 : plainName "com/example/blackheight/blackheight/node/Trail" = true := by first | (simp [plainName, overriddenIn]; done) | decide +kernel
theorem pn3 : plainName "com/example/blackheight/blackheight/node/Trail" = true := by first | (simp [plainName, overriddenIn]; done) | decide +kernel
theorem pn4 : plainName "com/example/blackheight/blackheight/node/Trail" = true := by first | (simp [plainName, overriddenIn]; done) | decide +kernel
theorem pn6 : plainName "java/util/Arrays" = true := by first | (simp [plainName, overriddenIn]; done) | decide +kernel
theorem pn8 : plainName "com/example/blackheight/blackheight/node/Trail" = true := by first | (simp [plainName, overriddenIn]; done) | decide +kernel
theorem pn9 : plainName "com/example/blackheight/blackheight/node/Trail" = true := by first | (simp [plainName, overriddenIn]; done) | decide +kernel
def World (Z : State) (w_Trail_NO_ROOM : Addr) (k_w_Trail_NO_ROOM : ClassId) : Prop :=
  Sta Z Z.heap "com/example/blackheight/blackheight/node/Trail" "NO_ROOM" "[I" (.ref w_Trail_NO_ROOM) ∧
  Arv Z Z.heap w_Trail_NO_ROOM k_w_Trail_NO_ROOM .int (0 : Int32) [] (.int 0)
abbrev Bg (Z : State) (a0 : Array Value) (w_Trail_NO_ROOM : Addr) (k_w_Trail_NO_ROOM : ClassId) : Prop := (∀ d ∈ tables_1, d.before a0 Z = true) ∧ World Z w_Trail_NO_ROOM k_w_Trail_NO_ROOM
abbrev yM12 : MethodName := ⟨"com/example/blackheight/blackheight/node/Trail", "entry", "(I)I"⟩
abbrev yM3 : MethodName := ⟨"com/example/blackheight/blackheight/node/Trail", "push", "(I)V"⟩
abbrev yM8 : MethodName := ⟨"com/example/blackheight/blackheight/node/Trail", "changeAt", "(I)V"⟩
abbrev yM4 : MethodName := ⟨"com/example/blackheight/blackheight/node/Trail", "grow", "()V"⟩
abbrev yM6 : MethodName := ⟨"java/util/Arrays", "copyOf", "([II)[I"⟩
abbrev yM7 : MethodName := ⟨"java/lang/Math", "min", "(II)I"⟩
abbrev yM5 : MethodName := ⟨"java/lang/Math", "max", "(II)I"⟩
abbrev yM11 : MethodName := ⟨"com/example/blackheight/blackheight/node/Trail", "depth", "()I"⟩
abbrev yM10 : MethodName := ⟨"com/example/blackheight/blackheight/node/Trail", "replace", "(II)V"⟩
abbrev yM9 : MethodName := ⟨"com/example/blackheight/blackheight/node/Trail", "keep", "(I)V"⟩
abbrev yM1 : MethodName := ⟨"com/example/blackheight/blackheight/node/Trail", "<init>", "()V"⟩
abbrev cs0 : String := "com/example/blackheight/blackheight/node/Trail"
theorem extT {a b c : Heap} (x : Ext a b) (y : Ext b c) : Ext a c := ⟨Nat.le_trans x.1 y.1, fun q r s => y.2 q r (x.2 q r s)⟩
theorem extR (a : Heap) : Ext a a := ⟨Nat.le_refl _, fun _ _ q => q⟩
theorem extK {h0 h h' : Heap} {ws : List Addr} (O : Ext h0 h) (K : Keep h h' ws) (q : ∀ x ∈ ws, h0.size ≤ x) : Ext h0 h' := ⟨Nat.le_trans O.1 K.1, fun x c r => K.2.1 x c (O.2 x c r) fun z => absurd (Array.getElem?_eq_some_iff.mp r).1 (Nat.not_lt.mpr (q x z))⟩
theorem extW {h0 h h' : Heap} {a : Addr} {sl : Nat} {v : Value} (O : Ext h0 h) (W : Wr h h' a sl v) (q : h0.size ≤ a) : Ext h0 h' := extK O (Keep.of_wr W) (allS q all0)
theorem leW {h0 h h' : Heap} {a : Addr} {sl : Nat} {v : Value} (q : h0.size ≤ h.size) (W : Wr h h' a sl v) : h0.size ≤ h'.size := by rw [W.size]; exact q
theorem neB {a b : Addr} {h : Heap} (x : a < h.size) (y : h.size ≤ b) : a ≠ b := Nat.ne_of_lt (Nat.lt_of_lt_of_le x y)
theorem stoV {Z : State} {h : Heap} {a y : Addr} {k : ClassId} {ty : FieldType} {n : Int32} {vs : List Value} {d : Value} {C : String} (A : Arv Z h a k ty n vs d) (O : Ovr Z k C) (I : Ins Z h y C true) : Sto Z h a (.ref y) := by
  obtain ⟨c, Ar, q, -⟩ := A
  exact Sto.ofV Ar q O I
theorem m3 (k : Int32) : (k &&& (3 : Int32)) = (0 : Int32) ∨ (k &&& (3 : Int32)) = (1 : Int32) ∨ (k &&& (3 : Int32)) = (2 : Int32) ∨ (k &&& (3 : Int32)) = (3 : Int32) := by
  have h1 := c_mask k (3 : Int32) 2 (by decide) (by decide)
  simp only [← Int32.toInt_inj]
  have e0 : (0 : Int32).toInt = 0 := by decide
  have e1 : (1 : Int32).toInt = 1 := by decide
  have e2 : (2 : Int32).toInt = 2 := by decide
  have e3 : (3 : Int32).toInt = 3 := by decide
  omega
theorem mm3_1 (k : Int32) : ((k &&& (3 : Int32)) % (1 : Int32)) = (0 : Int32) := by
  rcases m3 k with h | h | h | h <;> rw [h] <;> decide
theorem mm3_2 (k : Int32) : ((k &&& (3 : Int32)) % (2 : Int32)) = (0 : Int32) ∨ ((k &&& (3 : Int32)) % (2 : Int32)) = (1 : Int32) := by
  rcases m3 k with h | h | h | h <;> rw [h] <;> decide
theorem mm3_3 (k : Int32) : ((k &&& (3 : Int32)) % (3 : Int32)) = (0 : Int32) ∨ ((k &&& (3 : Int32)) % (3 : Int32)) = (1 : Int32) ∨ ((k &&& (3 : Int32)) % (3 : Int32)) = (2 : Int32) := by
  rcases m3 k with h | h | h | h <;> rw [h] <;> decide
theorem mm3_4 (k : Int32) : ((k &&& (3 : Int32)) % (4 : Int32)) = (0 : Int32) ∨ ((k &&& (3 : Int32)) % (4 : Int32)) = (1 : Int32) ∨ ((k &&& (3 : Int32)) % (4 : Int32)) = (2 : Int32) ∨ ((k &&& (3 : Int32)) % (4 : Int32)) = (3 : Int32) := by
  rcases m3 k with h | h | h | h <;> rw [h] <;> decide
theorem sn0 {Z : State} {a0 : Array Value} (hw : ∀ d ∈ tables_1, d.before a0 Z = true) : Jvm.RoadKit.slotOf Z "com/example/blackheight/blackheight/node/Trail" "depth" "I" ≠ Jvm.RoadKit.slotOf Z "com/example/blackheight/blackheight/node/Trail" "entries" "[I" := slot_ne (Or.inl (hw _ wd19)) (Or.inl (hw _ wd12)) (by decide) (t := .int) (t' := (.array .int)) (by decide) (by decide)
theorem sn1 {Z : State} {a0 : Array Value} (hw : ∀ d ∈ tables_1, d.before a0 Z = true) : Jvm.RoadKit.slotOf Z "com/example/blackheight/blackheight/node/Trail" "unchanged" "B" ≠ Jvm.RoadKit.slotOf Z "com/example/blackheight/blackheight/node/Trail" "entries" "[I" := slot_ne (Or.inl (hw _ wd45)) (Or.inl (hw _ wd12)) (by decide) (t := .byte) (t' := (.array .int)) (by decide) (by decide)
theorem sn2 {Z : State} {a0 : Array Value} (hw : ∀ d ∈ tables_1, d.before a0 Z = true) : Jvm.RoadKit.slotOf Z "com/example/blackheight/blackheight/node/Trail" "entries" "[I" ≠ Jvm.RoadKit.slotOf Z "com/example/blackheight/blackheight/node/Trail" "depth" "I" := slot_ne (Or.inl (hw _ wd12)) (Or.inl (hw _ wd19)) (by decide) (t := (.array .int)) (t' := .int) (by decide) (by decide)
theorem sn3 {Z : State} {a0 : Array Value} (hw : ∀ d ∈ tables_1, d.before a0 Z = true) : Jvm.RoadKit.slotOf Z "com/example/blackheight/blackheight/node/Trail" "unchanged" "B" ≠ Jvm.RoadKit.slotOf Z "com/example/blackheight/blackheight/node/Trail" "depth" "I" := slot_ne (Or.inl (hw _ wd45)) (Or.inl (hw _ wd19)) (by decide) (t := .byte) (t' := .int) (by decide) (by decide)
section Walk
variable {l : Launch} {Z : State} {a0 : Array Value} {w_Trail_NO_ROOM : Addr} {k_w_Trail_NO_ROOM : ClassId}
theorem rm17_1 (B : Bg Z a0 w_Trail_NO_ROOM k_w_Trail_NO_ROOM) (ro0 : Addr) (h : Heap) (O : Ext Z.heap h) (q8 : Exa Z h ro0 cs0) (q9 : Fld Z h ro0 cs0 "entries" "[I" .null) (q10 : Z.heap.size ≤ ro0) (q12 : Fld Z h ro0 cs0 "depth" "I" (.int 0)) (q14 : Fld Z h ro0 cs0 "unchanged" "B" (.int 0)) :
    Con l Z yM1 prog_22_method_1_code 1 none ({ frames := 1, cells := 0, slots := 0, locals := 12 } : Room) #[(.ref ro0)] h (fun v h' L => v = none ∧ Fr Z.heap.size L ∧ Keep h h' [ro0] ∧ Exa Z h' ro0 cs0 ∧ Fld Z h' ro0 cs0 "entries" "[I" (.ref w_Trail_NO_ROOM) ∧ Fld Z h' ro0 cs0 "depth" "I" (.int 0) ∧ Fld Z h' ro0 cs0 "unchanged" "B" (.int 0)) := by
  have hw := B.1
  obtain ⟨S_w_Trail_NO_ROOM, V_w_Trail_NO_ROOM⟩ := B.2
  refine Con.of (plainFor_of_name pn1) (Ls := #[vR ro0]) (fun _ => rfl) ?_
  intro p e s m below meth c T0 X0 H hml hZ hown hnm hret hlk e0
  have N0 := Fr.nil Z.heap.size
  refine gAloadN X0 H d1_0 rfl rfl 1 rfl ?_
  refine gInitO X0 H hZ hown (hw _ wd6) (hw _ wd7) (hw _ wd8) e0 hml rfl (V := 0) (Nat.le_of_eq rfl) (by decide) (by decide) d1_1 4 rfl ?_
  intro T5 X5 e5
  refine gAloadN X5 H d1_4 rfl rfl 5 rfl ?_
  refine gGetS X5 H hZ hown (hw _ wd9) e5 (S_w_Trail_NO_ROOM.ext O) d1_5 8 rfl ?_
  intro T6 X6 e6
  refine gPutF X6 H hZ hown (hw _ wd11) Via.refl e6 q9 q8 (Or.inl (hw _ wd12)) (hw _ wd1) (ty := (.array .int)) (by decide) (v' := (.ref w_Trail_NO_ROOM)) rfl rfl d1_8 11 rfl ?_
  intro T7 h7 X7 e7 W7 F7
  have O7 := extW O W7 q10
  have N7 := Fr.snoc X7 N0 q10
  have c11 := (q8.wr W7)
  have c13 := (q12.other W7 (Or.inr (sn0 hw)))
  have c15 := (q14.other W7 (Or.inr (sn1 hw)))
  have K_16 := (Keep.refl h [ro0]).wr W7 (Or.inl (List.mem_of_getElem? (i := 0) rfl))
  exact gRetV X7 H hlk hret d1_11 e7 ⟨rfl, N7, K_16, c11, F7, c13, c15⟩
theorem rm29_9 (B : Bg Z a0 w_Trail_NO_ROOM k_w_Trail_NO_ROOM) (ro0 : Addr) (h : Heap) (O : Ext Z.heap h) (q20 : Exa Z h ro0 cs0) (q21 : Fld Z h ro0 cs0 "depth" "I" (.int 0)) (q22 : Z.heap.size ≤ ro0) (q24 : Fld Z h ro0 cs0 "entries" "[I" (.ref w_Trail_NO_ROOM)) (q26 : Fld Z h ro0 cs0 "unchanged" "B" (.int 0)) :
    Con l Z yM9 prog_22_method_8_code 2 none ({ frames := 0, cells := 0, slots := 0, locals := 0 } : Room) #[(.ref ro0), (.int 0)] h (fun v h' L => v = none ∧ Fr Z.heap.size L ∧ Keep h h' [ro0] ∧ Exa Z h' ro0 cs0 ∧ Fld Z h' ro0 cs0 "depth" "I" (.int 0) ∧ Fld Z h' ro0 cs0 "entries" "[I" (.ref w_Trail_NO_ROOM) ∧ Fld Z h' ro0 cs0 "unchanged" "B" (.int 0)) := by
  have hw := B.1
  refine Con.of (plainFor_of_name pn9) (Ls := #[vR ro0, vI 0]) (fun _ => rfl) ?_
  intro p e s m below meth c T0 X0 H hml hZ hown hnm hret hlk e0
  have N0 := Fr.nil Z.heap.size
  refine gAloadN X0 H d9_0 rfl rfl 1 rfl ?_
  refine gIloadN X0 H d9_1 rfl 2 rfl ?_
  refine gPutF X0 H hZ hown (hw _ wd18) Via.refl e0 q21 q20 (Or.inl (hw _ wd19)) (hw _ wd1) (ty := .int) (by decide) (v' := (.int 0)) rfl rfl d9_2 5 rfl ?_
  intro T19 h19 X19 e19 W19 F19
  have O19 := extW O W19 q22
  have N19 := Fr.snoc X19 N0 q22
  have c23 := (q20.wr W19)
  have c25 := (q24.other W19 (Or.inr (sn2 hw)))
  have c27 := (q26.other W19 (Or.inr (sn3 hw)))
  have K_28 := (Keep.refl h [ro0]).wr W19 (Or.inl (List.mem_of_getElem? (i := 0) rfl))
  exact gRetV X19 H hlk hret d9_5 e19 ⟨rfl, N19, K_28, c23, F19, c25, c27⟩
theorem rm33_10 (B : Bg Z a0 w_Trail_NO_ROOM k_w_Trail_NO_ROOM) (ro0 : Addr) (vi1 vi2 : Int32) (h : Heap) (O : Ext Z.heap h) (q31 : Fld Z h ro0 cs0 "depth" "I" (.int 0)) :
    Con l Z yM10 prog_22_method_10_code 4 none ({ frames := 0, cells := 0, slots := 0, locals := 0 } : Room) #[(.ref ro0), (.int vi1), (.int vi2)] h (fun v h' L => v = none ∧ h' = h ∧ L = []) := by
  have hw := B.1
  refine Con.of (plainFor_of_name pn10) (Ls := #[vR ro0, vI vi1, vI vi2, .unset]) (fun _ => rfl) ?_
  intro p e s m below meth c T0 X0 H hml hZ hown hnm hret hlk e0
  refine gIconst X0 H d10_0 (z := 0) rfl 1 rfl ?_
  refine gIstoreN X0 H d10_1 (Ls' := #[vR ro0, vI vi1, vI vi2, vI 0]) rfl 2 rfl ?_
  refine gIloadN X0 H d10_2 rfl 3 rfl ?_
  refine gAloadN X0 H d10_3 rfl rfl 4 rfl ?_
  refine gGetF X0 H hZ hown (hw _ wd18) Via.refl e0 q31 d10_4 7 rfl ?_
  intro T32 X32 e32
  refine gCmpY X32 H d10_7 (by decide) (by decide) 34 rfl ?_
  exact gRetV X32 H hlk hret d10_34 e32 ⟨rfl, rfl, rfl⟩
theorem rm37_11 (B : Bg Z a0 w_Trail_NO_ROOM k_w_Trail_NO_ROOM) (ro0 : Addr) (h : Heap) (O : Ext Z.heap h) (q35 : Fld Z h ro0 cs0 "depth" "I" (.int 0)) :
    Con l Z yM11 prog_22_method_2_code 1 (some .int) ({ frames := 0, cells := 0, slots := 0, locals := 0 } : Room) #[(.ref ro0)] h (fun v h' L => v = some (.int 0) ∧ h' = h ∧ L = []) := by
  have hw := B.1
  refine Con.of (plainFor_of_name pn11) (Ls := #[vR ro0]) (fun _ => rfl) ?_
  intro p e s m below meth c T0 X0 H hml hZ hown hnm hret hlk e0
  refine gAloadN X0 H d11_0 rfl rfl 1 rfl ?_
  refine gGetF X0 H hZ hown (hw _ wd18) Via.refl e0 q35 d11_1 4 rfl ?_
  intro T36 X36 e36
  exact gRetI X36 H hlk hret d11_4 e36 ⟨rfl, rfl, rfl⟩
theorem cut3_79 (B : Bg Z a0 w_Trail_NO_ROOM k_w_Trail_NO_ROOM) (p0 : Int32) (p1 : Int32) (p2 : Int32) (p3 : Int32) (p4 : Int32) (p5 : Int32) (u8 : Int32) (u9 : Int32) {p : Program} {e : Env} {s : State} {m : MethodId} {below : List Frame} {meth : Method} {c : Code} {T0 : State} (X0 : Stand p l e room_1 s m #[(.int p0), (.int p1), (.int p2), (.int p3), (.int p4), (.int p5)] below meth c T0 [] 0 0) (H : p.tables.exec = Jvm.exec ∧ c.code = code) (hml : c.maxLocals = maxLocals) (hZ : Z.Warmed39 s.vm) (hown : s.vm.findClass x.cls = some m.cls) (hnm : meth.name = x.name) (hret : meth.sig.returnType = ret) (hlk : meth.locks = false) (e0 : T0.heap = Z.heap) :
    Go p e below (EndK s below (fun v h' L => v = some (.int 1) ∧ Fr Z.heap.size L) room_1.cells room_1.slots) (T0.setTop (mkF m 79 #[vI p0, vI p1, vI p2, vI p3, vI p4, vI p5, vI 0, vI 0, vI u8, vI u9, .unset, .unset, .unset] [])) := by
  have hw := B.1
  obtain ⟨S_w_Trail_NO_ROOM, V_w_Trail_NO_ROOM⟩ := B.2
  have O0 := extR Z.heap
  have M0 := Nat.le_refl Z.heap.size
  have N0 := Fr.nil Z.heap.size
  refine gNew X0 H hZ hown (hw _ wd0) (hw _ wd1) (hw _ wd2) e0 (by decide) (by decide) at_79 82 rfl ?_
  intro T4 h4 b4 X4 e4 z4 E4 A4 D4
  have G_b4 := Nat.le_trans O0.1 (Nat.le_of_eq z4)
  have sz_b4 := Nat.le_trans M0 (Nat.le_of_eq z4)
  have O4 := extT O0 E4
  have F4_entries : Fld Z h4 b4 cs0 "entries" "[I" .null := D4 (Or.inl (hw _ wd12)) (ty := (.array .int)) (by decide)
  have F4_depth : Fld Z h4 b4 cs0 "depth" "I" (.int 0) := D4 (Or.inl (hw _ wd19)) (ty := .int) (by decide)
  have F4_unchanged : Fld Z h4 b4 cs0 "unchanged" "B" (.int 0) := D4 (Or.inl (hw _ wd45)) (ty := .byte) (by decide)
  refine gDup X4 H at_82 rfl 83 rfl ?_
  refine gSpecial X4 H hZ hown rfl rfl (hw _ wd3) (hw _ wd4) (by decide) (hw _ wd5) (hw _ wd2) (rm17_1 B b4 _ O4 A4 F4_entries G_b4 F4_depth F4_unchanged) e4 hml rfl pd0 rfl (W := 1) (argsL := []) (rest := [(.ref b4)]) rfl rfl at_83 86 rfl ?_
  intro v18 T18 L18 hq18 X18
  obtain ⟨rfl, N18q, K18, f18_0, f18_1, f18_2, f18_3⟩ := hq18
  have O18 := extK O4 K18 (allS G_b4 all0)
  have N18 := Fr.app N0 N18q
  show Go _ _ _ _ (State.setTop _ (mkF _ 86 _ [(.ref b4)]))
  refine gAstore X18 H at_86 rfl (Ls' := #[vI p0, vI p1, vI p2, vI p3, vI p4, vI p5, vI 0, vI 0, vI u8, vI u9, vR b4, .unset, .unset]) rfl 88 rfl ?_
  refine gIload X18 H at_88 rfl 90 rfl ?_
  refine gIfY X18 H at_90 (by decide) (by decide) 99 rfl ?_
  refine gIload X18 H at_99 rfl 101 rfl ?_
  refine gIconst X18 H at_101 (z := 1) rfl 102 rfl ?_
  refine gCmpY X18 H at_102 (by decide) (by decide) 111 rfl ?_
  refine gIload X18 H at_111 rfl 113 rfl ?_
  refine gIconst X18 H at_113 (z := 2) rfl 114 rfl ?_
  refine gCmpY X18 H at_114 (by decide) (by decide) 123 rfl ?_
  refine gAload X18 H at_123 rfl rfl 125 rfl ?_
  refine gIload X18 H at_125 rfl 127 rfl ?_
  refine gVirt X18 H hZ hown (hw _ wd46) (hw _ wd47) (hw _ wd49) (hw _ wd48) (by decide) f18_0 (hw _ wd50) (hw _ wd2) (rm29_9 B b4 _ O18 f18_0 f18_2 G_b4 f18_1 f18_3) rfl hml rfl pd1 rfl (W := 0) (argsL := [(.int 0)]) (rest := []) rfl rfl at_127 130 rfl ?_
  intro v30 T30 L30 hq30 X30
  obtain ⟨rfl, N30q, K30, f30_0, f30_1, f30_2, f30_3⟩ := hq30
  have O30 := extK O18 K30 (allS G_b4 all0)
  have N30 := Fr.app N18 N30q
  show Go _ _ _ _ (State.setTop _ (mkF _ 130 _ []))
  refine gAload X30 H at_130 rfl rfl 132 rfl ?_
  refine gIload X30 H at_132 rfl 134 rfl ?_
  refine gIloadN X30 H at_134 rfl 135 rfl ?_
  refine gVirt X30 H hZ hown (hw _ wd51) (hw _ wd52) (hw _ wd54) (hw _ wd53) (by decide) f30_0 (hw _ wd55) (hw _ wd2) (rm33_10 B b4 u9 p3 _ O30 f30_1) rfl hml rfl pd2 rfl (W := 0) (argsL := [(.int u9), (.int p3)]) (rest := []) rfl rfl at_135 138 rfl ?_
  intro v34 T34 L34 hq34 X34
  obtain ⟨rfl, e34, rfl⟩ := hq34
  have N34 := Fr.app N30 (Fr.nil _)
  show Go _ _ _ _ (State.setTop _ (mkF _ 138 _ []))
  refine gIload X34 H at_138 rfl 140 rfl ?_
  refine gIfY X34 H at_140 (by decide) (by decide) 155 rfl ?_
  refine gIload X34 H at_155 rfl 157 rfl ?_
  refine gIconst X34 H at_157 (z := 1) rfl 158 rfl ?_
  refine gCmpY X34 H at_158 (by decide) (by decide) 173 rfl ?_
  refine gIload X34 H at_173 rfl 175 rfl ?_
  refine gIconst X34 H at_175 (z := 2) rfl 176 rfl ?_
  refine gCmpY X34 H at_176 (by decide) (by decide) 191 rfl ?_
  refine gIconst X34 H at_191 (z := (-1)) rfl 192 rfl ?_
  refine gIstore X34 H at_192 (Ls' := #[vI p0, vI p1, vI p2, vI p3, vI p4, vI p5, vI 0, vI 0, vI u8, vI u9, vR b4, vI (-1), .unset]) rfl 194 rfl ?_
  refine gAload X34 H at_194 rfl rfl 196 rfl ?_
  refine gVirt X34 H hZ hown (hw _ wd56) (hw _ wd57) (hw _ wd59) (hw _ wd58) (by decide) f30_0 (hw _ wd60) (hw _ wd2) (rm37_11 B b4 _ O30 f30_1) e34 hml rfl pd3 rfl (W := 0) (argsL := []) (rest := []) rfl rfl at_196 199 rfl ?_
  intro v38 T38 L38 hq38 X38
  obtain ⟨rfl, e38, rfl⟩ := hq38
  have N38 := Fr.app N34 (Fr.nil _)
  show Go _ _ _ _ (State.setTop _ (mkF _ 199 _ [(.int 0)]))
  refine gIload X38 H at_199 rfl 201 rfl ?_
  refine gCmpN X38 H at_201 (by decide) 204 rfl ?_
  refine gIconst X38 H at_204 (z := 1) rfl 205 rfl ?_
  refine gGoto X38 H at_205 (by decide) 209 rfl ?_
  refine gIstore X38 H at_209 (Ls' := #[vI p0, vI p1, vI p2, vI p3, vI p4, vI p5, vI 0, vI 0, vI u8, vI u9, vR b4, vI (-1), vI 1]) rfl 211 rfl ?_
  refine gIload X38 H at_211 rfl 213 rfl ?_
  refine gIfY X38 H at_213 (by decide) (by decide) 247 rfl ?_
  refine gIload X38 H at_247 rfl 249 rfl ?_
  refine gIconst X38 H at_249 (z := 1) rfl 250 rfl ?_
  refine gCmpY X38 H at_250 (by decide) (by decide) 285 rfl ?_
  refine gIload X38 H at_285 rfl 287 rfl ?_
  refine gIconst X38 H at_287 (z := 2) rfl 288 rfl ?_
  refine gCmpY X38 H at_288 (by decide) (by decide) 323 rfl ?_
  refine gIload X38 H at_323 rfl 325 rfl ?_
  exact gRetN X38 H hlk hret (t := .boolean) (by simp) at_325 e38 ⟨rfl, N38⟩
theorem lawAll_0 (B : Bg Z a0 w_Trail_NO_ROOM k_w_Trail_NO_ROOM) (p0 : Int32) (p1 : Int32) (p2 : Int32) (p3 : Int32) (p4 : Int32) (p5 : Int32) (ha0 : (p5 &&& (3 : Int32)) = (0 : Int32)) :
    Con l Z x code maxLocals ret room_1 #[(.int p0), (.int p1), (.int p2), (.int p3), (.int p4), (.int p5)] Z.heap (fun v h' L => v = some (.int 1) ∧ Fr Z.heap.size L) := by
  have hw := B.1
  obtain ⟨S_w_Trail_NO_ROOM, V_w_Trail_NO_ROOM⟩ := B.2
  refine Con.of (plainFor_of_name pn0) (Ls := #[vI p0, vI p1, vI p2, vI p3, vI p4, vI p5, .unset, .unset, .unset, .unset, .unset, .unset, .unset]) (fun _ => rfl) ?_
  intro p e s m below meth c T0 X0 H hml hZ hown hnm hret hlk e0
  have O0 := extR Z.heap
  have M0 := Nat.le_refl Z.heap.size
  have N0 := Fr.nil Z.heap.size
  refine gIload X0 H at_0 rfl 2 rfl ?_
  refine gIconst X0 H at_2 (z := 3) rfl 3 rfl ?_
  refine g_iand X0 H at_3 (z := 0) ha0 4 rfl ?_
  refine gIstore X0 H at_4 (Ls' := #[vI p0, vI p1, vI p2, vI p3, vI p4, vI p5, vI 0, .unset, .unset, .unset, .unset, .unset, .unset]) rfl 6 rfl ?_
  refine gIload X0 H at_6 rfl 8 rfl ?_
  refine gIconst X0 H at_8 (z := 2) rfl 9 rfl ?_
  refine g_iushr X0 H at_9 (z := ((p5.toUInt32 >>> ((2 : Int32) &&& 31).toUInt32).toInt32)) rfl 10 rfl ?_
  refine gIconst X0 H at_10 (z := 3) rfl 11 rfl ?_
  refine g_iand X0 H at_11 (z := (((p5.toUInt32 >>> ((2 : Int32) &&& 31).toUInt32).toInt32) &&& (3 : Int32))) rfl 12 rfl ?_
  refine gIload X0 H at_12 rfl 14 rfl ?_
  refine gIconst X0 H at_14 (z := 1) rfl 15 rfl ?_
  refine g_iadd X0 H at_15 (z := 1) (by decide) 16 rfl ?_
  rcases mm3_1 ((p5.toUInt32 >>> ((2 : Int32) &&& 31).toUInt32).toInt32) with hn1
  · refine g_irem X0 H at_16 (by decide) (z := 0) hn1 17 rfl ?_
    refine gIstore X0 H at_17 (Ls' := #[vI p0, vI p1, vI p2, vI p3, vI p4, vI p5, vI 0, vI 0, .unset, .unset, .unset, .unset, .unset]) rfl 19 rfl ?_
    refine gIload X0 H at_19 rfl 21 rfl ?_
    refine gIconst X0 H at_21 (z := 4) rfl 22 rfl ?_
    refine g_iushr X0 H at_22 (z := ((p5.toUInt32 >>> ((4 : Int32) &&& 31).toUInt32).toInt32)) rfl 23 rfl ?_
    refine gBipush X0 H at_23 (z := 7) rfl 25 rfl ?_
    refine g_iand X0 H at_25 (z := (((p5.toUInt32 >>> ((4 : Int32) &&& 31).toUInt32).toInt32) &&& (7 : Int32))) rfl 26 rfl ?_
    refine gIstore X0 H at_26 (Ls' := #[vI p0, vI p1, vI p2, vI p3, vI p4, vI p5, vI 0, vI 0, vI (((p5.toUInt32 >>> ((4 : Int32) &&& 31).toUInt32).toInt32) &&& (7 : Int32)), .unset, .unset, .unset, .unset]) rfl 28 rfl ?_
    refine gIload X0 H at_28 rfl 30 rfl ?_
    by_cases hc2 : (((p5.toUInt32 >>> ((4 : Int32) &&& 31).toUInt32).toInt32) &&& (7 : Int32)) = (0 : Int32)
    · refine gIfN X0 H at_30 ((if0 _ _).trans (teq hc2).2) 33 rfl ?_
      refine gIloadN X0 H at_33 rfl 34 rfl ?_
      refine gIstore X0 H at_34 (Ls' := #[vI p0, vI p1, vI p2, vI p3, vI p4, vI p5, vI 0, vI 0, vI (((p5.toUInt32 >>> ((4 : Int32) &&& 31).toUInt32).toInt32) &&& (7 : Int32)), vI p0, .unset, .unset, .unset]) rfl 36 rfl ?_
      refine gGoto X0 H at_36 (by decide) 79 rfl ?_
      exact cut3_79 B p0 p1 p2 p3 p4 p5 ((((p5.toUInt32 >>> ((4 : Int32) &&& 31).toUInt32).toInt32) &&& (7 : Int32))) p0 X0 H hml hZ hown hnm hret hlk e0
    · refine gIfY X0 H at_30 ((if0 _ _).trans (feq hc2).2) (by decide) 39 rfl ?_
      refine gIload X0 H at_39 rfl 41 rfl ?_
      refine gIconst X0 H at_41 (z := 1) rfl 42 rfl ?_
      by_cases hc39 : (((p5.toUInt32 >>> ((4 : Int32) &&& 31).toUInt32).toInt32) &&& (7 : Int32)) = (1 : Int32)
      · refine gCmpN X0 H at_42 (teq hc39).2 45 rfl ?_
        refine gIloadN X0 H at_45 rfl 46 rfl ?_
        refine gIstore X0 H at_46 (Ls' := #[vI p0, vI p1, vI p2, vI p3, vI p4, vI p5, vI 0, vI 0, vI (((p5.toUInt32 >>> ((4 : Int32) &&& 31).toUInt32).toInt32) &&& (7 : Int32)), vI p1, .unset, .unset, .unset]) rfl 48 rfl ?_
        refine gGoto X0 H at_48 (by decide) 79 rfl ?_
        exact cut3_79 B p0 p1 p2 p3 p4 p5 ((((p5.toUInt32 >>> ((4 : Int32) &&& 31).toUInt32).toInt32) &&& (7 : Int32))) p1 X0 H hml hZ hown hnm hret hlk e0
      · refine gCmpY X0 H at_42 (feq hc39).2 (by decide) 51 rfl ?_
        refine gIload X0 H at_51 rfl 53 rfl ?_
        refine gIconst X0 H at_53 (z := 2) rfl 54 rfl ?_
        by_cases hc40 : (((p5.toUInt32 >>> ((4 : Int32) &&& 31).toUInt32).toInt32) &&& (7 : Int32)) = (2 : Int32)
        · refine gCmpN X0 H at_54 (teq hc40).2 57 rfl ?_
          refine gIloadN X0 H at_57 rfl 58 rfl ?_
          refine gIstore X0 H at_58 (Ls' := #[vI p0, vI p1, vI p2, vI p3, vI p4, vI p5, vI 0, vI 0, vI (((p5.toUInt32 >>> ((4 : Int32) &&& 31).toUInt32).toInt32) &&& (7 : Int32)), vI p2, .unset, .unset, .unset]) rfl 60 rfl ?_
          refine gGoto X0 H at_60 (by decide) 79 rfl ?_
          exact cut3_79 B p0 p1 p2 p3 p4 p5 ((((p5.toUInt32 >>> ((4 : Int32) &&& 31).toUInt32).toInt32) &&& (7 : Int32))) p2 X0 H hml hZ hown hnm hret hlk e0
        · refine gCmpY X0 H at_54 (feq hc40).2 (by decide) 63 rfl ?_
          refine gIload X0 H at_63 rfl 65 rfl ?_
          refine gIconst X0 H at_65 (z := 3) rfl 66 rfl ?_
          by_cases hc41 : (((p5.toUInt32 >>> ((4 : Int32) &&& 31).toUInt32).toInt32) &&& (7 : Int32)) = (3 : Int32)
          · refine gCmpN X0 H at_66 (teq hc41).2 69 rfl ?_
            refine gIloadN X0 H at_69 rfl 70 rfl ?_
            refine gIstore X0 H at_70 (Ls' := #[vI p0, vI p1, vI p2, vI p3, vI p4, vI p5, vI 0, vI 0, vI (((p5.toUInt32 >>> ((4 : Int32) &&& 31).toUInt32).toInt32) &&& (7 : Int32)), vI p3, .unset, .unset, .unset]) rfl 72 rfl ?_
            refine gGoto X0 H at_72 (by decide) 79 rfl ?_
            exact cut3_79 B p0 p1 p2 p3 p4 p5 ((((p5.toUInt32 >>> ((4 : Int32) &&& 31).toUInt32).toInt32) &&& (7 : Int32))) p3 X0 H hml hZ hown hnm hret hlk e0
          · refine gCmpY X0 H at_66 (feq hc41).2 (by decide) 75 rfl ?_
            refine gIload X0 H at_75 rfl 77 rfl ?_
            refine gIstore X0 H at_77 (Ls' := #[vI p0, vI p1, vI p2, vI p3, vI p4, vI p5, vI 0, vI 0, vI (((p5.toUInt32 >>> ((4 : Int32) &&& 31).toUInt32).toInt32) &&& (7 : Int32)), vI p4, .unset, .unset, .unset]) rfl 79 rfl ?_
            exact cut3_79 B p0 p1 p2 p3 p4 p5 ((((p5.toUInt32 >>> ((4 : Int32) &&& 31).toUInt32).toInt32) &&& (7 : Int32))) p4 X0 H hml hZ hown hnm hret hlk e0
theorem rm57_5 (B : Bg Z a0 w_Trail_NO_ROOM k_w_Trail_NO_ROOM) (h : Heap) (O : Ext Z.heap h) :
    Con l Z yM5 jdk_29_method_65_code 2 (some .int) ({ frames := 0, cells := 0, slots := 0, locals := 0 } : Room) #[(.int 16), (.int 0)] h (fun v h' L => v = some (.int 16) ∧ h' = h ∧ L = []) := by
  refine Con.of (Jvm.Free.JP.mathPlain rfl (by decide +kernel)) (Ls := #[vI 16, vI 0]) (fun _ => rfl) ?_
  intro p e s m below meth c T0 X0 H hml hZ hown hnm hret hlk e0
  refine gIloadN X0 H d5_0 rfl 1 rfl ?_
  refine gIloadN X0 H d5_1 rfl 2 rfl ?_
  refine gCmpN X0 H d5_2 (by decide) 5 rfl ?_
  refine gIloadN X0 H d5_5 rfl 6 rfl ?_
  refine gGoto X0 H d5_6 (by decide) 10 rfl ?_
  exact gRetI X0 H hlk hret d5_10 e0 ⟨rfl, rfl, rfl⟩
theorem rm62_7 (B : Bg Z a0 w_Trail_NO_ROOM k_w_Trail_NO_ROOM) (h : Heap) (O : Ext Z.heap h) :
    Con l Z yM7 jdk_29_method_69_code 2 (some .int) ({ frames := 0, cells := 0, slots := 0, locals := 0 } : Room) #[(.int 0), (.int 16)] h (fun v h' L => v = some (.int 0) ∧ h' = h ∧ L = []) := by
  refine Con.of (Jvm.Free.JP.mathPlain rfl (by decide +kernel)) (Ls := #[vI 0, vI 16]) (fun _ => rfl) ?_
  intro p e s m below meth c T0 X0 H hml hZ hown hnm hret hlk e0
  refine gIloadN X0 H d7_0 rfl 1 rfl ?_
  refine gIloadN X0 H d7_1 rfl 2 rfl ?_
  refine gCmpN X0 H d7_2 (by decide) 5 rfl ?_
  refine gIloadN X0 H d7_5 rfl 6 rfl ?_
  refine gGoto X0 H d7_6 (by decide) 10 rfl ?_
  exact gRetI X0 H hlk hret d7_10 e0 ⟨rfl, rfl, rfl⟩
theorem rm67_6 (B : Bg Z a0 w_Trail_NO_ROOM k_w_Trail_NO_ROOM) (h : Heap) (O : Ext Z.heap h) :
    Con l Z yM6 jdk_65_method_123_code 3 (some (.array .int)) ({ frames := 1, cells := 1, slots := 16, locals := 18 } : Room) #[(.ref w_Trail_NO_ROOM), (.int 16)] h (fun v h' L => ∃ (b60 : Addr) (k60 : ClassId), v = some (.ref b60) ∧ Fr Z.heap.size L ∧ Keep h h' [] ∧ h.size ≤ b60 ∧ Arv Z h' b60 k60 .int (16 : Int32) [(.int 0), (.int 0), (.int 0), (.int 0), (.int 0), (.int 0), (.int 0), (.int 0), (.int 0), (.int 0), (.int 0), (.int 0), (.int 0), (.int 0), (.int 0), (.int 0)] (.int 0)) := by
  have hw := B.1
  obtain ⟨S_w_Trail_NO_ROOM, V_w_Trail_NO_ROOM⟩ := B.2
  refine Con.of (plainFor_of_name pn6) (Ls := #[vR w_Trail_NO_ROOM, vI 16, .unset]) (fun _ => rfl) ?_
  intro p e s m below meth c T0 X0 H hml hZ hown hnm hret hlk e0
  have M0 := Nat.le_refl h.size
  have N0 := Fr.nil Z.heap.size
  refine gIloadN X0 H d6_0 rfl 1 rfl ?_
  refine gAloadN X0 H d6_1 rfl rfl 2 rfl ?_
  refine gLen X0 H hZ e0 (Arv.arl (V_w_Trail_NO_ROOM.ext O)) d6_2 3 rfl ?_
  refine gCmpY X0 H d6_3 (by decide) (by decide) 14 rfl ?_
  refine gIloadN X0 H d6_14 rfl 15 rfl ?_
  refine gNewP X0 H hZ (aty := .int) (hw _ wd32) e0 (by decide) (cap := 16) (by decide) (by decide) (vs := [(.int 0), (.int 0), (.int 0), (.int 0), (.int 0), (.int 0), (.int 0), (.int 0), (.int 0), (.int 0), (.int 0), (.int 0), (.int 0), (.int 0), (.int 0), (.int 0)]) rfl (by decide) (by decide) d6_15 17 rfl ?_
  intro T60 h60 b60 k60 X60 e60 z60 E60 V60
  have G_b60 := Nat.le_trans O.1 (Nat.le_of_eq z60)
  have sz_b60 := Nat.le_trans M0 (Nat.le_of_eq z60)
  have O60 := extT O E60
  refine gAstoreN X60 H d6_17 rfl (Ls' := #[vR w_Trail_NO_ROOM, vI 16, vR b60]) rfl 18 rfl ?_
  refine gAloadN X60 H d6_18 rfl rfl 19 rfl ?_
  refine gIconst X60 H d6_19 (z := 0) rfl 20 rfl ?_
  refine gAloadN X60 H d6_20 rfl rfl 21 rfl ?_
  refine gIconst X60 H d6_21 (z := 0) rfl 22 rfl ?_
  refine gAloadN X60 H d6_22 rfl rfl 23 rfl ?_
  refine gLen X60 H hZ e60 (Arv.arl (V_w_Trail_NO_ROOM.ext O60)) d6_23 24 rfl ?_
  refine gIloadN X60 H d6_24 rfl 25 rfl ?_
  refine gStatic X60 H hZ hown (hw _ wd33) (hw _ wd34) (by decide) (hw _ wd35) (hw _ wd26) (rm62_7 B _ O60) e60 hml rfl pd4 rfl (W := 4) (argsL := [(.int 0), (.int 16)]) (rest := [(.int 0), (.ref b60), (.int 0), (.ref w_Trail_NO_ROOM)]) rfl rfl d6_25 28 rfl ?_
  intro v63 T63 L63 hq63 X63
  obtain ⟨rfl, e63, rfl⟩ := hq63
  have N63 := Fr.app N0 (Fr.nil _)
  show Go _ _ _ _ (State.setTop _ (mkF _ 28 _ [(.int 0), (.int 0), (.ref b60), (.int 0), (.ref w_Trail_NO_ROOM)]))
  refine gCopy X63 H hZ hown (hw _ wd36) (hw _ wd39) (hw _ wd37) (hw _ wd38) e63 (V_w_Trail_NO_ROOM.ext O60) V60 (us := []) (Or.inl ⟨rfl, rfl⟩) (by decide) (by decide) (by decide) (by decide) (by decide) rfl (Nat.le_of_ble_eq_true rfl) N63 G_b60 hml rfl (V := 0) (by decide) (Nat.le_of_eq rfl) (by decide) (vd' := [(.int 0), (.int 0), (.int 0), (.int 0), (.int 0), (.int 0), (.int 0), (.int 0), (.int 0), (.int 0), (.int 0), (.int 0), (.int 0), (.int 0), (.int 0), (.int 0)]) rfl d6_28 31 rfl ?_
  intro T64 h64 L64 X64 e64 N64c K64 V64
  have O64 := extK O60 K64 (allS G_b60 all0)
  refine gAloadN X64 H d6_31 rfl rfl 32 rfl ?_
  have K_65 := (Keep.refl h []).ext E60
  have K_66 := K_65.trans K64 (allS (Or.inr sz_b60) all0)
  exact gRetA X64 H hlk hret rfl rfl rfl d6_32 e64 ⟨b60, k60, rfl, N64c, K_66, sz_b60, V64⟩
theorem rm82_4 (B : Bg Z a0 w_Trail_NO_ROOM k_w_Trail_NO_ROOM) (ro0 : Addr) (h : Heap) (O : Ext Z.heap h) (q53 : Fld Z h ro0 cs0 "entries" "[I" (.ref w_Trail_NO_ROOM)) (q70 : Exa Z h ro0 cs0) (q73 : Z.heap.size ≤ ro0) (q75 : Fld Z h ro0 cs0 "depth" "I" (.int 0)) (q77 : Fld Z h ro0 cs0 "unchanged" "B" (.int 0)) :
    Con l Z yM4 prog_22_method_16_code 1 none ({ frames := 2, cells := 1, slots := 16, locals := 33 } : Room) #[(.ref ro0)] h (fun v h' L => ∃ (b68_0 : Addr) (k68_0 : ClassId), v = none ∧ Fr Z.heap.size L ∧ Keep h h' [ro0] ∧ h.size ≤ b68_0 ∧ Fld Z h' ro0 cs0 "entries" "[I" (.ref b68_0) ∧ Arv Z h' b68_0 k68_0 .int (16 : Int32) [(.int 0), (.int 0), (.int 0), (.int 0), (.int 0), (.int 0), (.int 0), (.int 0), (.int 0), (.int 0), (.int 0), (.int 0), (.int 0), (.int 0), (.int 0), (.int 0)] (.int 0) ∧ Exa Z h' ro0 cs0 ∧ Fld Z h' ro0 cs0 "depth" "I" (.int 0) ∧ Fld Z h' ro0 cs0 "unchanged" "B" (.int 0)) := by
  have hw := B.1
  obtain ⟨S_w_Trail_NO_ROOM, V_w_Trail_NO_ROOM⟩ := B.2
  refine Con.of (plainFor_of_name pn4) (Ls := #[vR ro0]) (fun _ => rfl) ?_
  intro p e s m below meth c T0 X0 H hml hZ hown hnm hret hlk e0
  have M0 := Nat.le_refl h.size
  have N0 := Fr.nil Z.heap.size
  refine gAloadN X0 H d4_0 rfl rfl 1 rfl ?_
  refine gAloadN X0 H d4_1 rfl rfl 2 rfl ?_
  refine gGetF X0 H hZ hown (hw _ wd11) Via.refl e0 q53 d4_2 5 rfl ?_
  intro T54 X54 e54
  refine gBipush X54 H d4_5 (z := 16) rfl 7 rfl ?_
  refine gIconst X54 H d4_7 (z := 2) rfl 8 rfl ?_
  refine gAloadN X54 H d4_8 rfl rfl 9 rfl ?_
  refine gGetF X54 H hZ hown (hw _ wd11) Via.refl e54 q53 d4_9 12 rfl ?_
  intro T55 X55 e55
  refine gLen X55 H hZ e55 (Arv.arl (V_w_Trail_NO_ROOM.ext O)) d4_12 13 rfl ?_
  refine g_imul X55 H d4_13 (z := 0) (by decide) 14 rfl ?_
  refine gStatic X55 H hZ hown (hw _ wd24) (hw _ wd25) (by decide) (hw _ wd27) (hw _ wd26) (rm57_5 B _ O) e55 hml rfl pd4 rfl (W := 2) (argsL := [(.int 16), (.int 0)]) (rest := [(.ref w_Trail_NO_ROOM), (.ref ro0)]) rfl rfl d4_14 17 rfl ?_
  intro v58 T58 L58 hq58 X58
  obtain ⟨rfl, e58, rfl⟩ := hq58
  have N58 := Fr.app N0 (Fr.nil _)
  show Go _ _ _ _ (State.setTop _ (mkF _ 17 _ [(.int 16), (.ref w_Trail_NO_ROOM), (.ref ro0)]))
  refine gStatic X58 H hZ hown (hw _ wd28) (hw _ wd29) (by decide) (hw _ wd31) (hw _ wd30) (rm67_6 B _ O) e58 hml rfl pd5 rfl (W := 1) (argsL := [(.ref w_Trail_NO_ROOM), (.int 16)]) (rest := [(.ref ro0)]) rfl rfl d4_17 20 rfl ?_
  intro v68 T68 L68 hq68 X68
  obtain ⟨b68_0, k68_0, rfl, N68q, K68, s68_0, f68_0⟩ := hq68
  have G_b68_0 := Nat.le_trans O.1 s68_0
  have sz_b68_0 := Nat.le_trans M0 s68_0
  have O68 := extK O K68 all0
  have N68 := Fr.app N58 N68q
  show Go _ _ _ _ (State.setTop _ (mkF _ 20 _ [(.ref b68_0), (.ref ro0)]))
  have c71 := (q70.keep K68)
  have c72 := (q53.keep K68 nin0)
  refine gPutF X68 H hZ hown (hw _ wd11) Via.refl rfl c72 c71 (Or.inl (hw _ wd12)) (hw _ wd1) (ty := (.array .int)) (by decide) (v' := (.ref b68_0)) rfl rfl d4_20 23 rfl ?_
  intro T69 h69 X69 e69 W69 F69
  have O69 := extW O68 W69 q73
  have N69 := Fr.snoc X69 N68 q73
  have c74 := (c71.wr W69)
  have c76 := ((q75.keep K68 nin0).other W69 (Or.inr (sn0 hw)))
  have c78 := ((q77.keep K68 nin0).other W69 (Or.inr (sn1 hw)))
  have c79 := (f68_0.other W69 (Ne.symm (neB q53.lt sz_b68_0)))
  have K_80 := (Keep.refl h [ro0]).trans K68 all0
  have K_81 := K_80.wr W69 (Or.inl (List.mem_of_getElem? (i := 0) rfl))
  exact gRetV X69 H hlk hret d4_23 e69 ⟨b68_0, k68_0, rfl, N69, K_81, sz_b68_0, F69, c79, c74, c76, c78⟩
theorem rm89_8 (B : Bg Z a0 w_Trail_NO_ROOM k_w_Trail_NO_ROOM) (ro0 : Addr) (h : Heap) (O : Ext Z.heap h) (q87 : Fld Z h ro0 cs0 "unchanged" "B" (.int 0)) :
    Con l Z yM8 prog_22_method_15_code 2 none ({ frames := 0, cells := 0, slots := 0, locals := 0 } : Room) #[(.ref ro0), (.int 0)] h (fun v h' L => v = none ∧ h' = h ∧ L = []) := by
  have hw := B.1
  refine Con.of (plainFor_of_name pn8) (Ls := #[vR ro0, vI 0]) (fun _ => rfl) ?_
  intro p e s m below meth c T0 X0 H hml hZ hown hnm hret hlk e0
  refine gIloadN X0 H d8_0 rfl 1 rfl ?_
  refine gAloadN X0 H d8_1 rfl rfl 2 rfl ?_
  refine gGetF X0 H hZ hown (hw _ wd44) Via.refl e0 q87 d8_2 5 rfl ?_
  intro T88 X88 e88
  refine gCmpY X88 H d8_5 (by decide) (by decide) 14 rfl ?_
  exact gRetV X88 H hlk hret d8_14 e88 ⟨rfl, rfl, rfl⟩
theorem rm105_3 (B : Bg Z a0 w_Trail_NO_ROOM k_w_Trail_NO_ROOM) (ro0 : Addr) (vi1 : Int32) (h : Heap) (O : Ext Z.heap h) (q47 : Fld Z h ro0 cs0 "depth" "I" (.int 0)) (q49 : Fld Z h ro0 cs0 "entries" "[I" (.ref w_Trail_NO_ROOM)) (q52 : Exa Z h ro0 cs0) (q83 : Z.heap.size ≤ ro0) (q84 : Fld Z h ro0 cs0 "unchanged" "B" (.int 0)) :
    Con l Z yM3 prog_22_method_6_code 2 none ({ frames := 3, cells := 1, slots := 16, locals := 45 } : Room) #[(.ref ro0), (.int vi1)] h (fun v h' L => ∃ (b85_0 : Addr) (k85_0 : ClassId), v = none ∧ Fr Z.heap.size L ∧ Keep h h' [ro0] ∧ h.size ≤ b85_0 ∧ Fld Z h' ro0 cs0 "depth" "I" (.int 1) ∧ Fld Z h' ro0 cs0 "entries" "[I" (.ref b85_0) ∧ Exa Z h' ro0 cs0 ∧ Fld Z h' ro0 cs0 "unchanged" "B" (.int 0) ∧ Arv Z h' b85_0 k85_0 .int (16 : Int32) [(.int vi1), (.int 0), (.int 0), (.int 0), (.int 0), (.int 0), (.int 0), (.int 0), (.int 0), (.int 0), (.int 0), (.int 0), (.int 0), (.int 0), (.int 0), (.int 0)] (.int 0)) := by
  have hw := B.1
  obtain ⟨S_w_Trail_NO_ROOM, V_w_Trail_NO_ROOM⟩ := B.2
  refine Con.of (plainFor_of_name pn3) (Ls := #[vR ro0, vI vi1]) (fun _ => rfl) ?_
  intro p e s m below meth c T0 X0 H hml hZ hown hnm hret hlk e0
  have M0 := Nat.le_refl h.size
  have N0 := Fr.nil Z.heap.size
  refine gAloadN X0 H d3_0 rfl rfl 1 rfl ?_
  refine gGetF X0 H hZ hown (hw _ wd18) Via.refl e0 q47 d3_1 4 rfl ?_
  intro T48 X48 e48
  refine gAloadN X48 H d3_4 rfl rfl 5 rfl ?_
  refine gGetF X48 H hZ hown (hw _ wd11) Via.refl e48 q49 d3_5 8 rfl ?_
  intro T50 X50 e50
  refine gLen X50 H hZ e50 (Arv.arl (V_w_Trail_NO_ROOM.ext O)) d3_8 9 rfl ?_
  refine gCmpN X50 H d3_9 (by decide) 12 rfl ?_
  refine gAloadN X50 H d3_12 rfl rfl 13 rfl ?_
  refine gPrivate X50 H hZ hown (hw _ wd20) (hw _ wd21) (hw _ wd22) (hw _ wd1) (by decide) q52 (hw _ wd23) (hw _ wd2) (rm82_4 B ro0 _ O q49 q52 q83 q47 q84) e50 hml rfl pd0 rfl (W := 0) (argsL := []) (rest := []) rfl rfl d3_13 16 rfl ?_
  intro v85 T85 L85 hq85 X85
  obtain ⟨b85_0, k85_0, rfl, N85q, K85, s85_0, f85_0, f85_1, f85_2, f85_3, f85_4⟩ := hq85
  have G_b85_0 := Nat.le_trans O.1 s85_0
  have sz_b85_0 := Nat.le_trans M0 s85_0
  have O85 := extK O K85 (allS q83 all0)
  have N85 := Fr.app N0 N85q
  show Go _ _ _ _ (State.setTop _ (mkF _ 16 _ []))
  refine gAloadN X85 H d3_16 rfl rfl 17 rfl ?_
  refine gAloadN X85 H d3_17 rfl rfl 18 rfl ?_
  refine gGetF X85 H hZ hown (hw _ wd18) Via.refl rfl f85_3 d3_18 21 rfl ?_
  intro T86 X86 e86
  refine gPrivate X86 H hZ hown (hw _ wd40) (hw _ wd41) (hw _ wd42) (hw _ wd1) (by decide) f85_2 (hw _ wd43) (hw _ wd2) (rm89_8 B ro0 _ O85 f85_4) e86 hml rfl pd1 rfl (W := 0) (argsL := [(.int 0)]) (rest := []) rfl rfl d3_21 24 rfl ?_
  intro v90 T90 L90 hq90 X90
  obtain ⟨rfl, e90, rfl⟩ := hq90
  have N90 := Fr.app N85 (Fr.nil _)
  show Go _ _ _ _ (State.setTop _ (mkF _ 24 _ []))
  refine gAloadN X90 H d3_24 rfl rfl 25 rfl ?_
  refine gGetF X90 H hZ hown (hw _ wd11) Via.refl e90 f85_0 d3_25 28 rfl ?_
  intro T91 X91 e91
  refine gAloadN X91 H d3_28 rfl rfl 29 rfl ?_
  refine gGetF X91 H hZ hown (hw _ wd18) Via.refl e91 f85_3 d3_29 32 rfl ?_
  intro T92 X92 e92
  refine gIloadN X92 H d3_32 rfl 33 rfl ?_
  refine gIastore X92 H hZ e92 f85_1 ⟨by decide, by decide⟩ (i := 0) rfl (Nat.le_of_ble_eq_true rfl) (vs' := [(.int vi1), (.int 0), (.int 0), (.int 0), (.int 0), (.int 0), (.int 0), (.int 0), (.int 0), (.int 0), (.int 0), (.int 0), (.int 0), (.int 0), (.int 0), (.int 0)]) rfl d3_33 34 rfl ?_
  intro T93 h93 X93 e93 W93 V93
  have O93 := extW O85 W93 G_b85_0
  have N93 := Fr.snoc X93 N90 G_b85_0
  refine gAloadN X93 H d3_34 rfl rfl 35 rfl ?_
  refine gDup X93 H d3_35 rfl 36 rfl ?_
  have c94 := (f85_3.other W93 (Or.inl (neB q47.lt sz_b85_0)))
  refine gGetF X93 H hZ hown (hw _ wd18) Via.refl e93 c94 d3_36 39 rfl ?_
  intro T95 X95 e95
  refine gIconst X95 H d3_39 (z := 1) rfl 40 rfl ?_
  refine g_iadd X95 H d3_40 (z := 1) (by decide) 41 rfl ?_
  have c97 := (f85_2.wr W93)
  refine gPutF X95 H hZ hown (hw _ wd18) Via.refl e95 c94 c97 (Or.inl (hw _ wd19)) (hw _ wd1) (ty := .int) (by decide) (v' := (.int 1)) rfl rfl d3_41 44 rfl ?_
  intro T96 h96 X96 e96 W96 F96
  have O96 := extW O93 W96 q83
  have N96 := Fr.snoc X96 N93 q83
  have c98 := ((f85_0.other W93 (Or.inl (neB q47.lt sz_b85_0))).other W96 (Or.inr (sn2 hw)))
  have c99 := (c97.wr W96)
  have c100 := ((f85_4.other W93 (Or.inl (neB q47.lt sz_b85_0))).other W96 (Or.inr (sn3 hw)))
  have c101 := (V93.other W96 (Ne.symm (neB q47.lt sz_b85_0)))
  have K_102 := (Keep.refl h [ro0]).trans K85 (allS (Or.inl (List.mem_of_getElem? (i := 0) rfl)) all0)
  have K_103 := K_102.wr W93 (Or.inr sz_b85_0)
  have K_104 := K_103.wr W96 (Or.inl (List.mem_of_getElem? (i := 0) rfl))
  exact gRetV X96 H hlk hret d3_44 e96 ⟨b85_0, k85_0, rfl, N96, K_104, sz_b85_0, F96, c98, c99, c100, c101⟩
theorem rm118_9 (B : Bg Z a0 w_Trail_NO_ROOM k_w_Trail_NO_ROOM) (ro0 ro1 : Addr) (h : Heap) (O : Ext Z.heap h) (q109 : Exa Z h ro0 cs0) (q110 : Fld Z h ro0 cs0 "depth" "I" (.int 1)) (q111 : Z.heap.size ≤ ro0) (q113 : Fld Z h ro0 cs0 "entries" "[I" (.ref ro1)) (q115 : Fld Z h ro0 cs0 "unchanged" "B" (.int 0)) :
    Con l Z yM9 prog_22_method_8_code 2 none ({ frames := 0, cells := 0, slots := 0, locals := 0 } : Room) #[(.ref ro0), (.int 0)] h (fun v h' L => v = none ∧ Fr Z.heap.size L ∧ Keep h h' [ro0] ∧ Exa Z h' ro0 cs0 ∧ Fld Z h' ro0 cs0 "depth" "I" (.int 0) ∧ Fld Z h' ro0 cs0 "entries" "[I" (.ref ro1) ∧ Fld Z h' ro0 cs0 "unchanged" "B" (.int 0)) := by
  have hw := B.1
  refine Con.of (plainFor_of_name pn9) (Ls := #[vR ro0, vI 0]) (fun _ => rfl) ?_
  intro p e s m below meth c T0 X0 H hml hZ hown hnm hret hlk e0
  have N0 := Fr.nil Z.heap.size
  refine gAloadN X0 H d9_0 rfl rfl 1 rfl ?_
  refine gIloadN X0 H d9_1 rfl 2 rfl ?_
  refine gPutF X0 H hZ hown (hw _ wd18) Via.refl e0 q110 q109 (Or.inl (hw _ wd19)) (hw _ wd1) (ty := .int) (by decide) (v' := (.int 0)) rfl rfl d9_2 5 rfl ?_
  intro T108 h108 X108 e108 W108 F108
  have O108 := extW O W108 q111
  have N108 := Fr.snoc X108 N0 q111
  have c112 := (q109.wr W108)
  have c114 := (q113.other W108 (Or.inr (sn2 hw)))
  have c116 := (q115.other W108 (Or.inr (sn3 hw)))
  have K_117 := (Keep.refl h [ro0]).wr W108 (Or.inl (List.mem_of_getElem? (i := 0) rfl))
  exact gRetV X108 H hlk hret d9_5 e108 ⟨rfl, N108, K_117, c112, F108, c114, c116⟩
theorem rm126_12 (B : Bg Z a0 w_Trail_NO_ROOM k_w_Trail_NO_ROOM) (ro0 ro1 : Addr) (ck2 : ClassId) (vi3 : Int32) (h : Heap) (O : Ext Z.heap h) (q122 : Fld Z h ro0 cs0 "entries" "[I" (.ref ro1)) (q125 : Arv Z h ro1 ck2 .int (16 : Int32) [(.int vi3), (.int 0), (.int 0), (.int 0), (.int 0), (.int 0), (.int 0), (.int 0), (.int 0), (.int 0), (.int 0), (.int 0), (.int 0), (.int 0), (.int 0), (.int 0)] (.int 0)) :
    Con l Z yM12 prog_22_method_3_code 2 (some .int) ({ frames := 0, cells := 0, slots := 0, locals := 0 } : Room) #[(.ref ro0), (.int 0)] h (fun v h' L => v = some (.int vi3) ∧ h' = h ∧ L = []) := by
  have hw := B.1
  refine Con.of (plainFor_of_name pn12) (Ls := #[vR ro0, vI 0]) (fun _ => rfl) ?_
  intro p e s m below meth c T0 X0 H hml hZ hown hnm hret hlk e0
  refine gAloadN X0 H d12_0 rfl rfl 1 rfl ?_
  refine gGetF X0 H hZ hown (hw _ wd11) Via.refl e0 q122 d12_1 4 rfl ?_
  intro T123 X123 e123
  refine gIloadN X123 H d12_4 rfl 5 rfl ?_
  refine gIaload X123 H hZ e123 q125 ⟨by decide, by decide⟩ (v := (.int vi3)) rfl d12_5 6 rfl ?_
  exact gRetI X123 H hlk hret d12_6 e123 ⟨rfl, rfl, rfl⟩
theorem cut44_79 (B : Bg Z a0 w_Trail_NO_ROOM k_w_Trail_NO_ROOM) (p0 : Int32) (p1 : Int32) (p2 : Int32) (p3 : Int32) (p4 : Int32) (p5 : Int32) (u8 : Int32) (u9 : Int32) {p : Program} {e : Env} {s : State} {m : MethodId} {below : List Frame} {meth : Method} {c : Code} {T0 : State} (X0 : Stand p l e room_1 s m #[(.int p0), (.int p1), (.int p2), (.int p3), (.int p4), (.int p5)] below meth c T0 [] 0 0) (H : p.tables.exec = Jvm.exec ∧ c.code = code) (hml : c.maxLocals = maxLocals) (hZ : Z.Warmed39 s.vm) (hown : s.vm.findClass x.cls = some m.cls) (hnm : meth.name = x.name) (hret : meth.sig.returnType = ret) (hlk : meth.locks = false) (e0 : T0.heap = Z.heap) :
    Go p e below (EndK s below (fun v h' L => v = some (.int 1) ∧ Fr Z.heap.size L) room_1.cells room_1.slots) (T0.setTop (mkF m 79 #[vI p0, vI p1, vI p2, vI p3, vI p4, vI p5, vI 1, vI 0, vI u8, vI u9, .unset, .unset, .unset] [])) := by
  have hw := B.1
  obtain ⟨S_w_Trail_NO_ROOM, V_w_Trail_NO_ROOM⟩ := B.2
  have O0 := extR Z.heap
  have M0 := Nat.le_refl Z.heap.size
  have N0 := Fr.nil Z.heap.size
  refine gNew X0 H hZ hown (hw _ wd0) (hw _ wd1) (hw _ wd2) e0 (by decide) (by decide) at_79 82 rfl ?_
  intro T45 h45 b45 X45 e45 z45 E45 A45 D45
  have G_b45 := Nat.le_trans O0.1 (Nat.le_of_eq z45)
  have sz_b45 := Nat.le_trans M0 (Nat.le_of_eq z45)
  have O45 := extT O0 E45
  have F45_entries : Fld Z h45 b45 cs0 "entries" "[I" .null := D45 (Or.inl (hw _ wd12)) (ty := (.array .int)) (by decide)
  have F45_depth : Fld Z h45 b45 cs0 "depth" "I" (.int 0) := D45 (Or.inl (hw _ wd19)) (ty := .int) (by decide)
  have F45_unchanged : Fld Z h45 b45 cs0 "unchanged" "B" (.int 0) := D45 (Or.inl (hw _ wd45)) (ty := .byte) (by decide)
  refine gDup X45 H at_82 rfl 83 rfl ?_
  refine gSpecial X45 H hZ hown rfl rfl (hw _ wd3) (hw _ wd4) (by decide) (hw _ wd5) (hw _ wd2) (rm17_1 B b45 _ O45 A45 F45_entries G_b45 F45_depth F45_unchanged) e45 hml rfl pd0 rfl (W := 1) (argsL := []) (rest := [(.ref b45)]) rfl rfl at_83 86 rfl ?_
  intro v46 T46 L46 hq46 X46
  obtain ⟨rfl, N46q, K46, f46_0, f46_1, f46_2, f46_3⟩ := hq46
  have O46 := extK O45 K46 (allS G_b45 all0)
  have N46 := Fr.app N0 N46q
  show Go _ _ _ _ (State.setTop _ (mkF _ 86 _ [(.ref b45)]))
  refine gAstore X46 H at_86 rfl (Ls' := #[vI p0, vI p1, vI p2, vI p3, vI p4, vI p5, vI 1, vI 0, vI u8, vI u9, vR b45, .unset, .unset]) rfl 88 rfl ?_
  refine gIload X46 H at_88 rfl 90 rfl ?_
  refine gIfN X46 H at_90 (by decide) 93 rfl ?_
  refine gAload X46 H at_93 rfl rfl 95 rfl ?_
  refine gIloadN X46 H at_95 rfl 96 rfl ?_
  refine gVirt X46 H hZ hown (hw _ wd13) (hw _ wd14) (hw _ wd16) (hw _ wd15) (by decide) f46_0 (hw _ wd17) (hw _ wd2) (rm105_3 B b45 p0 _ O46 f46_2 f46_1 f46_0 G_b45 f46_3) rfl hml rfl pd1 rfl (W := 0) (argsL := [(.int p0)]) (rest := []) rfl rfl at_96 99 rfl ?_
  intro v106 T106 L106 hq106 X106
  obtain ⟨b106_0, k106_0, rfl, N106q, K106, s106_0, f106_0, f106_1, f106_2, f106_3, f106_4⟩ := hq106
  have M107 := (Nat.le_trans (Nat.le_trans M0 E45.1) K46.1)
  have G_b106_0 := Nat.le_trans O46.1 s106_0
  have sz_b106_0 := Nat.le_trans M107 s106_0
  have ne_b45_b106_0 : b45 ≠ b106_0 := neB f46_0.lt s106_0
  have O106 := extK O46 K106 (allS G_b45 all0)
  have N106 := Fr.app N46 N106q
  show Go _ _ _ _ (State.setTop _ (mkF _ 99 _ []))
  refine gIload X106 H at_99 rfl 101 rfl ?_
  refine gIconst X106 H at_101 (z := 1) rfl 102 rfl ?_
  refine gCmpY X106 H at_102 (by decide) (by decide) 111 rfl ?_
  refine gIload X106 H at_111 rfl 113 rfl ?_
  refine gIconst X106 H at_113 (z := 2) rfl 114 rfl ?_
  refine gCmpY X106 H at_114 (by decide) (by decide) 123 rfl ?_
  refine gAload X106 H at_123 rfl rfl 125 rfl ?_
  refine gIload X106 H at_125 rfl 127 rfl ?_
  refine gVirt X106 H hZ hown (hw _ wd46) (hw _ wd47) (hw _ wd49) (hw _ wd48) (by decide) f106_2 (hw _ wd50) (hw _ wd2) (rm118_9 B b45 b106_0 _ O106 f106_2 f106_0 G_b45 f106_1 f106_3) rfl hml rfl pd1 rfl (W := 0) (argsL := [(.int 0)]) (rest := []) rfl rfl at_127 130 rfl ?_
  intro v119 T119 L119 hq119 X119
  obtain ⟨rfl, N119q, K119, f119_0, f119_1, f119_2, f119_3⟩ := hq119
  have O119 := extK O106 K119 (allS G_b45 all0)
  have N119 := Fr.app N106 N119q
  show Go _ _ _ _ (State.setTop _ (mkF _ 130 _ []))
  refine gAload X119 H at_130 rfl rfl 132 rfl ?_
  refine gIload X119 H at_132 rfl 134 rfl ?_
  refine gIloadN X119 H at_134 rfl 135 rfl ?_
  refine gVirt X119 H hZ hown (hw _ wd51) (hw _ wd52) (hw _ wd54) (hw _ wd53) (by decide) f119_0 (hw _ wd55) (hw _ wd2) (rm33_10 B b45 u9 p3 _ O119 f119_1) rfl hml rfl pd2 rfl (W := 0) (argsL := [(.int u9), (.int p3)]) (rest := []) rfl rfl at_135 138 rfl ?_
  intro v120 T120 L120 hq120 X120
  obtain ⟨rfl, e120, rfl⟩ := hq120
  have N120 := Fr.app N119 (Fr.nil _)
  show Go _ _ _ _ (State.setTop _ (mkF _ 138 _ []))
  refine gIload X120 H at_138 rfl 140 rfl ?_
  refine gIfY X120 H at_140 (by decide) (by decide) 155 rfl ?_
  refine gIload X120 H at_155 rfl 157 rfl ?_
  refine gIconst X120 H at_157 (z := 1) rfl 158 rfl ?_
  refine gCmpY X120 H at_158 (by decide) (by decide) 173 rfl ?_
  refine gIload X120 H at_173 rfl 175 rfl ?_
  refine gIconst X120 H at_175 (z := 2) rfl 176 rfl ?_
  refine gCmpY X120 H at_176 (by decide) (by decide) 191 rfl ?_
  refine gIconst X120 H at_191 (z := (-1)) rfl 192 rfl ?_
  refine gIstore X120 H at_192 (Ls' := #[vI p0, vI p1, vI p2, vI p3, vI p4, vI p5, vI 1, vI 0, vI u8, vI u9, vR b45, vI (-1), .unset]) rfl 194 rfl ?_
  refine gAload X120 H at_194 rfl rfl 196 rfl ?_
  refine gVirt X120 H hZ hown (hw _ wd56) (hw _ wd57) (hw _ wd59) (hw _ wd58) (by decide) f119_0 (hw _ wd60) (hw _ wd2) (rm37_11 B b45 _ O119 f119_1) e120 hml rfl pd3 rfl (W := 0) (argsL := []) (rest := []) rfl rfl at_196 199 rfl ?_
  intro v121 T121 L121 hq121 X121
  obtain ⟨rfl, e121, rfl⟩ := hq121
  have N121 := Fr.app N120 (Fr.nil _)
  show Go _ _ _ _ (State.setTop _ (mkF _ 199 _ [(.int 0)]))
  refine gIload X121 H at_199 rfl 201 rfl ?_
  refine gCmpN X121 H at_201 (by decide) 204 rfl ?_
  refine gIconst X121 H at_204 (z := 1) rfl 205 rfl ?_
  refine gGoto X121 H at_205 (by decide) 209 rfl ?_
  refine gIstore X121 H at_209 (Ls' := #[vI p0, vI p1, vI p2, vI p3, vI p4, vI p5, vI 1, vI 0, vI u8, vI u9, vR b45, vI (-1), vI 1]) rfl 211 rfl ?_
  refine gIload X121 H at_211 rfl 213 rfl ?_
  refine gIfN X121 H at_213 (by decide) 216 rfl ?_
  refine gIload X121 H at_216 rfl 218 rfl ?_
  refine gIfN X121 H at_218 (by decide) 221 rfl ?_
  refine gAload X121 H at_221 rfl rfl 223 rfl ?_
  refine gIconst X121 H at_223 (z := 0) rfl 224 rfl ?_
  have c127 := (f106_4.keep K119 (ninS (Ne.symm ne_b45_b106_0) nin0))
  refine gVirt X121 H hZ hown (hw _ wd61) (hw _ wd62) (hw _ wd64) (hw _ wd63) (by decide) f119_0 (hw _ wd65) (hw _ wd2) (rm126_12 B b45 b106_0 k106_0 p0 _ O119 f119_2 c127) e121 hml rfl pd6 rfl (W := 0) (argsL := [(.int 0)]) (rest := []) rfl rfl at_224 227 rfl ?_
  intro v128 T128 L128 hq128 X128
  obtain ⟨rfl, e128, rfl⟩ := hq128
  have N128 := Fr.app N121 (Fr.nil _)
  show Go _ _ _ _ (State.setTop _ (mkF _ 227 _ [(.int p0)]))
  refine gIload X128 H at_227 rfl 229 rfl ?_
  refine gIfY X128 H at_229 (by decide) (by decide) 236 rfl ?_
  refine gIloadN X128 H at_236 rfl 237 rfl ?_
  refine gCmpN X128 H at_237 (teq rfl).2 240 rfl ?_
  refine gIconst X128 H at_240 (z := 1) rfl 241 rfl ?_
  refine gGoto X128 H at_241 (by decide) 245 rfl ?_
  refine gIstore X128 H at_245 (Ls' := #[vI p0, vI p1, vI p2, vI p3, vI p4, vI p5, vI 1, vI 0, vI u8, vI u9, vR b45, vI (-1), vI 1]) rfl 247 rfl ?_
  refine gIload X128 H at_247 rfl 249 rfl ?_
  refine gIconst X128 H at_249 (z := 1) rfl 250 rfl ?_
  refine gCmpY X128 H at_250 (by decide) (by decide) 285 rfl ?_
  refine gIload X128 H at_285 rfl 287 rfl ?_
  refine gIconst X128 H at_287 (z := 2) rfl 288 rfl ?_
  refine gCmpY X128 H at_288 (by decide) (by decide) 323 rfl ?_
  refine gIload X128 H at_323 rfl 325 rfl ?_
  exact gRetN X128 H hlk hret (t := .boolean) (by simp) at_325 e128 ⟨rfl, N128⟩
theorem rm148_9 (B : Bg Z a0 w_Trail_NO_ROOM k_w_Trail_NO_ROOM) (ro0 ro1 : Addr) (h : Heap) (O : Ext Z.heap h) (q139 : Exa Z h ro0 cs0) (q140 : Fld Z h ro0 cs0 "depth" "I" (.int 1)) (q141 : Z.heap.size ≤ ro0) (q143 : Fld Z h ro0 cs0 "entries" "[I" (.ref ro1)) (q145 : Fld Z h ro0 cs0 "unchanged" "B" (.int 0)) :
    Con l Z yM9 prog_22_method_8_code 2 none ({ frames := 0, cells := 0, slots := 0, locals := 0 } : Room) #[(.ref ro0), (.int 1)] h (fun v h' L => v = none ∧ Fr Z.heap.size L ∧ Keep h h' [ro0] ∧ Exa Z h' ro0 cs0 ∧ Fld Z h' ro0 cs0 "depth" "I" (.int 1) ∧ Fld Z h' ro0 cs0 "entries" "[I" (.ref ro1) ∧ Fld Z h' ro0 cs0 "unchanged" "B" (.int 0)) := by
  have hw := B.1
  refine Con.of (plainFor_of_name pn9) (Ls := #[vR ro0, vI 1]) (fun _ => rfl) ?_
  intro p e s m below meth c T0 X0 H hml hZ hown hnm hret hlk e0
  have N0 := Fr.nil Z.heap.size
  refine gAloadN X0 H d9_0 rfl rfl 1 rfl ?_
  refine gIloadN X0 H d9_1 rfl 2 rfl ?_
  refine gPutF X0 H hZ hown (hw _ wd18) Via.refl e0 q140 q139 (Or.inl (hw _ wd19)) (hw _ wd1) (ty := .int) (by decide) (v' := (.int 1)) rfl rfl d9_2 5 rfl ?_
  intro T138 h138 X138 e138 W138 F138
  have O138 := extW O W138 q141
  have N138 := Fr.snoc X138 N0 q141
  have c142 := (q139.wr W138)
  have c144 := (q143.other W138 (Or.inr (sn2 hw)))
  have c146 := (q145.other W138 (Or.inr (sn3 hw)))
  have K_147 := (Keep.refl h [ro0]).wr W138 (Or.inl (List.mem_of_getElem? (i := 0) rfl))
  exact gRetV X138 H hlk hret d9_5 e138 ⟨rfl, N138, K_147, c142, F138, c144, c146⟩
theorem rm168_10 (B : Bg Z a0 w_Trail_NO_ROOM k_w_Trail_NO_ROOM) (ro0 : Addr) (vi1 vi2 : Int32) (ro3 : Addr) (ck4 : ClassId) (vi5 : Int32) (h : Heap) (O : Ext Z.heap h) (q157 : Fld Z h ro0 cs0 "depth" "I" (.int 1)) (q159 : Fld Z h ro0 cs0 "entries" "[I" (.ref ro3)) (q162 : Arv Z h ro3 ck4 .int (16 : Int32) [(.int vi5), (.int 0), (.int 0), (.int 0), (.int 0), (.int 0), (.int 0), (.int 0), (.int 0), (.int 0), (.int 0), (.int 0), (.int 0), (.int 0), (.int 0), (.int 0)] (.int 0)) (q166 : Z.heap.size ≤ ro3) (hk163 : vi5 = vi1) :
    Con l Z yM10 prog_22_method_10_code 4 none ({ frames := 0, cells := 0, slots := 0, locals := 0 } : Room) #[(.ref ro0), (.int vi1), (.int vi2)] h (fun v h' L => v = none ∧ Fr Z.heap.size L ∧ Keep h h' [ro3] ∧ Arv Z h' ro3 ck4 .int (16 : Int32) [(.int vi2), (.int 0), (.int 0), (.int 0), (.int 0), (.int 0), (.int 0), (.int 0), (.int 0), (.int 0), (.int 0), (.int 0), (.int 0), (.int 0), (.int 0), (.int 0)] (.int 0)) := by
  have hw := B.1
  refine Con.of (plainFor_of_name pn10) (Ls := #[vR ro0, vI vi1, vI vi2, .unset]) (fun _ => rfl) ?_
  intro p e s m below meth c T0 X0 H hml hZ hown hnm hret hlk e0
  have N0 := Fr.nil Z.heap.size
  refine gIconst X0 H d10_0 (z := 0) rfl 1 rfl ?_
  refine gIstoreN X0 H d10_1 (Ls' := #[vR ro0, vI vi1, vI vi2, vI 0]) rfl 2 rfl ?_
  refine gIloadN X0 H d10_2 rfl 3 rfl ?_
  refine gAloadN X0 H d10_3 rfl rfl 4 rfl ?_
  refine gGetF X0 H hZ hown (hw _ wd18) Via.refl e0 q157 d10_4 7 rfl ?_
  intro T158 X158 e158
  refine gCmpN X158 H d10_7 (by decide) 10 rfl ?_
  refine gAloadN X158 H d10_10 rfl rfl 11 rfl ?_
  refine gGetF X158 H hZ hown (hw _ wd11) Via.refl e158 q159 d10_11 14 rfl ?_
  intro T160 X160 e160
  refine gIloadN X160 H d10_14 rfl 15 rfl ?_
  refine gIaload X160 H hZ e160 q162 ⟨by decide, by decide⟩ (v := (.int vi5)) rfl d10_15 16 rfl ?_
  refine gIloadN X160 H d10_16 rfl 17 rfl ?_
  refine gCmpN X160 H d10_17 (teq hk163).2 20 rfl ?_
  refine gAloadN X160 H d10_20 rfl rfl 21 rfl ?_
  refine gGetF X160 H hZ hown (hw _ wd11) Via.refl e160 q159 d10_21 24 rfl ?_
  intro T164 X164 e164
  refine gIloadN X164 H d10_24 rfl 25 rfl ?_
  refine gIloadN X164 H d10_25 rfl 26 rfl ?_
  refine gIastore X164 H hZ e164 q162 ⟨by decide, by decide⟩ (i := 0) rfl (Nat.le_of_ble_eq_true rfl) (vs' := [(.int vi2), (.int 0), (.int 0), (.int 0), (.int 0), (.int 0), (.int 0), (.int 0), (.int 0), (.int 0), (.int 0), (.int 0), (.int 0), (.int 0), (.int 0), (.int 0)]) rfl d10_26 27 rfl ?_
  intro T165 h165 X165 e165 W165 V165
  have O165 := extW O W165 q166
  have N165 := Fr.snoc X165 N0 q166
  have K_167 := (Keep.refl h [ro3]).wr W165 (Or.inl (List.mem_of_getElem? (i := 0) rfl))
  exact gRetV X165 H hlk hret d10_27 e165 ⟨rfl, N165, K_167, V165⟩
theorem rm174_11 (B : Bg Z a0 w_Trail_NO_ROOM k_w_Trail_NO_ROOM) (ro0 : Addr) (h : Heap) (O : Ext Z.heap h) (q172 : Fld Z h ro0 cs0 "depth" "I" (.int 1)) :
    Con l Z yM11 prog_22_method_2_code 1 (some .int) ({ frames := 0, cells := 0, slots := 0, locals := 0 } : Room) #[(.ref ro0)] h (fun v h' L => v = some (.int 1) ∧ h' = h ∧ L = []) := by
  have hw := B.1
  refine Con.of (plainFor_of_name pn11) (Ls := #[vR ro0]) (fun _ => rfl) ?_
  intro p e s m below meth c T0 X0 H hml hZ hown hnm hret hlk e0
  refine gAloadN X0 H d11_0 rfl rfl 1 rfl ?_
  refine gGetF X0 H hZ hown (hw _ wd18) Via.refl e0 q172 d11_1 4 rfl ?_
  intro T173 X173 e173
  exact gRetI X173 H hlk hret d11_4 e173 ⟨rfl, rfl, rfl⟩
theorem rm187_10 (B : Bg Z a0 w_Trail_NO_ROOM k_w_Trail_NO_ROOM) (ro0 : Addr) (vi1 vi2 : Int32) (ro3 : Addr) (ck4 : ClassId) (vi5 : Int32) (h : Heap) (O : Ext Z.heap h) (q179 : Fld Z h ro0 cs0 "depth" "I" (.int 1)) (q181 : Fld Z h ro0 cs0 "entries" "[I" (.ref ro3)) (q184 : Arv Z h ro3 ck4 .int (16 : Int32) [(.int vi5), (.int 0), (.int 0), (.int 0), (.int 0), (.int 0), (.int 0), (.int 0), (.int 0), (.int 0), (.int 0), (.int 0), (.int 0), (.int 0), (.int 0), (.int 0)] (.int 0)) (hk185 : ¬ (vi5 = vi1)) :
    Con l Z yM10 prog_22_method_10_code 4 none ({ frames := 0, cells := 0, slots := 0, locals := 0 } : Room) #[(.ref ro0), (.int vi1), (.int vi2)] h (fun v h' L => v = none ∧ h' = h ∧ L = []) := by
  have hw := B.1
  refine Con.of (plainFor_of_name pn10) (Ls := #[vR ro0, vI vi1, vI vi2, .unset]) (fun _ => rfl) ?_
  intro p e s m below meth c T0 X0 H hml hZ hown hnm hret hlk e0
  refine gIconst X0 H d10_0 (z := 0) rfl 1 rfl ?_
  refine gIstoreN X0 H d10_1 (Ls' := #[vR ro0, vI vi1, vI vi2, vI 0]) rfl 2 rfl ?_
  refine gIloadN X0 H d10_2 rfl 3 rfl ?_
  refine gAloadN X0 H d10_3 rfl rfl 4 rfl ?_
  refine gGetF X0 H hZ hown (hw _ wd18) Via.refl e0 q179 d10_4 7 rfl ?_
  intro T180 X180 e180
  refine gCmpN X180 H d10_7 (by decide) 10 rfl ?_
  refine gAloadN X180 H d10_10 rfl rfl 11 rfl ?_
  refine gGetF X180 H hZ hown (hw _ wd11) Via.refl e180 q181 d10_11 14 rfl ?_
  intro T182 X182 e182
  refine gIloadN X182 H d10_14 rfl 15 rfl ?_
  refine gIaload X182 H hZ e182 q184 ⟨by decide, by decide⟩ (v := (.int vi5)) rfl d10_15 16 rfl ?_
  refine gIloadN X182 H d10_16 rfl 17 rfl ?_
  refine gCmpY X182 H d10_17 (feq hk185).2 (by decide) 28 rfl ?_
  refine gIinc X182 H d10_28 rfl (Ls' := #[vR ro0, vI vi1, vI vi2, vI 1]) rfl 31 rfl ?_
  refine gGoto X182 H d10_31 (by decide) 2 rfl ?_
  refine gIloadN X182 H d10_2 rfl 3 rfl ?_
  refine gAloadN X182 H d10_3 rfl rfl 4 rfl ?_
  refine gGetF X182 H hZ hown (hw _ wd18) Via.refl e182 q179 d10_4 7 rfl ?_
  intro T186 X186 e186
  refine gCmpY X186 H d10_7 (by decide) (by decide) 34 rfl ?_
  exact gRetV X186 H hlk hret d10_34 e186 ⟨rfl, rfl, rfl⟩
theorem cut133_79 (B : Bg Z a0 w_Trail_NO_ROOM k_w_Trail_NO_ROOM) (p0 : Int32) (p1 : Int32) (p2 : Int32) (p3 : Int32) (p4 : Int32) (p5 : Int32) (u8 : Int32) (u9 : Int32) {p : Program} {e : Env} {s : State} {m : MethodId} {below : List Frame} {meth : Method} {c : Code} {T0 : State} (X0 : Stand p l e room_1 s m #[(.int p0), (.int p1), (.int p2), (.int p3), (.int p4), (.int p5)] below meth c T0 [] 0 0) (H : p.tables.exec = Jvm.exec ∧ c.code = code) (hml : c.maxLocals = maxLocals) (hZ : Z.Warmed39 s.vm) (hown : s.vm.findClass x.cls = some m.cls) (hnm : meth.name = x.name) (hret : meth.sig.returnType = ret) (hlk : meth.locks = false) (e0 : T0.heap = Z.heap) :
    Go p e below (EndK s below (fun v h' L => v = some (.int 1) ∧ Fr Z.heap.size L) room_1.cells room_1.slots) (T0.setTop (mkF m 79 #[vI p0, vI p1, vI p2, vI p3, vI p4, vI p5, vI 1, vI 1, vI u8, vI u9, .unset, .unset, .unset] [])) := by
  have hw := B.1
  obtain ⟨S_w_Trail_NO_ROOM, V_w_Trail_NO_ROOM⟩ := B.2
  have O0 := extR Z.heap
  have M0 := Nat.le_refl Z.heap.size
  have N0 := Fr.nil Z.heap.size
  refine gNew X0 H hZ hown (hw _ wd0) (hw _ wd1) (hw _ wd2) e0 (by decide) (by decide) at_79 82 rfl ?_
  intro T134 h134 b134 X134 e134 z134 E134 A134 D134
  have G_b134 := Nat.le_trans O0.1 (Nat.le_of_eq z134)
  have sz_b134 := Nat.le_trans M0 (Nat.le_of_eq z134)
  have O134 := extT O0 E134
  have F134_entries : Fld Z h134 b134 cs0 "entries" "[I" .null := D134 (Or.inl (hw _ wd12)) (ty := (.array .int)) (by decide)
  have F134_depth : Fld Z h134 b134 cs0 "depth" "I" (.int 0) := D134 (Or.inl (hw _ wd19)) (ty := .int) (by decide)
  have F134_unchanged : Fld Z h134 b134 cs0 "unchanged" "B" (.int 0) := D134 (Or.inl (hw _ wd45)) (ty := .byte) (by decide)
  refine gDup X134 H at_82 rfl 83 rfl ?_
  refine gSpecial X134 H hZ hown rfl rfl (hw _ wd3) (hw _ wd4) (by decide) (hw _ wd5) (hw _ wd2) (rm17_1 B b134 _ O134 A134 F134_entries G_b134 F134_depth F134_unchanged) e134 hml rfl pd0 rfl (W := 1) (argsL := []) (rest := [(.ref b134)]) rfl rfl at_83 86 rfl ?_
  intro v135 T135 L135 hq135 X135
  obtain ⟨rfl, N135q, K135, f135_0, f135_1, f135_2, f135_3⟩ := hq135
  have O135 := extK O134 K135 (allS G_b134 all0)
  have N135 := Fr.app N0 N135q
  show Go _ _ _ _ (State.setTop _ (mkF _ 86 _ [(.ref b134)]))
  refine gAstore X135 H at_86 rfl (Ls' := #[vI p0, vI p1, vI p2, vI p3, vI p4, vI p5, vI 1, vI 1, vI u8, vI u9, vR b134, .unset, .unset]) rfl 88 rfl ?_
  refine gIload X135 H at_88 rfl 90 rfl ?_
  refine gIfN X135 H at_90 (by decide) 93 rfl ?_
  refine gAload X135 H at_93 rfl rfl 95 rfl ?_
  refine gIloadN X135 H at_95 rfl 96 rfl ?_
  refine gVirt X135 H hZ hown (hw _ wd13) (hw _ wd14) (hw _ wd16) (hw _ wd15) (by decide) f135_0 (hw _ wd17) (hw _ wd2) (rm105_3 B b134 p0 _ O135 f135_2 f135_1 f135_0 G_b134 f135_3) rfl hml rfl pd1 rfl (W := 0) (argsL := [(.int p0)]) (rest := []) rfl rfl at_96 99 rfl ?_
  intro v136 T136 L136 hq136 X136
  obtain ⟨b136_0, k136_0, rfl, N136q, K136, s136_0, f136_0, f136_1, f136_2, f136_3, f136_4⟩ := hq136
  have M137 := (Nat.le_trans (Nat.le_trans M0 E134.1) K135.1)
  have G_b136_0 := Nat.le_trans O135.1 s136_0
  have sz_b136_0 := Nat.le_trans M137 s136_0
  have ne_b134_b136_0 : b134 ≠ b136_0 := neB f135_0.lt s136_0
  have O136 := extK O135 K136 (allS G_b134 all0)
  have N136 := Fr.app N135 N136q
  show Go _ _ _ _ (State.setTop _ (mkF _ 99 _ []))
  refine gIload X136 H at_99 rfl 101 rfl ?_
  refine gIconst X136 H at_101 (z := 1) rfl 102 rfl ?_
  refine gCmpY X136 H at_102 (by decide) (by decide) 111 rfl ?_
  refine gIload X136 H at_111 rfl 113 rfl ?_
  refine gIconst X136 H at_113 (z := 2) rfl 114 rfl ?_
  refine gCmpY X136 H at_114 (by decide) (by decide) 123 rfl ?_
  refine gAload X136 H at_123 rfl rfl 125 rfl ?_
  refine gIload X136 H at_125 rfl 127 rfl ?_
  refine gVirt X136 H hZ hown (hw _ wd46) (hw _ wd47) (hw _ wd49) (hw _ wd48) (by decide) f136_2 (hw _ wd50) (hw _ wd2) (rm148_9 B b134 b136_0 _ O136 f136_2 f136_0 G_b134 f136_1 f136_3) rfl hml rfl pd1 rfl (W := 0) (argsL := [(.int 1)]) (rest := []) rfl rfl at_127 130 rfl ?_
  intro v149 T149 L149 hq149 X149
  obtain ⟨rfl, N149q, K149, f149_0, f149_1, f149_2, f149_3⟩ := hq149
  have O149 := extK O136 K149 (allS G_b134 all0)
  have N149 := Fr.app N136 N149q
  show Go _ _ _ _ (State.setTop _ (mkF _ 130 _ []))
  refine gAload X149 H at_130 rfl rfl 132 rfl ?_
  refine gIload X149 H at_132 rfl 134 rfl ?_
  refine gIloadN X149 H at_134 rfl 135 rfl ?_
  by_cases hc156 : p0 = u9
  · have c169 := (f136_4.keep K149 (ninS (Ne.symm ne_b134_b136_0) nin0))
    refine gVirt X149 H hZ hown (hw _ wd51) (hw _ wd52) (hw _ wd54) (hw _ wd53) (by decide) f149_0 (hw _ wd55) (hw _ wd2) (rm168_10 B b134 u9 p3 b136_0 k136_0 p0 _ O149 f149_1 f149_2 c169 G_b136_0 hc156) rfl hml rfl pd2 rfl (W := 0) (argsL := [(.int u9), (.int p3)]) (rest := []) rfl rfl at_135 138 rfl ?_
    intro v170 T170 L170 hq170 X170
    obtain ⟨rfl, N170q, K170, f170_0⟩ := hq170
    have O170 := extK O149 K170 (allS G_b136_0 all0)
    have N170 := Fr.app N149 N170q
    show Go _ _ _ _ (State.setTop _ (mkF _ 138 _ []))
    refine gIload X170 H at_138 rfl 140 rfl ?_
    refine gIfN X170 H at_140 (by decide) 143 rfl ?_
    refine gIloadN X170 H at_143 rfl 144 rfl ?_
    refine gIload X170 H at_144 rfl 146 rfl ?_
    refine gCmpN X170 H at_146 (teq hc156).2 149 rfl ?_
    refine gIconst X170 H at_149 (z := 0) rfl 150 rfl ?_
    refine gIstore X170 H at_150 (Ls' := #[vI p0, vI p1, vI p2, vI p3, vI p4, vI p5, vI 1, vI 1, vI u8, vI u9, vR b134, vI 0, .unset]) rfl 152 rfl ?_
    refine gGoto X170 H at_152 (by decide) 194 rfl ?_
    refine gAload X170 H at_194 rfl rfl 196 rfl ?_
    have c171 := (f149_0.keep K170)
    have c175 := (f149_1.keep K170 (ninS ne_b134_b136_0 nin0))
    refine gVirt X170 H hZ hown (hw _ wd56) (hw _ wd57) (hw _ wd59) (hw _ wd58) (by decide) c171 (hw _ wd60) (hw _ wd2) (rm174_11 B b134 _ O170 c175) rfl hml rfl pd3 rfl (W := 0) (argsL := []) (rest := []) rfl rfl at_196 199 rfl ?_
    intro v176 T176 L176 hq176 X176
    obtain ⟨rfl, e176, rfl⟩ := hq176
    have N176 := Fr.app N170 (Fr.nil _)
    show Go _ _ _ _ (State.setTop _ (mkF _ 199 _ [(.int 1)]))
    refine gIload X176 H at_199 rfl 201 rfl ?_
    refine gCmpN X176 H at_201 (by decide) 204 rfl ?_
    refine gIconst X176 H at_204 (z := 1) rfl 205 rfl ?_
    refine gGoto X176 H at_205 (by decide) 209 rfl ?_
    refine gIstore X176 H at_209 (Ls' := #[vI p0, vI p1, vI p2, vI p3, vI p4, vI p5, vI 1, vI 1, vI u8, vI u9, vR b134, vI 0, vI 1]) rfl 211 rfl ?_
    refine gIload X176 H at_211 rfl 213 rfl ?_
    refine gIfN X176 H at_213 (by decide) 216 rfl ?_
    refine gIload X176 H at_216 rfl 218 rfl ?_
    refine gIfN X176 H at_218 (by decide) 221 rfl ?_
    refine gAload X176 H at_221 rfl rfl 223 rfl ?_
    refine gIconst X176 H at_223 (z := 0) rfl 224 rfl ?_
    have c177 := (f149_2.keep K170 (ninS ne_b134_b136_0 nin0))
    refine gVirt X176 H hZ hown (hw _ wd61) (hw _ wd62) (hw _ wd64) (hw _ wd63) (by decide) c171 (hw _ wd65) (hw _ wd2) (rm126_12 B b134 b136_0 k136_0 p3 _ O170 c177 f170_0) e176 hml rfl pd6 rfl (W := 0) (argsL := [(.int 0)]) (rest := []) rfl rfl at_224 227 rfl ?_
    intro v178 T178 L178 hq178 X178
    obtain ⟨rfl, e178, rfl⟩ := hq178
    have N178 := Fr.app N176 (Fr.nil _)
    show Go _ _ _ _ (State.setTop _ (mkF _ 227 _ [(.int p3)]))
    refine gIload X178 H at_227 rfl 229 rfl ?_
    refine gIfN X178 H at_229 (by decide) 232 rfl ?_
    refine gIloadN X178 H at_232 rfl 233 rfl ?_
    refine gGoto X178 H at_233 (by decide) 237 rfl ?_
    refine gCmpN X178 H at_237 (teq rfl).2 240 rfl ?_
    refine gIconst X178 H at_240 (z := 1) rfl 241 rfl ?_
    refine gGoto X178 H at_241 (by decide) 245 rfl ?_
    refine gIstore X178 H at_245 (Ls' := #[vI p0, vI p1, vI p2, vI p3, vI p4, vI p5, vI 1, vI 1, vI u8, vI u9, vR b134, vI 0, vI 1]) rfl 247 rfl ?_
    refine gIload X178 H at_247 rfl 249 rfl ?_
    refine gIconst X178 H at_249 (z := 1) rfl 250 rfl ?_
    refine gCmpY X178 H at_250 (by decide) (by decide) 285 rfl ?_
    refine gIload X178 H at_285 rfl 287 rfl ?_
    refine gIconst X178 H at_287 (z := 2) rfl 288 rfl ?_
    refine gCmpY X178 H at_288 (by decide) (by decide) 323 rfl ?_
    refine gIload X178 H at_323 rfl 325 rfl ?_
    exact gRetN X178 H hlk hret (t := .boolean) (by simp) at_325 e178 ⟨rfl, N178⟩
  · have c188 := (f136_4.keep K149 (ninS (Ne.symm ne_b134_b136_0) nin0))
    refine gVirt X149 H hZ hown (hw _ wd51) (hw _ wd52) (hw _ wd54) (hw _ wd53) (by decide) f149_0 (hw _ wd55) (hw _ wd2) (rm187_10 B b134 u9 p3 b136_0 k136_0 p0 _ O149 f149_1 f149_2 c188 hc156) rfl hml rfl pd2 rfl (W := 0) (argsL := [(.int u9), (.int p3)]) (rest := []) rfl rfl at_135 138 rfl ?_
    intro v189 T189 L189 hq189 X189
    obtain ⟨rfl, e189, rfl⟩ := hq189
    have N189 := Fr.app N149 (Fr.nil _)
    show Go _ _ _ _ (State.setTop _ (mkF _ 138 _ []))
    refine gIload X189 H at_138 rfl 140 rfl ?_
    refine gIfN X189 H at_140 (by decide) 143 rfl ?_
    refine gIloadN X189 H at_143 rfl 144 rfl ?_
    refine gIload X189 H at_144 rfl 146 rfl ?_
    refine gCmpY X189 H at_146 (feq hc156).2 (by decide) 155 rfl ?_
    refine gIload X189 H at_155 rfl 157 rfl ?_
    refine gIconst X189 H at_157 (z := 1) rfl 158 rfl ?_
    refine gCmpY X189 H at_158 (by decide) (by decide) 173 rfl ?_
    refine gIload X189 H at_173 rfl 175 rfl ?_
    refine gIconst X189 H at_175 (z := 2) rfl 176 rfl ?_
    refine gCmpY X189 H at_176 (by decide) (by decide) 191 rfl ?_
    refine gIconst X189 H at_191 (z := (-1)) rfl 192 rfl ?_
    refine gIstore X189 H at_192 (Ls' := #[vI p0, vI p1, vI p2, vI p3, vI p4, vI p5, vI 1, vI 1, vI u8, vI u9, vR b134, vI (-1), .unset]) rfl 194 rfl ?_
    refine gAload X189 H at_194 rfl rfl 196 rfl ?_
    refine gVirt X189 H hZ hown (hw _ wd56) (hw _ wd57) (hw _ wd59) (hw _ wd58) (by decide) f149_0 (hw _ wd60) (hw _ wd2) (rm174_11 B b134 _ O149 f149_1) e189 hml rfl pd3 rfl (W := 0) (argsL := []) (rest := []) rfl rfl at_196 199 rfl ?_
    intro v190 T190 L190 hq190 X190
    obtain ⟨rfl, e190, rfl⟩ := hq190
    have N190 := Fr.app N189 (Fr.nil _)
    show Go _ _ _ _ (State.setTop _ (mkF _ 199 _ [(.int 1)]))
    refine gIload X190 H at_199 rfl 201 rfl ?_
    refine gCmpN X190 H at_201 (by decide) 204 rfl ?_
    refine gIconst X190 H at_204 (z := 1) rfl 205 rfl ?_
    refine gGoto X190 H at_205 (by decide) 209 rfl ?_
    refine gIstore X190 H at_209 (Ls' := #[vI p0, vI p1, vI p2, vI p3, vI p4, vI p5, vI 1, vI 1, vI u8, vI u9, vR b134, vI (-1), vI 1]) rfl 211 rfl ?_
    refine gIload X190 H at_211 rfl 213 rfl ?_
    refine gIfN X190 H at_213 (by decide) 216 rfl ?_
    refine gIload X190 H at_216 rfl 218 rfl ?_
    refine gIfN X190 H at_218 (by decide) 221 rfl ?_
    refine gAload X190 H at_221 rfl rfl 223 rfl ?_
    refine gIconst X190 H at_223 (z := 0) rfl 224 rfl ?_
    refine gVirt X190 H hZ hown (hw _ wd61) (hw _ wd62) (hw _ wd64) (hw _ wd63) (by decide) f149_0 (hw _ wd65) (hw _ wd2) (rm126_12 B b134 b136_0 k136_0 p0 _ O149 f149_2 c188) e190 hml rfl pd6 rfl (W := 0) (argsL := [(.int 0)]) (rest := []) rfl rfl at_224 227 rfl ?_
    intro v191 T191 L191 hq191 X191
    obtain ⟨rfl, e191, rfl⟩ := hq191
    have N191 := Fr.app N190 (Fr.nil _)
    show Go _ _ _ _ (State.setTop _ (mkF _ 227 _ [(.int p0)]))
    refine gIload X191 H at_227 rfl 229 rfl ?_
    refine gIfY X191 H at_229 (by decide) (by decide) 236 rfl ?_
    refine gIloadN X191 H at_236 rfl 237 rfl ?_
    refine gCmpN X191 H at_237 (teq rfl).2 240 rfl ?_
    refine gIconst X191 H at_240 (z := 1) rfl 241 rfl ?_
    refine gGoto X191 H at_241 (by decide) 245 rfl ?_
    refine gIstore X191 H at_245 (Ls' := #[vI p0, vI p1, vI p2, vI p3, vI p4, vI p5, vI 1, vI 1, vI u8, vI u9, vR b134, vI (-1), vI 1]) rfl 247 rfl ?_
    refine gIload X191 H at_247 rfl 249 rfl ?_
    refine gIconst X191 H at_249 (z := 1) rfl 250 rfl ?_
    refine gCmpY X191 H at_250 (by decide) (by decide) 285 rfl ?_
    refine gIload X191 H at_285 rfl 287 rfl ?_
    refine gIconst X191 H at_287 (z := 2) rfl 288 rfl ?_
    refine gCmpY X191 H at_288 (by decide) (by decide) 323 rfl ?_
    refine gIload X191 H at_323 rfl 325 rfl ?_
    exact gRetN X191 H hlk hret (t := .boolean) (by simp) at_325 e191 ⟨rfl, N191⟩
theorem lawAll_1 (B : Bg Z a0 w_Trail_NO_ROOM k_w_Trail_NO_ROOM) (p0 : Int32) (p1 : Int32) (p2 : Int32) (p3 : Int32) (p4 : Int32) (p5 : Int32) (ha0 : (p5 &&& (3 : Int32)) = (1 : Int32)) :
    Con l Z x code maxLocals ret room_1 #[(.int p0), (.int p1), (.int p2), (.int p3), (.int p4), (.int p5)] Z.heap (fun v h' L => v = some (.int 1) ∧ Fr Z.heap.size L) := by
  have hw := B.1
  obtain ⟨S_w_Trail_NO_ROOM, V_w_Trail_NO_ROOM⟩ := B.2
  refine Con.of (plainFor_of_name pn0) (Ls := #[vI p0, vI p1, vI p2, vI p3, vI p4, vI p5, .unset, .unset, .unset, .unset, .unset, .unset, .unset]) (fun _ => rfl) ?_
  intro p e s m below meth c T0 X0 H hml hZ hown hnm hret hlk e0
  have O0 := extR Z.heap
  have M0 := Nat.le_refl Z.heap.size
  have N0 := Fr.nil Z.heap.size
  refine gIload X0 H at_0 rfl 2 rfl ?_
  refine gIconst X0 H at_2 (z := 3) rfl 3 rfl ?_
  refine g_iand X0 H at_3 (z := 1) ha0 4 rfl ?_
  refine gIstore X0 H at_4 (Ls' := #[vI p0, vI p1, vI p2, vI p3, vI p4, vI p5, vI 1, .unset, .unset, .unset, .unset, .unset, .unset]) rfl 6 rfl ?_
  refine gIload X0 H at_6 rfl 8 rfl ?_
  refine gIconst X0 H at_8 (z := 2) rfl 9 rfl ?_
  refine g_iushr X0 H at_9 (z := ((p5.toUInt32 >>> ((2 : Int32) &&& 31).toUInt32).toInt32)) rfl 10 rfl ?_
  refine gIconst X0 H at_10 (z := 3) rfl 11 rfl ?_
  refine g_iand X0 H at_11 (z := (((p5.toUInt32 >>> ((2 : Int32) &&& 31).toUInt32).toInt32) &&& (3 : Int32))) rfl 12 rfl ?_
  refine gIload X0 H at_12 rfl 14 rfl ?_
  refine gIconst X0 H at_14 (z := 1) rfl 15 rfl ?_
  refine g_iadd X0 H at_15 (z := 2) (by decide) 16 rfl ?_
  rcases mm3_2 ((p5.toUInt32 >>> ((2 : Int32) &&& 31).toUInt32).toInt32) with hn42 | hn42
  · refine g_irem X0 H at_16 (by decide) (z := 0) hn42 17 rfl ?_
    refine gIstore X0 H at_17 (Ls' := #[vI p0, vI p1, vI p2, vI p3, vI p4, vI p5, vI 1, vI 0, .unset, .unset, .unset, .unset, .unset]) rfl 19 rfl ?_
    refine gIload X0 H at_19 rfl 21 rfl ?_
    refine gIconst X0 H at_21 (z := 4) rfl 22 rfl ?_
    refine g_iushr X0 H at_22 (z := ((p5.toUInt32 >>> ((4 : Int32) &&& 31).toUInt32).toInt32)) rfl 23 rfl ?_
    refine gBipush X0 H at_23 (z := 7) rfl 25 rfl ?_
    refine g_iand X0 H at_25 (z := (((p5.toUInt32 >>> ((4 : Int32) &&& 31).toUInt32).toInt32) &&& (7 : Int32))) rfl 26 rfl ?_
    refine gIstore X0 H at_26 (Ls' := #[vI p0, vI p1, vI p2, vI p3, vI p4, vI p5, vI 1, vI 0, vI (((p5.toUInt32 >>> ((4 : Int32) &&& 31).toUInt32).toInt32) &&& (7 : Int32)), .unset, .unset, .unset, .unset]) rfl 28 rfl ?_
    refine gIload X0 H at_28 rfl 30 rfl ?_
    by_cases hc43 : (((p5.toUInt32 >>> ((4 : Int32) &&& 31).toUInt32).toInt32) &&& (7 : Int32)) = (0 : Int32)
    · refine gIfN X0 H at_30 ((if0 _ _).trans (teq hc43).2) 33 rfl ?_
      refine gIloadN X0 H at_33 rfl 34 rfl ?_
      refine gIstore X0 H at_34 (Ls' := #[vI p0, vI p1, vI p2, vI p3, vI p4, vI p5, vI 1, vI 0, vI (((p5.toUInt32 >>> ((4 : Int32) &&& 31).toUInt32).toInt32) &&& (7 : Int32)), vI p0, .unset, .unset, .unset]) rfl 36 rfl ?_
      refine gGoto X0 H at_36 (by decide) 79 rfl ?_
      exact cut44_79 B p0 p1 p2 p3 p4 p5 ((((p5.toUInt32 >>> ((4 : Int32) &&& 31).toUInt32).toInt32) &&& (7 : Int32))) p0 X0 H hml hZ hown hnm hret hlk e0
    · refine gIfY X0 H at_30 ((if0 _ _).trans (feq hc43).2) (by decide) 39 rfl ?_
      refine gIload X0 H at_39 rfl 41 rfl ?_
      refine gIconst X0 H at_41 (z := 1) rfl 42 rfl ?_
      by_cases hc129 : (((p5.toUInt32 >>> ((4 : Int32) &&& 31).toUInt32).toInt32) &&& (7 : Int32)) = (1 : Int32)
      · refine gCmpN X0 H at_42 (teq hc129).2 45 rfl ?_
        refine gIloadN X0 H at_45 rfl 46 rfl ?_
        refine gIstore X0 H at_46 (Ls' := #[vI p0, vI p1, vI p2, vI p3, vI p4, vI p5, vI 1, vI 0, vI (((p5.toUInt32 >>> ((4 : Int32) &&& 31).toUInt32).toInt32) &&& (7 : Int32)), vI p1, .unset, .unset, .unset]) rfl 48 rfl ?_
        refine gGoto X0 H at_48 (by decide) 79 rfl ?_
        exact cut44_79 B p0 p1 p2 p3 p4 p5 ((((p5.toUInt32 >>> ((4 : Int32) &&& 31).toUInt32).toInt32) &&& (7 : Int32))) p1 X0 H hml hZ hown hnm hret hlk e0
      · refine gCmpY X0 H at_42 (feq hc129).2 (by decide) 51 rfl ?_
        refine gIload X0 H at_51 rfl 53 rfl ?_
        refine gIconst X0 H at_53 (z := 2) rfl 54 rfl ?_
        by_cases hc130 : (((p5.toUInt32 >>> ((4 : Int32) &&& 31).toUInt32).toInt32) &&& (7 : Int32)) = (2 : Int32)
        · refine gCmpN X0 H at_54 (teq hc130).2 57 rfl ?_
          refine gIloadN X0 H at_57 rfl 58 rfl ?_
          refine gIstore X0 H at_58 (Ls' := #[vI p0, vI p1, vI p2, vI p3, vI p4, vI p5, vI 1, vI 0, vI (((p5.toUInt32 >>> ((4 : Int32) &&& 31).toUInt32).toInt32) &&& (7 : Int32)), vI p2, .unset, .unset, .unset]) rfl 60 rfl ?_
          refine gGoto X0 H at_60 (by decide) 79 rfl ?_
          exact cut44_79 B p0 p1 p2 p3 p4 p5 ((((p5.toUInt32 >>> ((4 : Int32) &&& 31).toUInt32).toInt32) &&& (7 : Int32))) p2 X0 H hml hZ hown hnm hret hlk e0
        · refine gCmpY X0 H at_54 (feq hc130).2 (by decide) 63 rfl ?_
          refine gIload X0 H at_63 rfl 65 rfl ?_
          refine gIconst X0 H at_65 (z := 3) rfl 66 rfl ?_
          by_cases hc131 : (((p5.toUInt32 >>> ((4 : Int32) &&& 31).toUInt32).toInt32) &&& (7 : Int32)) = (3 : Int32)
          · refine gCmpN X0 H at_66 (teq hc131).2 69 rfl ?_
            refine gIloadN X0 H at_69 rfl 70 rfl ?_
            refine gIstore X0 H at_70 (Ls' := #[vI p0, vI p1, vI p2, vI p3, vI p4, vI p5, vI 1, vI 0, vI (((p5.toUInt32 >>> ((4 : Int32) &&& 31).toUInt32).toInt32) &&& (7 : Int32)), vI p3, .unset, .unset, .unset]) rfl 72 rfl ?_
            refine gGoto X0 H at_72 (by decide) 79 rfl ?_
            exact cut44_79 B p0 p1 p2 p3 p4 p5 ((((p5.toUInt32 >>> ((4 : Int32) &&& 31).toUInt32).toInt32) &&& (7 : Int32))) p3 X0 H hml hZ hown hnm hret hlk e0
          · refine gCmpY X0 H at_66 (feq hc131).2 (by decide) 75 rfl ?_
            refine gIload X0 H at_75 rfl 77 rfl ?_
            refine gIstore X0 H at_77 (Ls' := #[vI p0, vI p1, vI p2, vI p3, vI p4, vI p5, vI 1, vI 0, vI (((p5.toUInt32 >>> ((4 : Int32) &&& 31).toUInt32).toInt32) &&& (7 : Int32)), vI p4, .unset, .unset, .unset]) rfl 79 rfl ?_
            exact cut44_79 B p0 p1 p2 p3 p4 p5 ((((p5.toUInt32 >>> ((4 : Int32) &&& 31).toUInt32).toInt32) &&& (7 : Int32))) p4 X0 H hml hZ hown hnm hret hlk e0
  · refine g_irem X0 H at_16 (by decide) (z := 1) hn42 17 rfl ?_
    refine gIstore X0 H at_17 (Ls' := #[vI p0, vI p1, vI p2, vI p3, vI p4, vI p5, vI 1, vI 1, .unset, .unset, .unset, .unset, .unset]) rfl 19 rfl ?_
    refine gIload X0 H at_19 rfl 21 rfl ?_
    refine gIconst X0 H at_21 (z := 4) rfl 22 rfl ?_
    refine g_iushr X0 H at_22 (z := ((p5.toUInt32 >>> ((4 : Int32) &&& 31).toUInt32).toInt32)) rfl 23 rfl ?_
    refine gBipush X0 H at_23 (z := 7) rfl 25 rfl ?_
    refine g_iand X0 H at_25 (z := (((p5.toUInt32 >>> ((4 : Int32) &&& 31).toUInt32).toInt32) &&& (7 : Int32))) rfl 26 rfl ?_
    refine gIstore X0 H at_26 (Ls' := #[vI p0, vI p1, vI p2, vI p3, vI p4, vI p5, vI 1, vI 1, vI (((p5.toUInt32 >>> ((4 : Int32) &&& 31).toUInt32).toInt32) &&& (7 : Int32)), .unset, .unset, .unset, .unset]) rfl 28 rfl ?_
    refine gIload X0 H at_28 rfl 30 rfl ?_
    by_cases hc132 : (((p5.toUInt32 >>> ((4 : Int32) &&& 31).toUInt32).toInt32) &&& (7 : Int32)) = (0 : Int32)
    · refine gIfN X0 H at_30 ((if0 _ _).trans (teq hc132).2) 33 rfl ?_
      refine gIloadN X0 H at_33 rfl 34 rfl ?_
      refine gIstore X0 H at_34 (Ls' := #[vI p0, vI p1, vI p2, vI p3, vI p4, vI p5, vI 1, vI 1, vI (((p5.toUInt32 >>> ((4 : Int32) &&& 31).toUInt32).toInt32) &&& (7 : Int32)), vI p0, .unset, .unset, .unset]) rfl 36 rfl ?_
      refine gGoto X0 H at_36 (by decide) 79 rfl ?_
      exact cut133_79 B p0 p1 p2 p3 p4 p5 ((((p5.toUInt32 >>> ((4 : Int32) &&& 31).toUInt32).toInt32) &&& (7 : Int32))) p0 X0 H hml hZ hown hnm hret hlk e0
    · refine gIfY X0 H at_30 ((if0 _ _).trans (feq hc132).2) (by decide) 39 rfl ?_
      refine gIload X0 H at_39 rfl 41 rfl ?_
      refine gIconst X0 H at_41 (z := 1) rfl 42 rfl ?_
      by_cases hc192 : (((p5.toUInt32 >>> ((4 : Int32) &&& 31).toUInt32).toInt32) &&& (7 : Int32)) = (1 : Int32)
      · refine gCmpN X0 H at_42 (teq hc192).2 45 rfl ?_
        refine gIloadN X0 H at_45 rfl 46 rfl ?_
        refine gIstore X0 H at_46 (Ls' := #[vI p0, vI p1, vI p2, vI p3, vI p4, vI p5, vI 1, vI 1, vI (((p5.toUInt32 >>> ((4 : Int32) &&& 31).toUInt32).toInt32) &&& (7 : Int32)), vI p1, .unset, .unset, .unset]) rfl 48 rfl ?_
        refine gGoto X0 H at_48 (by decide) 79 rfl ?_
        exact cut133_79 B p0 p1 p2 p3 p4 p5 ((((p5.toUInt32 >>> ((4 : Int32) &&& 31).toUInt32).toInt32) &&& (7 : Int32))) p1 X0 H hml hZ hown hnm hret hlk e0
      · refine gCmpY X0 H at_42 (feq hc192).2 (by decide) 51 rfl ?_
        refine gIload X0 H at_51 rfl 53 rfl ?_
        refine gIconst X0 H at_53 (z := 2) rfl 54 rfl ?_
        by_cases hc193 : (((p5.toUInt32 >>> ((4 : Int32) &&& 31).toUInt32).toInt32) &&& (7 : Int32)) = (2 : Int32)
        · refine gCmpN X0 H at_54 (teq hc193).2 57 rfl ?_
          refine gIloadN X0 H at_57 rfl 58 rfl ?_
          refine gIstore X0 H at_58 (Ls' := #[vI p0, vI p1, vI p2, vI p3, vI p4, vI p5, vI 1, vI 1, vI (((p5.toUInt32 >>> ((4 : Int32) &&& 31).toUInt32).toInt32) &&& (7 : Int32)), vI p2, .unset, .unset, .unset]) rfl 60 rfl ?_
          refine gGoto X0 H at_60 (by decide) 79 rfl ?_
          exact cut133_79 B p0 p1 p2 p3 p4 p5 ((((p5.toUInt32 >>> ((4 : Int32) &&& 31).toUInt32).toInt32) &&& (7 : Int32))) p2 X0 H hml hZ hown hnm hret hlk e0
        · refine gCmpY X0 H at_54 (feq hc193).2 (by decide) 63 rfl ?_
          refine gIload X0 H at_63 rfl 65 rfl ?_
          refine gIconst X0 H at_65 (z := 3) rfl 66 rfl ?_
          by_cases hc194 : (((p5.toUInt32 >>> ((4 : Int32) &&& 31).toUInt32).toInt32) &&& (7 : Int32)) = (3 : Int32)
          · refine gCmpN X0 H at_66 (teq hc194).2 69 rfl ?_
            refine gIloadN X0 H at_69 rfl 70 rfl ?_
            refine gIstore X0 H at_70 (Ls' := #[vI p0, vI p1, vI p2, vI p3, vI p4, vI p5, vI 1, vI 1, vI (((p5.toUInt32 >>> ((4 : Int32) &&& 31).toUInt32).toInt32) &&& (7 : Int32)), vI p3, .unset, .unset, .unset]) rfl 72 rfl ?_
            refine gGoto X0 H at_72 (by decide) 79 rfl ?_
            exact cut133_79 B p0 p1 p2 p3 p4 p5 ((((p5.toUInt32 >>> ((4 : Int32) &&& 31).toUInt32).toInt32) &&& (7 : Int32))) p3 X0 H hml hZ hown hnm hret hlk e0
          · refine gCmpY X0 H at_66 (feq hc194).2 (by decide) 75 rfl ?_
            refine gIload X0 H at_75 rfl 77 rfl ?_
            refine gIstore X0 H at_77 (Ls' := #[vI p0, vI p1, vI p2, vI p3, vI p4, vI p5, vI 1, vI 1, vI (((p5.toUInt32 >>> ((4 : Int32) &&& 31).toUInt32).toInt32) &&& (7 : Int32)), vI p4, .unset, .unset, .unset]) rfl 79 rfl ?_
            exact cut133_79 B p0 p1 p2 p3 p4 p5 ((((p5.toUInt32 >>> ((4 : Int32) &&& 31).toUInt32).toInt32) &&& (7 : Int32))) p4 X0 H hml hZ hown hnm hret hlk e0
theorem rm212_8 (B : Bg Z a0 w_Trail_NO_ROOM k_w_Trail_NO_ROOM) (ro0 : Addr) (h : Heap) (O : Ext Z.heap h) (q210 : Fld Z h ro0 cs0 "unchanged" "B" (.int 0)) :
    Con l Z yM8 prog_22_method_15_code 2 none ({ frames := 0, cells := 0, slots := 0, locals := 0 } : Room) #[(.ref ro0), (.int 1)] h (fun v h' L => v = none ∧ h' = h ∧ L = []) := by
  have hw := B.1
  refine Con.of (plainFor_of_name pn8) (Ls := #[vR ro0, vI 1]) (fun _ => rfl) ?_
  intro p e s m below meth c T0 X0 H hml hZ hown hnm hret hlk e0
  refine gIloadN X0 H d8_0 rfl 1 rfl ?_
  refine gAloadN X0 H d8_1 rfl rfl 2 rfl ?_
  refine gGetF X0 H hZ hown (hw _ wd44) Via.refl e0 q210 d8_2 5 rfl ?_
  intro T211 X211 e211
  refine gCmpY X211 H d8_5 (by decide) (by decide) 14 rfl ?_
  exact gRetV X211 H hlk hret d8_14 e211 ⟨rfl, rfl, rfl⟩
theorem rm232_3 (B : Bg Z a0 w_Trail_NO_ROOM k_w_Trail_NO_ROOM) (ro0 : Addr) (vi1 : Int32) (ro2 : Addr) (ck3 : ClassId) (vi4 : Int32) (h : Heap) (O : Ext Z.heap h) (q202 : Fld Z h ro0 cs0 "depth" "I" (.int 1)) (q204 : Fld Z h ro0 cs0 "entries" "[I" (.ref ro2)) (q207 : Arl Z h ro2 (16 : Int32)) (q209 : Exa Z h ro0 cs0) (q213 : Fld Z h ro0 cs0 "unchanged" "B" (.int 0)) (q218 : Arv Z h ro2 ck3 .int (16 : Int32) [(.int vi4), (.int 0), (.int 0), (.int 0), (.int 0), (.int 0), (.int 0), (.int 0), (.int 0), (.int 0), (.int 0), (.int 0), (.int 0), (.int 0), (.int 0), (.int 0)] (.int 0)) (q219 : Z.heap.size ≤ ro2) (q220 : ro0 ≠ ro2) (q225 : Z.heap.size ≤ ro0) :
    Con l Z yM3 prog_22_method_6_code 2 none ({ frames := 1, cells := 0, slots := 0, locals := 13 } : Room) #[(.ref ro0), (.int vi1)] h (fun v h' L => v = none ∧ Fr Z.heap.size L ∧ Keep h h' [ro2, ro0] ∧ Fld Z h' ro0 cs0 "depth" "I" (.int 2) ∧ Fld Z h' ro0 cs0 "entries" "[I" (.ref ro2) ∧ Exa Z h' ro0 cs0 ∧ Fld Z h' ro0 cs0 "unchanged" "B" (.int 0) ∧ Arv Z h' ro2 ck3 .int (16 : Int32) [(.int vi4), (.int vi1), (.int 0), (.int 0), (.int 0), (.int 0), (.int 0), (.int 0), (.int 0), (.int 0), (.int 0), (.int 0), (.int 0), (.int 0), (.int 0), (.int 0)] (.int 0)) := by
  have hw := B.1
  refine Con.of (plainFor_of_name pn3) (Ls := #[vR ro0, vI vi1]) (fun _ => rfl) ?_
  intro p e s m below meth c T0 X0 H hml hZ hown hnm hret hlk e0
  have N0 := Fr.nil Z.heap.size
  refine gAloadN X0 H d3_0 rfl rfl 1 rfl ?_
  refine gGetF X0 H hZ hown (hw _ wd18) Via.refl e0 q202 d3_1 4 rfl ?_
  intro T203 X203 e203
  refine gAloadN X203 H d3_4 rfl rfl 5 rfl ?_
  refine gGetF X203 H hZ hown (hw _ wd11) Via.refl e203 q204 d3_5 8 rfl ?_
  intro T205 X205 e205
  refine gLen X205 H hZ e205 q207 d3_8 9 rfl ?_
  refine gCmpY X205 H d3_9 (by decide) (by decide) 16 rfl ?_
  refine gAloadN X205 H d3_16 rfl rfl 17 rfl ?_
  refine gAloadN X205 H d3_17 rfl rfl 18 rfl ?_
  refine gGetF X205 H hZ hown (hw _ wd18) Via.refl e205 q202 d3_18 21 rfl ?_
  intro T208 X208 e208
  refine gPrivate X208 H hZ hown (hw _ wd40) (hw _ wd41) (hw _ wd42) (hw _ wd1) (by decide) q209 (hw _ wd43) (hw _ wd2) (rm212_8 B ro0 _ O q213) e208 hml rfl pd1 rfl (W := 0) (argsL := [(.int 1)]) (rest := []) rfl rfl d3_21 24 rfl ?_
  intro v214 T214 L214 hq214 X214
  obtain ⟨rfl, e214, rfl⟩ := hq214
  have N214 := Fr.app N0 (Fr.nil _)
  show Go _ _ _ _ (State.setTop _ (mkF _ 24 _ []))
  refine gAloadN X214 H d3_24 rfl rfl 25 rfl ?_
  refine gGetF X214 H hZ hown (hw _ wd11) Via.refl e214 q204 d3_25 28 rfl ?_
  intro T215 X215 e215
  refine gAloadN X215 H d3_28 rfl rfl 29 rfl ?_
  refine gGetF X215 H hZ hown (hw _ wd18) Via.refl e215 q202 d3_29 32 rfl ?_
  intro T216 X216 e216
  refine gIloadN X216 H d3_32 rfl 33 rfl ?_
  refine gIastore X216 H hZ e216 q218 ⟨by decide, by decide⟩ (i := 1) rfl (Nat.le_of_ble_eq_true rfl) (vs' := [(.int vi4), (.int vi1), (.int 0), (.int 0), (.int 0), (.int 0), (.int 0), (.int 0), (.int 0), (.int 0), (.int 0), (.int 0), (.int 0), (.int 0), (.int 0), (.int 0)]) rfl d3_33 34 rfl ?_
  intro T217 h217 X217 e217 W217 V217
  have O217 := extW O W217 q219
  have N217 := Fr.snoc X217 N214 q219
  refine gAloadN X217 H d3_34 rfl rfl 35 rfl ?_
  refine gDup X217 H d3_35 rfl 36 rfl ?_
  have c221 := (q202.other W217 (Or.inl q220))
  refine gGetF X217 H hZ hown (hw _ wd18) Via.refl e217 c221 d3_36 39 rfl ?_
  intro T222 X222 e222
  refine gIconst X222 H d3_39 (z := 1) rfl 40 rfl ?_
  refine g_iadd X222 H d3_40 (z := 2) (by decide) 41 rfl ?_
  have c224 := (q209.wr W217)
  refine gPutF X222 H hZ hown (hw _ wd18) Via.refl e222 c221 c224 (Or.inl (hw _ wd19)) (hw _ wd1) (ty := .int) (by decide) (v' := (.int 2)) rfl rfl d3_41 44 rfl ?_
  intro T223 h223 X223 e223 W223 F223
  have O223 := extW O217 W223 q225
  have N223 := Fr.snoc X223 N217 q225
  have c226 := (V217.other W223 (Ne.symm q220))
  have c227 := ((q204.other W217 (Or.inl q220)).other W223 (Or.inr (sn2 hw)))
  have c228 := (c224.wr W223)
  have c229 := ((q213.other W217 (Or.inl q220)).other W223 (Or.inr (sn3 hw)))
  have K_230 := (Keep.refl h [ro2, ro0]).wr W217 (Or.inl (List.mem_of_getElem? (i := 0) rfl))
  have K_231 := K_230.wr W223 (Or.inl (List.mem_of_getElem? (i := 1) rfl))
  exact gRetV X223 H hlk hret d3_44 e223 ⟨rfl, N223, K_231, F223, c227, c228, c229, c226⟩
theorem rm244_9 (B : Bg Z a0 w_Trail_NO_ROOM k_w_Trail_NO_ROOM) (ro0 ro1 : Addr) (h : Heap) (O : Ext Z.heap h) (q235 : Exa Z h ro0 cs0) (q236 : Fld Z h ro0 cs0 "depth" "I" (.int 2)) (q237 : Z.heap.size ≤ ro0) (q239 : Fld Z h ro0 cs0 "entries" "[I" (.ref ro1)) (q241 : Fld Z h ro0 cs0 "unchanged" "B" (.int 0)) :
    Con l Z yM9 prog_22_method_8_code 2 none ({ frames := 0, cells := 0, slots := 0, locals := 0 } : Room) #[(.ref ro0), (.int 0)] h (fun v h' L => v = none ∧ Fr Z.heap.size L ∧ Keep h h' [ro0] ∧ Exa Z h' ro0 cs0 ∧ Fld Z h' ro0 cs0 "depth" "I" (.int 0) ∧ Fld Z h' ro0 cs0 "entries" "[I" (.ref ro1) ∧ Fld Z h' ro0 cs0 "unchanged" "B" (.int 0)) := by
  have hw := B.1
  refine Con.of (plainFor_of_name pn9) (Ls := #[vR ro0, vI 0]) (fun _ => rfl) ?_
  intro p e s m below meth c T0 X0 H hml hZ hown hnm hret hlk e0
  have N0 := Fr.nil Z.heap.size
  refine gAloadN X0 H d9_0 rfl rfl 1 rfl ?_
  refine gIloadN X0 H d9_1 rfl 2 rfl ?_
  refine gPutF X0 H hZ hown (hw _ wd18) Via.refl e0 q236 q235 (Or.inl (hw _ wd19)) (hw _ wd1) (ty := .int) (by decide) (v' := (.int 0)) rfl rfl d9_2 5 rfl ?_
  intro T234 h234 X234 e234 W234 F234
  have O234 := extW O W234 q237
  have N234 := Fr.snoc X234 N0 q237
  have c238 := (q235.wr W234)
  have c240 := (q239.other W234 (Or.inr (sn2 hw)))
  have c242 := (q241.other W234 (Or.inr (sn3 hw)))
  have K_243 := (Keep.refl h [ro0]).wr W234 (Or.inl (List.mem_of_getElem? (i := 0) rfl))
  exact gRetV X234 H hlk hret d9_5 e234 ⟨rfl, N234, K_243, c238, F234, c240, c242⟩
theorem rm252_12 (B : Bg Z a0 w_Trail_NO_ROOM k_w_Trail_NO_ROOM) (ro0 ro1 : Addr) (ck2 : ClassId) (vi3 vi4 : Int32) (h : Heap) (O : Ext Z.heap h) (q248 : Fld Z h ro0 cs0 "entries" "[I" (.ref ro1)) (q251 : Arv Z h ro1 ck2 .int (16 : Int32) [(.int vi3), (.int vi4), (.int 0), (.int 0), (.int 0), (.int 0), (.int 0), (.int 0), (.int 0), (.int 0), (.int 0), (.int 0), (.int 0), (.int 0), (.int 0), (.int 0)] (.int 0)) :
    Con l Z yM12 prog_22_method_3_code 2 (some .int) ({ frames := 0, cells := 0, slots := 0, locals := 0 } : Room) #[(.ref ro0), (.int 0)] h (fun v h' L => v = some (.int vi3) ∧ h' = h ∧ L = []) := by
  have hw := B.1
  refine Con.of (plainFor_of_name pn12) (Ls := #[vR ro0, vI 0]) (fun _ => rfl) ?_
  intro p e s m below meth c T0 X0 H hml hZ hown hnm hret hlk e0
  refine gAloadN X0 H d12_0 rfl rfl 1 rfl ?_
  refine gGetF X0 H hZ hown (hw _ wd11) Via.refl e0 q248 d12_1 4 rfl ?_
  intro T249 X249 e249
  refine gIloadN X249 H d12_4 rfl 5 rfl ?_
  refine gIaload X249 H hZ e249 q251 ⟨by decide, by decide⟩ (v := (.int vi3)) rfl d12_5 6 rfl ?_
  exact gRetI X249 H hlk hret d12_6 e249 ⟨rfl, rfl, rfl⟩
theorem rm259_12 (B : Bg Z a0 w_Trail_NO_ROOM k_w_Trail_NO_ROOM) (ro0 ro1 : Addr) (ck2 : ClassId) (vi3 vi4 : Int32) (h : Heap) (O : Ext Z.heap h) (q255 : Fld Z h ro0 cs0 "entries" "[I" (.ref ro1)) (q258 : Arv Z h ro1 ck2 .int (16 : Int32) [(.int vi3), (.int vi4), (.int 0), (.int 0), (.int 0), (.int 0), (.int 0), (.int 0), (.int 0), (.int 0), (.int 0), (.int 0), (.int 0), (.int 0), (.int 0), (.int 0)] (.int 0)) :
    Con l Z yM12 prog_22_method_3_code 2 (some .int) ({ frames := 0, cells := 0, slots := 0, locals := 0 } : Room) #[(.ref ro0), (.int 1)] h (fun v h' L => v = some (.int vi4) ∧ h' = h ∧ L = []) := by
  have hw := B.1
  refine Con.of (plainFor_of_name pn12) (Ls := #[vR ro0, vI 1]) (fun _ => rfl) ?_
  intro p e s m below meth c T0 X0 H hml hZ hown hnm hret hlk e0
  refine gAloadN X0 H d12_0 rfl rfl 1 rfl ?_
  refine gGetF X0 H hZ hown (hw _ wd11) Via.refl e0 q255 d12_1 4 rfl ?_
  intro T256 X256 e256
  refine gIloadN X256 H d12_4 rfl 5 rfl ?_
  refine gIaload X256 H hZ e256 q258 ⟨by decide, by decide⟩ (v := (.int vi4)) rfl d12_5 6 rfl ?_
  exact gRetI X256 H hlk hret d12_6 e256 ⟨rfl, rfl, rfl⟩
theorem cut197_79 (B : Bg Z a0 w_Trail_NO_ROOM k_w_Trail_NO_ROOM) (p0 : Int32) (p1 : Int32) (p2 : Int32) (p3 : Int32) (p4 : Int32) (p5 : Int32) (u8 : Int32) (u9 : Int32) {p : Program} {e : Env} {s : State} {m : MethodId} {below : List Frame} {meth : Method} {c : Code} {T0 : State} (X0 : Stand p l e room_1 s m #[(.int p0), (.int p1), (.int p2), (.int p3), (.int p4), (.int p5)] below meth c T0 [] 0 0) (H : p.tables.exec = Jvm.exec ∧ c.code = code) (hml : c.maxLocals = maxLocals) (hZ : Z.Warmed39 s.vm) (hown : s.vm.findClass x.cls = some m.cls) (hnm : meth.name = x.name) (hret : meth.sig.returnType = ret) (hlk : meth.locks = false) (e0 : T0.heap = Z.heap) :
    Go p e below (EndK s below (fun v h' L => v = some (.int 1) ∧ Fr Z.heap.size L) room_1.cells room_1.slots) (T0.setTop (mkF m 79 #[vI p0, vI p1, vI p2, vI p3, vI p4, vI p5, vI 2, vI 0, vI u8, vI u9, .unset, .unset, .unset] [])) := by
  have hw := B.1
  obtain ⟨S_w_Trail_NO_ROOM, V_w_Trail_NO_ROOM⟩ := B.2
  have O0 := extR Z.heap
  have M0 := Nat.le_refl Z.heap.size
  have N0 := Fr.nil Z.heap.size
  refine gNew X0 H hZ hown (hw _ wd0) (hw _ wd1) (hw _ wd2) e0 (by decide) (by decide) at_79 82 rfl ?_
  intro T198 h198 b198 X198 e198 z198 E198 A198 D198
  have G_b198 := Nat.le_trans O0.1 (Nat.le_of_eq z198)
  have sz_b198 := Nat.le_trans M0 (Nat.le_of_eq z198)
  have O198 := extT O0 E198
  have F198_entries : Fld Z h198 b198 cs0 "entries" "[I" .null := D198 (Or.inl (hw _ wd12)) (ty := (.array .int)) (by decide)
  have F198_depth : Fld Z h198 b198 cs0 "depth" "I" (.int 0) := D198 (Or.inl (hw _ wd19)) (ty := .int) (by decide)
  have F198_unchanged : Fld Z h198 b198 cs0 "unchanged" "B" (.int 0) := D198 (Or.inl (hw _ wd45)) (ty := .byte) (by decide)
  refine gDup X198 H at_82 rfl 83 rfl ?_
  refine gSpecial X198 H hZ hown rfl rfl (hw _ wd3) (hw _ wd4) (by decide) (hw _ wd5) (hw _ wd2) (rm17_1 B b198 _ O198 A198 F198_entries G_b198 F198_depth F198_unchanged) e198 hml rfl pd0 rfl (W := 1) (argsL := []) (rest := [(.ref b198)]) rfl rfl at_83 86 rfl ?_
  intro v199 T199 L199 hq199 X199
  obtain ⟨rfl, N199q, K199, f199_0, f199_1, f199_2, f199_3⟩ := hq199
  have O199 := extK O198 K199 (allS G_b198 all0)
  have N199 := Fr.app N0 N199q
  show Go _ _ _ _ (State.setTop _ (mkF _ 86 _ [(.ref b198)]))
  refine gAstore X199 H at_86 rfl (Ls' := #[vI p0, vI p1, vI p2, vI p3, vI p4, vI p5, vI 2, vI 0, vI u8, vI u9, vR b198, .unset, .unset]) rfl 88 rfl ?_
  refine gIload X199 H at_88 rfl 90 rfl ?_
  refine gIfN X199 H at_90 (by decide) 93 rfl ?_
  refine gAload X199 H at_93 rfl rfl 95 rfl ?_
  refine gIloadN X199 H at_95 rfl 96 rfl ?_
  refine gVirt X199 H hZ hown (hw _ wd13) (hw _ wd14) (hw _ wd16) (hw _ wd15) (by decide) f199_0 (hw _ wd17) (hw _ wd2) (rm105_3 B b198 p0 _ O199 f199_2 f199_1 f199_0 G_b198 f199_3) rfl hml rfl pd1 rfl (W := 0) (argsL := [(.int p0)]) (rest := []) rfl rfl at_96 99 rfl ?_
  intro v200 T200 L200 hq200 X200
  obtain ⟨b200_0, k200_0, rfl, N200q, K200, s200_0, f200_0, f200_1, f200_2, f200_3, f200_4⟩ := hq200
  have M201 := (Nat.le_trans (Nat.le_trans M0 E198.1) K199.1)
  have G_b200_0 := Nat.le_trans O199.1 s200_0
  have sz_b200_0 := Nat.le_trans M201 s200_0
  have ne_b198_b200_0 : b198 ≠ b200_0 := neB f199_0.lt s200_0
  have O200 := extK O199 K200 (allS G_b198 all0)
  have N200 := Fr.app N199 N200q
  show Go _ _ _ _ (State.setTop _ (mkF _ 99 _ []))
  refine gIload X200 H at_99 rfl 101 rfl ?_
  refine gIconst X200 H at_101 (z := 1) rfl 102 rfl ?_
  refine gCmpN X200 H at_102 (by decide) 105 rfl ?_
  refine gAload X200 H at_105 rfl rfl 107 rfl ?_
  refine gIloadN X200 H at_107 rfl 108 rfl ?_
  refine gVirt X200 H hZ hown (hw _ wd13) (hw _ wd14) (hw _ wd16) (hw _ wd15) (by decide) f200_2 (hw _ wd17) (hw _ wd2) (rm232_3 B b198 p1 b200_0 k200_0 p0 _ O200 f200_0 f200_1 (Arv.arl f200_4) f200_2 f200_3 f200_4 G_b200_0 ne_b198_b200_0 G_b198) rfl hml rfl pd1 rfl (W := 0) (argsL := [(.int p1)]) (rest := []) rfl rfl at_108 111 rfl ?_
  intro v233 T233 L233 hq233 X233
  obtain ⟨rfl, N233q, K233, f233_0, f233_1, f233_2, f233_3, f233_4⟩ := hq233
  have O233 := extK O200 K233 (allS G_b200_0 (allS G_b198 all0))
  have N233 := Fr.app N200 N233q
  show Go _ _ _ _ (State.setTop _ (mkF _ 111 _ []))
  refine gIload X233 H at_111 rfl 113 rfl ?_
  refine gIconst X233 H at_113 (z := 2) rfl 114 rfl ?_
  refine gCmpY X233 H at_114 (by decide) (by decide) 123 rfl ?_
  refine gAload X233 H at_123 rfl rfl 125 rfl ?_
  refine gIload X233 H at_125 rfl 127 rfl ?_
  refine gVirt X233 H hZ hown (hw _ wd46) (hw _ wd47) (hw _ wd49) (hw _ wd48) (by decide) f233_2 (hw _ wd50) (hw _ wd2) (rm244_9 B b198 b200_0 _ O233 f233_2 f233_0 G_b198 f233_1 f233_3) rfl hml rfl pd1 rfl (W := 0) (argsL := [(.int 0)]) (rest := []) rfl rfl at_127 130 rfl ?_
  intro v245 T245 L245 hq245 X245
  obtain ⟨rfl, N245q, K245, f245_0, f245_1, f245_2, f245_3⟩ := hq245
  have O245 := extK O233 K245 (allS G_b198 all0)
  have N245 := Fr.app N233 N245q
  show Go _ _ _ _ (State.setTop _ (mkF _ 130 _ []))
  refine gAload X245 H at_130 rfl rfl 132 rfl ?_
  refine gIload X245 H at_132 rfl 134 rfl ?_
  refine gIloadN X245 H at_134 rfl 135 rfl ?_
  refine gVirt X245 H hZ hown (hw _ wd51) (hw _ wd52) (hw _ wd54) (hw _ wd53) (by decide) f245_0 (hw _ wd55) (hw _ wd2) (rm33_10 B b198 u9 p3 _ O245 f245_1) rfl hml rfl pd2 rfl (W := 0) (argsL := [(.int u9), (.int p3)]) (rest := []) rfl rfl at_135 138 rfl ?_
  intro v246 T246 L246 hq246 X246
  obtain ⟨rfl, e246, rfl⟩ := hq246
  have N246 := Fr.app N245 (Fr.nil _)
  show Go _ _ _ _ (State.setTop _ (mkF _ 138 _ []))
  refine gIload X246 H at_138 rfl 140 rfl ?_
  refine gIfY X246 H at_140 (by decide) (by decide) 155 rfl ?_
  refine gIload X246 H at_155 rfl 157 rfl ?_
  refine gIconst X246 H at_157 (z := 1) rfl 158 rfl ?_
  refine gCmpY X246 H at_158 (by decide) (by decide) 173 rfl ?_
  refine gIload X246 H at_173 rfl 175 rfl ?_
  refine gIconst X246 H at_175 (z := 2) rfl 176 rfl ?_
  refine gCmpY X246 H at_176 (by decide) (by decide) 191 rfl ?_
  refine gIconst X246 H at_191 (z := (-1)) rfl 192 rfl ?_
  refine gIstore X246 H at_192 (Ls' := #[vI p0, vI p1, vI p2, vI p3, vI p4, vI p5, vI 2, vI 0, vI u8, vI u9, vR b198, vI (-1), .unset]) rfl 194 rfl ?_
  refine gAload X246 H at_194 rfl rfl 196 rfl ?_
  refine gVirt X246 H hZ hown (hw _ wd56) (hw _ wd57) (hw _ wd59) (hw _ wd58) (by decide) f245_0 (hw _ wd60) (hw _ wd2) (rm37_11 B b198 _ O245 f245_1) e246 hml rfl pd3 rfl (W := 0) (argsL := []) (rest := []) rfl rfl at_196 199 rfl ?_
  intro v247 T247 L247 hq247 X247
  obtain ⟨rfl, e247, rfl⟩ := hq247
  have N247 := Fr.app N246 (Fr.nil _)
  show Go _ _ _ _ (State.setTop _ (mkF _ 199 _ [(.int 0)]))
  refine gIload X247 H at_199 rfl 201 rfl ?_
  refine gCmpN X247 H at_201 (by decide) 204 rfl ?_
  refine gIconst X247 H at_204 (z := 1) rfl 205 rfl ?_
  refine gGoto X247 H at_205 (by decide) 209 rfl ?_
  refine gIstore X247 H at_209 (Ls' := #[vI p0, vI p1, vI p2, vI p3, vI p4, vI p5, vI 2, vI 0, vI u8, vI u9, vR b198, vI (-1), vI 1]) rfl 211 rfl ?_
  refine gIload X247 H at_211 rfl 213 rfl ?_
  refine gIfN X247 H at_213 (by decide) 216 rfl ?_
  refine gIload X247 H at_216 rfl 218 rfl ?_
  refine gIfN X247 H at_218 (by decide) 221 rfl ?_
  refine gAload X247 H at_221 rfl rfl 223 rfl ?_
  refine gIconst X247 H at_223 (z := 0) rfl 224 rfl ?_
  have c253 := (f233_4.keep K245 (ninS (Ne.symm ne_b198_b200_0) nin0))
  refine gVirt X247 H hZ hown (hw _ wd61) (hw _ wd62) (hw _ wd64) (hw _ wd63) (by decide) f245_0 (hw _ wd65) (hw _ wd2) (rm252_12 B b198 b200_0 k200_0 p0 p1 _ O245 f245_2 c253) e247 hml rfl pd6 rfl (W := 0) (argsL := [(.int 0)]) (rest := []) rfl rfl at_224 227 rfl ?_
  intro v254 T254 L254 hq254 X254
  obtain ⟨rfl, e254, rfl⟩ := hq254
  have N254 := Fr.app N247 (Fr.nil _)
  show Go _ _ _ _ (State.setTop _ (mkF _ 227 _ [(.int p0)]))
  refine gIload X254 H at_227 rfl 229 rfl ?_
  refine gIfY X254 H at_229 (by decide) (by decide) 236 rfl ?_
  refine gIloadN X254 H at_236 rfl 237 rfl ?_
  refine gCmpN X254 H at_237 (teq rfl).2 240 rfl ?_
  refine gIconst X254 H at_240 (z := 1) rfl 241 rfl ?_
  refine gGoto X254 H at_241 (by decide) 245 rfl ?_
  refine gIstore X254 H at_245 (Ls' := #[vI p0, vI p1, vI p2, vI p3, vI p4, vI p5, vI 2, vI 0, vI u8, vI u9, vR b198, vI (-1), vI 1]) rfl 247 rfl ?_
  refine gIload X254 H at_247 rfl 249 rfl ?_
  refine gIconst X254 H at_249 (z := 1) rfl 250 rfl ?_
  refine gCmpN X254 H at_250 (by decide) 253 rfl ?_
  refine gIload X254 H at_253 rfl 255 rfl ?_
  refine gIfN X254 H at_255 (by decide) 258 rfl ?_
  refine gAload X254 H at_258 rfl rfl 260 rfl ?_
  refine gIconst X254 H at_260 (z := 1) rfl 261 rfl ?_
  refine gVirt X254 H hZ hown (hw _ wd61) (hw _ wd62) (hw _ wd64) (hw _ wd63) (by decide) f245_0 (hw _ wd65) (hw _ wd2) (rm259_12 B b198 b200_0 k200_0 p0 p1 _ O245 f245_2 c253) e254 hml rfl pd6 rfl (W := 0) (argsL := [(.int 1)]) (rest := []) rfl rfl at_261 264 rfl ?_
  intro v260 T260 L260 hq260 X260
  obtain ⟨rfl, e260, rfl⟩ := hq260
  have N260 := Fr.app N254 (Fr.nil _)
  show Go _ _ _ _ (State.setTop _ (mkF _ 264 _ [(.int p1)]))
  refine gIload X260 H at_264 rfl 266 rfl ?_
  refine gIconst X260 H at_266 (z := 1) rfl 267 rfl ?_
  refine gCmpY X260 H at_267 (by decide) (by decide) 274 rfl ?_
  refine gIloadN X260 H at_274 rfl 275 rfl ?_
  refine gCmpN X260 H at_275 (teq rfl).2 278 rfl ?_
  refine gIconst X260 H at_278 (z := 1) rfl 279 rfl ?_
  refine gGoto X260 H at_279 (by decide) 283 rfl ?_
  refine gIstore X260 H at_283 (Ls' := #[vI p0, vI p1, vI p2, vI p3, vI p4, vI p5, vI 2, vI 0, vI u8, vI u9, vR b198, vI (-1), vI 1]) rfl 285 rfl ?_
  refine gIload X260 H at_285 rfl 287 rfl ?_
  refine gIconst X260 H at_287 (z := 2) rfl 288 rfl ?_
  refine gCmpY X260 H at_288 (by decide) (by decide) 323 rfl ?_
  refine gIload X260 H at_323 rfl 325 rfl ?_
  exact gRetN X260 H hlk hret (t := .boolean) (by simp) at_325 e260 ⟨rfl, N260⟩
theorem rm281_9 (B : Bg Z a0 w_Trail_NO_ROOM k_w_Trail_NO_ROOM) (ro0 ro1 : Addr) (h : Heap) (O : Ext Z.heap h) (q272 : Exa Z h ro0 cs0) (q273 : Fld Z h ro0 cs0 "depth" "I" (.int 2)) (q274 : Z.heap.size ≤ ro0) (q276 : Fld Z h ro0 cs0 "entries" "[I" (.ref ro1)) (q278 : Fld Z h ro0 cs0 "unchanged" "B" (.int 0)) :
    Con l Z yM9 prog_22_method_8_code 2 none ({ frames := 0, cells := 0, slots := 0, locals := 0 } : Room) #[(.ref ro0), (.int 1)] h (fun v h' L => v = none ∧ Fr Z.heap.size L ∧ Keep h h' [ro0] ∧ Exa Z h' ro0 cs0 ∧ Fld Z h' ro0 cs0 "depth" "I" (.int 1) ∧ Fld Z h' ro0 cs0 "entries" "[I" (.ref ro1) ∧ Fld Z h' ro0 cs0 "unchanged" "B" (.int 0)) := by
  have hw := B.1
  refine Con.of (plainFor_of_name pn9) (Ls := #[vR ro0, vI 1]) (fun _ => rfl) ?_
  intro p e s m below meth c T0 X0 H hml hZ hown hnm hret hlk e0
  have N0 := Fr.nil Z.heap.size
  refine gAloadN X0 H d9_0 rfl rfl 1 rfl ?_
  refine gIloadN X0 H d9_1 rfl 2 rfl ?_
  refine gPutF X0 H hZ hown (hw _ wd18) Via.refl e0 q273 q272 (Or.inl (hw _ wd19)) (hw _ wd1) (ty := .int) (by decide) (v' := (.int 1)) rfl rfl d9_2 5 rfl ?_
  intro T271 h271 X271 e271 W271 F271
  have O271 := extW O W271 q274
  have N271 := Fr.snoc X271 N0 q274
  have c275 := (q272.wr W271)
  have c277 := (q276.other W271 (Or.inr (sn2 hw)))
  have c279 := (q278.other W271 (Or.inr (sn3 hw)))
  have K_280 := (Keep.refl h [ro0]).wr W271 (Or.inl (List.mem_of_getElem? (i := 0) rfl))
  exact gRetV X271 H hlk hret d9_5 e271 ⟨rfl, N271, K_280, c275, F271, c277, c279⟩
theorem rm301_10 (B : Bg Z a0 w_Trail_NO_ROOM k_w_Trail_NO_ROOM) (ro0 : Addr) (vi1 vi2 : Int32) (ro3 : Addr) (ck4 : ClassId) (vi5 vi6 : Int32) (h : Heap) (O : Ext Z.heap h) (q290 : Fld Z h ro0 cs0 "depth" "I" (.int 1)) (q292 : Fld Z h ro0 cs0 "entries" "[I" (.ref ro3)) (q295 : Arv Z h ro3 ck4 .int (16 : Int32) [(.int vi5), (.int vi6), (.int 0), (.int 0), (.int 0), (.int 0), (.int 0), (.int 0), (.int 0), (.int 0), (.int 0), (.int 0), (.int 0), (.int 0), (.int 0), (.int 0)] (.int 0)) (q299 : Z.heap.size ≤ ro3) (hk296 : vi5 = vi1) :
    Con l Z yM10 prog_22_method_10_code 4 none ({ frames := 0, cells := 0, slots := 0, locals := 0 } : Room) #[(.ref ro0), (.int vi1), (.int vi2)] h (fun v h' L => v = none ∧ Fr Z.heap.size L ∧ Keep h h' [ro3] ∧ Arv Z h' ro3 ck4 .int (16 : Int32) [(.int vi2), (.int vi6), (.int 0), (.int 0), (.int 0), (.int 0), (.int 0), (.int 0), (.int 0), (.int 0), (.int 0), (.int 0), (.int 0), (.int 0), (.int 0), (.int 0)] (.int 0)) := by
  have hw := B.1
  refine Con.of (plainFor_of_name pn10) (Ls := #[vR ro0, vI vi1, vI vi2, .unset]) (fun _ => rfl) ?_
  intro p e s m below meth c T0 X0 H hml hZ hown hnm hret hlk e0
  have N0 := Fr.nil Z.heap.size
  refine gIconst X0 H d10_0 (z := 0) rfl 1 rfl ?_
  refine gIstoreN X0 H d10_1 (Ls' := #[vR ro0, vI vi1, vI vi2, vI 0]) rfl 2 rfl ?_
  refine gIloadN X0 H d10_2 rfl 3 rfl ?_
  refine gAloadN X0 H d10_3 rfl rfl 4 rfl ?_
  refine gGetF X0 H hZ hown (hw _ wd18) Via.refl e0 q290 d10_4 7 rfl ?_
  intro T291 X291 e291
  refine gCmpN X291 H d10_7 (by decide) 10 rfl ?_
  refine gAloadN X291 H d10_10 rfl rfl 11 rfl ?_
  refine gGetF X291 H hZ hown (hw _ wd11) Via.refl e291 q292 d10_11 14 rfl ?_
  intro T293 X293 e293
  refine gIloadN X293 H d10_14 rfl 15 rfl ?_
  refine gIaload X293 H hZ e293 q295 ⟨by decide, by decide⟩ (v := (.int vi5)) rfl d10_15 16 rfl ?_
  refine gIloadN X293 H d10_16 rfl 17 rfl ?_
  refine gCmpN X293 H d10_17 (teq hk296).2 20 rfl ?_
  refine gAloadN X293 H d10_20 rfl rfl 21 rfl ?_
  refine gGetF X293 H hZ hown (hw _ wd11) Via.refl e293 q292 d10_21 24 rfl ?_
  intro T297 X297 e297
  refine gIloadN X297 H d10_24 rfl 25 rfl ?_
  refine gIloadN X297 H d10_25 rfl 26 rfl ?_
  refine gIastore X297 H hZ e297 q295 ⟨by decide, by decide⟩ (i := 0) rfl (Nat.le_of_ble_eq_true rfl) (vs' := [(.int vi2), (.int vi6), (.int 0), (.int 0), (.int 0), (.int 0), (.int 0), (.int 0), (.int 0), (.int 0), (.int 0), (.int 0), (.int 0), (.int 0), (.int 0), (.int 0)]) rfl d10_26 27 rfl ?_
  intro T298 h298 X298 e298 W298 V298
  have O298 := extW O W298 q299
  have N298 := Fr.snoc X298 N0 q299
  have K_300 := (Keep.refl h [ro3]).wr W298 (Or.inl (List.mem_of_getElem? (i := 0) rfl))
  exact gRetV X298 H hlk hret d10_27 e298 ⟨rfl, N298, K_300, V298⟩
theorem rm318_10 (B : Bg Z a0 w_Trail_NO_ROOM k_w_Trail_NO_ROOM) (ro0 : Addr) (vi1 vi2 : Int32) (ro3 : Addr) (ck4 : ClassId) (vi5 vi6 : Int32) (h : Heap) (O : Ext Z.heap h) (q310 : Fld Z h ro0 cs0 "depth" "I" (.int 1)) (q312 : Fld Z h ro0 cs0 "entries" "[I" (.ref ro3)) (q315 : Arv Z h ro3 ck4 .int (16 : Int32) [(.int vi5), (.int vi6), (.int 0), (.int 0), (.int 0), (.int 0), (.int 0), (.int 0), (.int 0), (.int 0), (.int 0), (.int 0), (.int 0), (.int 0), (.int 0), (.int 0)] (.int 0)) (hk316 : ¬ (vi5 = vi1)) :
    Con l Z yM10 prog_22_method_10_code 4 none ({ frames := 0, cells := 0, slots := 0, locals := 0 } : Room) #[(.ref ro0), (.int vi1), (.int vi2)] h (fun v h' L => v = none ∧ h' = h ∧ L = []) := by
  have hw := B.1
  refine Con.of (plainFor_of_name pn10) (Ls := #[vR ro0, vI vi1, vI vi2, .unset]) (fun _ => rfl) ?_
  intro p e s m below meth c T0 X0 H hml hZ hown hnm hret hlk e0
  refine gIconst X0 H d10_0 (z := 0) rfl 1 rfl ?_
  refine gIstoreN X0 H d10_1 (Ls' := #[vR ro0, vI vi1, vI vi2, vI 0]) rfl 2 rfl ?_
  refine gIloadN X0 H d10_2 rfl 3 rfl ?_
  refine gAloadN X0 H d10_3 rfl rfl 4 rfl ?_
  refine gGetF X0 H hZ hown (hw _ wd18) Via.refl e0 q310 d10_4 7 rfl ?_
  intro T311 X311 e311
  refine gCmpN X311 H d10_7 (by decide) 10 rfl ?_
  refine gAloadN X311 H d10_10 rfl rfl 11 rfl ?_
  refine gGetF X311 H hZ hown (hw _ wd11) Via.refl e311 q312 d10_11 14 rfl ?_
  intro T313 X313 e313
  refine gIloadN X313 H d10_14 rfl 15 rfl ?_
  refine gIaload X313 H hZ e313 q315 ⟨by decide, by decide⟩ (v := (.int vi5)) rfl d10_15 16 rfl ?_
  refine gIloadN X313 H d10_16 rfl 17 rfl ?_
  refine gCmpY X313 H d10_17 (feq hk316).2 (by decide) 28 rfl ?_
  refine gIinc X313 H d10_28 rfl (Ls' := #[vR ro0, vI vi1, vI vi2, vI 1]) rfl 31 rfl ?_
  refine gGoto X313 H d10_31 (by decide) 2 rfl ?_
  refine gIloadN X313 H d10_2 rfl 3 rfl ?_
  refine gAloadN X313 H d10_3 rfl rfl 4 rfl ?_
  refine gGetF X313 H hZ hown (hw _ wd18) Via.refl e313 q310 d10_4 7 rfl ?_
  intro T317 X317 e317
  refine gCmpY X317 H d10_7 (by decide) (by decide) 34 rfl ?_
  exact gRetV X317 H hlk hret d10_34 e317 ⟨rfl, rfl, rfl⟩
theorem cut265_79 (B : Bg Z a0 w_Trail_NO_ROOM k_w_Trail_NO_ROOM) (p0 : Int32) (p1 : Int32) (p2 : Int32) (p3 : Int32) (p4 : Int32) (p5 : Int32) (u8 : Int32) (u9 : Int32) {p : Program} {e : Env} {s : State} {m : MethodId} {below : List Frame} {meth : Method} {c : Code} {T0 : State} (X0 : Stand p l e room_1 s m #[(.int p0), (.int p1), (.int p2), (.int p3), (.int p4), (.int p5)] below meth c T0 [] 0 0) (H : p.tables.exec = Jvm.exec ∧ c.code = code) (hml : c.maxLocals = maxLocals) (hZ : Z.Warmed39 s.vm) (hown : s.vm.findClass x.cls = some m.cls) (hnm : meth.name = x.name) (hret : meth.sig.returnType = ret) (hlk : meth.locks = false) (e0 : T0.heap = Z.heap) :
    Go p e below (EndK s below (fun v h' L => v = some (.int 1) ∧ Fr Z.heap.size L) room_1.cells room_1.slots) (T0.setTop (mkF m 79 #[vI p0, vI p1, vI p2, vI p3, vI p4, vI p5, vI 2, vI 1, vI u8, vI u9, .unset, .unset, .unset] [])) := by
  have hw := B.1
  obtain ⟨S_w_Trail_NO_ROOM, V_w_Trail_NO_ROOM⟩ := B.2
  have O0 := extR Z.heap
  have M0 := Nat.le_refl Z.heap.size
  have N0 := Fr.nil Z.heap.size
  refine gNew X0 H hZ hown (hw _ wd0) (hw _ wd1) (hw _ wd2) e0 (by decide) (by decide) at_79 82 rfl ?_
  intro T266 h266 b266 X266 e266 z266 E266 A266 D266
  have G_b266 := Nat.le_trans O0.1 (Nat.le_of_eq z266)
  have sz_b266 := Nat.le_trans M0 (Nat.le_of_eq z266)
  have O266 := extT O0 E266
  have F266_entries : Fld Z h266 b266 cs0 "entries" "[I" .null := D266 (Or.inl (hw _ wd12)) (ty := (.array .int)) (by decide)
  have F266_depth : Fld Z h266 b266 cs0 "depth" "I" (.int 0) := D266 (Or.inl (hw _ wd19)) (ty := .int) (by decide)
  have F266_unchanged : Fld Z h266 b266 cs0 "unchanged" "B" (.int 0) := D266 (Or.inl (hw _ wd45)) (ty := .byte) (by decide)
  refine gDup X266 H at_82 rfl 83 rfl ?_
  refine gSpecial X266 H hZ hown rfl rfl (hw _ wd3) (hw _ wd4) (by decide) (hw _ wd5) (hw _ wd2) (rm17_1 B b266 _ O266 A266 F266_entries G_b266 F266_depth F266_unchanged) e266 hml rfl pd0 rfl (W := 1) (argsL := []) (rest := [(.ref b266)]) rfl rfl at_83 86 rfl ?_
  intro v267 T267 L267 hq267 X267
  obtain ⟨rfl, N267q, K267, f267_0, f267_1, f267_2, f267_3⟩ := hq267
  have O267 := extK O266 K267 (allS G_b266 all0)
  have N267 := Fr.app N0 N267q
  show Go _ _ _ _ (State.setTop _ (mkF _ 86 _ [(.ref b266)]))
  refine gAstore X267 H at_86 rfl (Ls' := #[vI p0, vI p1, vI p2, vI p3, vI p4, vI p5, vI 2, vI 1, vI u8, vI u9, vR b266, .unset, .unset]) rfl 88 rfl ?_
  refine gIload X267 H at_88 rfl 90 rfl ?_
  refine gIfN X267 H at_90 (by decide) 93 rfl ?_
  refine gAload X267 H at_93 rfl rfl 95 rfl ?_
  refine gIloadN X267 H at_95 rfl 96 rfl ?_
  refine gVirt X267 H hZ hown (hw _ wd13) (hw _ wd14) (hw _ wd16) (hw _ wd15) (by decide) f267_0 (hw _ wd17) (hw _ wd2) (rm105_3 B b266 p0 _ O267 f267_2 f267_1 f267_0 G_b266 f267_3) rfl hml rfl pd1 rfl (W := 0) (argsL := [(.int p0)]) (rest := []) rfl rfl at_96 99 rfl ?_
  intro v268 T268 L268 hq268 X268
  obtain ⟨b268_0, k268_0, rfl, N268q, K268, s268_0, f268_0, f268_1, f268_2, f268_3, f268_4⟩ := hq268
  have M269 := (Nat.le_trans (Nat.le_trans M0 E266.1) K267.1)
  have G_b268_0 := Nat.le_trans O267.1 s268_0
  have sz_b268_0 := Nat.le_trans M269 s268_0
  have ne_b266_b268_0 : b266 ≠ b268_0 := neB f267_0.lt s268_0
  have O268 := extK O267 K268 (allS G_b266 all0)
  have N268 := Fr.app N267 N268q
  show Go _ _ _ _ (State.setTop _ (mkF _ 99 _ []))
  refine gIload X268 H at_99 rfl 101 rfl ?_
  refine gIconst X268 H at_101 (z := 1) rfl 102 rfl ?_
  refine gCmpN X268 H at_102 (by decide) 105 rfl ?_
  refine gAload X268 H at_105 rfl rfl 107 rfl ?_
  refine gIloadN X268 H at_107 rfl 108 rfl ?_
  refine gVirt X268 H hZ hown (hw _ wd13) (hw _ wd14) (hw _ wd16) (hw _ wd15) (by decide) f268_2 (hw _ wd17) (hw _ wd2) (rm232_3 B b266 p1 b268_0 k268_0 p0 _ O268 f268_0 f268_1 (Arv.arl f268_4) f268_2 f268_3 f268_4 G_b268_0 ne_b266_b268_0 G_b266) rfl hml rfl pd1 rfl (W := 0) (argsL := [(.int p1)]) (rest := []) rfl rfl at_108 111 rfl ?_
  intro v270 T270 L270 hq270 X270
  obtain ⟨rfl, N270q, K270, f270_0, f270_1, f270_2, f270_3, f270_4⟩ := hq270
  have O270 := extK O268 K270 (allS G_b268_0 (allS G_b266 all0))
  have N270 := Fr.app N268 N270q
  show Go _ _ _ _ (State.setTop _ (mkF _ 111 _ []))
  refine gIload X270 H at_111 rfl 113 rfl ?_
  refine gIconst X270 H at_113 (z := 2) rfl 114 rfl ?_
  refine gCmpY X270 H at_114 (by decide) (by decide) 123 rfl ?_
  refine gAload X270 H at_123 rfl rfl 125 rfl ?_
  refine gIload X270 H at_125 rfl 127 rfl ?_
  refine gVirt X270 H hZ hown (hw _ wd46) (hw _ wd47) (hw _ wd49) (hw _ wd48) (by decide) f270_2 (hw _ wd50) (hw _ wd2) (rm281_9 B b266 b268_0 _ O270 f270_2 f270_0 G_b266 f270_1 f270_3) rfl hml rfl pd1 rfl (W := 0) (argsL := [(.int 1)]) (rest := []) rfl rfl at_127 130 rfl ?_
  intro v282 T282 L282 hq282 X282
  obtain ⟨rfl, N282q, K282, f282_0, f282_1, f282_2, f282_3⟩ := hq282
  have O282 := extK O270 K282 (allS G_b266 all0)
  have N282 := Fr.app N270 N282q
  show Go _ _ _ _ (State.setTop _ (mkF _ 130 _ []))
  refine gAload X282 H at_130 rfl rfl 132 rfl ?_
  refine gIload X282 H at_132 rfl 134 rfl ?_
  refine gIloadN X282 H at_134 rfl 135 rfl ?_
  by_cases hc289 : p0 = u9
  · have c302 := (f270_4.keep K282 (ninS (Ne.symm ne_b266_b268_0) nin0))
    refine gVirt X282 H hZ hown (hw _ wd51) (hw _ wd52) (hw _ wd54) (hw _ wd53) (by decide) f282_0 (hw _ wd55) (hw _ wd2) (rm301_10 B b266 u9 p3 b268_0 k268_0 p0 p1 _ O282 f282_1 f282_2 c302 G_b268_0 hc289) rfl hml rfl pd2 rfl (W := 0) (argsL := [(.int u9), (.int p3)]) (rest := []) rfl rfl at_135 138 rfl ?_
    intro v303 T303 L303 hq303 X303
    obtain ⟨rfl, N303q, K303, f303_0⟩ := hq303
    have O303 := extK O282 K303 (allS G_b268_0 all0)
    have N303 := Fr.app N282 N303q
    show Go _ _ _ _ (State.setTop _ (mkF _ 138 _ []))
    refine gIload X303 H at_138 rfl 140 rfl ?_
    refine gIfN X303 H at_140 (by decide) 143 rfl ?_
    refine gIloadN X303 H at_143 rfl 144 rfl ?_
    refine gIload X303 H at_144 rfl 146 rfl ?_
    refine gCmpN X303 H at_146 (teq hc289).2 149 rfl ?_
    refine gIconst X303 H at_149 (z := 0) rfl 150 rfl ?_
    refine gIstore X303 H at_150 (Ls' := #[vI p0, vI p1, vI p2, vI p3, vI p4, vI p5, vI 2, vI 1, vI u8, vI u9, vR b266, vI 0, .unset]) rfl 152 rfl ?_
    refine gGoto X303 H at_152 (by decide) 194 rfl ?_
    refine gAload X303 H at_194 rfl rfl 196 rfl ?_
    have c304 := (f282_0.keep K303)
    have c305 := (f282_1.keep K303 (ninS ne_b266_b268_0 nin0))
    refine gVirt X303 H hZ hown (hw _ wd56) (hw _ wd57) (hw _ wd59) (hw _ wd58) (by decide) c304 (hw _ wd60) (hw _ wd2) (rm174_11 B b266 _ O303 c305) rfl hml rfl pd3 rfl (W := 0) (argsL := []) (rest := []) rfl rfl at_196 199 rfl ?_
    intro v306 T306 L306 hq306 X306
    obtain ⟨rfl, e306, rfl⟩ := hq306
    have N306 := Fr.app N303 (Fr.nil _)
    show Go _ _ _ _ (State.setTop _ (mkF _ 199 _ [(.int 1)]))
    refine gIload X306 H at_199 rfl 201 rfl ?_
    refine gCmpN X306 H at_201 (by decide) 204 rfl ?_
    refine gIconst X306 H at_204 (z := 1) rfl 205 rfl ?_
    refine gGoto X306 H at_205 (by decide) 209 rfl ?_
    refine gIstore X306 H at_209 (Ls' := #[vI p0, vI p1, vI p2, vI p3, vI p4, vI p5, vI 2, vI 1, vI u8, vI u9, vR b266, vI 0, vI 1]) rfl 211 rfl ?_
    refine gIload X306 H at_211 rfl 213 rfl ?_
    refine gIfN X306 H at_213 (by decide) 216 rfl ?_
    refine gIload X306 H at_216 rfl 218 rfl ?_
    refine gIfN X306 H at_218 (by decide) 221 rfl ?_
    refine gAload X306 H at_221 rfl rfl 223 rfl ?_
    refine gIconst X306 H at_223 (z := 0) rfl 224 rfl ?_
    have c307 := (f282_2.keep K303 (ninS ne_b266_b268_0 nin0))
    refine gVirt X306 H hZ hown (hw _ wd61) (hw _ wd62) (hw _ wd64) (hw _ wd63) (by decide) c304 (hw _ wd65) (hw _ wd2) (rm252_12 B b266 b268_0 k268_0 p3 p1 _ O303 c307 f303_0) e306 hml rfl pd6 rfl (W := 0) (argsL := [(.int 0)]) (rest := []) rfl rfl at_224 227 rfl ?_
    intro v308 T308 L308 hq308 X308
    obtain ⟨rfl, e308, rfl⟩ := hq308
    have N308 := Fr.app N306 (Fr.nil _)
    show Go _ _ _ _ (State.setTop _ (mkF _ 227 _ [(.int p3)]))
    refine gIload X308 H at_227 rfl 229 rfl ?_
    refine gIfN X308 H at_229 (by decide) 232 rfl ?_
    refine gIloadN X308 H at_232 rfl 233 rfl ?_
    refine gGoto X308 H at_233 (by decide) 237 rfl ?_
    refine gCmpN X308 H at_237 (teq rfl).2 240 rfl ?_
    refine gIconst X308 H at_240 (z := 1) rfl 241 rfl ?_
    refine gGoto X308 H at_241 (by decide) 245 rfl ?_
    refine gIstore X308 H at_245 (Ls' := #[vI p0, vI p1, vI p2, vI p3, vI p4, vI p5, vI 2, vI 1, vI u8, vI u9, vR b266, vI 0, vI 1]) rfl 247 rfl ?_
    refine gIload X308 H at_247 rfl 249 rfl ?_
    refine gIconst X308 H at_249 (z := 1) rfl 250 rfl ?_
    refine gCmpN X308 H at_250 (by decide) 253 rfl ?_
    refine gIload X308 H at_253 rfl 255 rfl ?_
    refine gIfN X308 H at_255 (by decide) 258 rfl ?_
    refine gAload X308 H at_258 rfl rfl 260 rfl ?_
    refine gIconst X308 H at_260 (z := 1) rfl 261 rfl ?_
    refine gVirt X308 H hZ hown (hw _ wd61) (hw _ wd62) (hw _ wd64) (hw _ wd63) (by decide) c304 (hw _ wd65) (hw _ wd2) (rm259_12 B b266 b268_0 k268_0 p3 p1 _ O303 c307 f303_0) e308 hml rfl pd6 rfl (W := 0) (argsL := [(.int 1)]) (rest := []) rfl rfl at_261 264 rfl ?_
    intro v309 T309 L309 hq309 X309
    obtain ⟨rfl, e309, rfl⟩ := hq309
    have N309 := Fr.app N308 (Fr.nil _)
    show Go _ _ _ _ (State.setTop _ (mkF _ 264 _ [(.int p1)]))
    refine gIload X309 H at_264 rfl 266 rfl ?_
    refine gIconst X309 H at_266 (z := 1) rfl 267 rfl ?_
    refine gCmpY X309 H at_267 (by decide) (by decide) 274 rfl ?_
    refine gIloadN X309 H at_274 rfl 275 rfl ?_
    refine gCmpN X309 H at_275 (teq rfl).2 278 rfl ?_
    refine gIconst X309 H at_278 (z := 1) rfl 279 rfl ?_
    refine gGoto X309 H at_279 (by decide) 283 rfl ?_
    refine gIstore X309 H at_283 (Ls' := #[vI p0, vI p1, vI p2, vI p3, vI p4, vI p5, vI 2, vI 1, vI u8, vI u9, vR b266, vI 0, vI 1]) rfl 285 rfl ?_
    refine gIload X309 H at_285 rfl 287 rfl ?_
    refine gIconst X309 H at_287 (z := 2) rfl 288 rfl ?_
    refine gCmpY X309 H at_288 (by decide) (by decide) 323 rfl ?_
    refine gIload X309 H at_323 rfl 325 rfl ?_
    exact gRetN X309 H hlk hret (t := .boolean) (by simp) at_325 e309 ⟨rfl, N309⟩
  · have c319 := (f270_4.keep K282 (ninS (Ne.symm ne_b266_b268_0) nin0))
    refine gVirt X282 H hZ hown (hw _ wd51) (hw _ wd52) (hw _ wd54) (hw _ wd53) (by decide) f282_0 (hw _ wd55) (hw _ wd2) (rm318_10 B b266 u9 p3 b268_0 k268_0 p0 p1 _ O282 f282_1 f282_2 c319 hc289) rfl hml rfl pd2 rfl (W := 0) (argsL := [(.int u9), (.int p3)]) (rest := []) rfl rfl at_135 138 rfl ?_
    intro v320 T320 L320 hq320 X320
    obtain ⟨rfl, e320, rfl⟩ := hq320
    have N320 := Fr.app N282 (Fr.nil _)
    show Go _ _ _ _ (State.setTop _ (mkF _ 138 _ []))
    refine gIload X320 H at_138 rfl 140 rfl ?_
    refine gIfN X320 H at_140 (by decide) 143 rfl ?_
    refine gIloadN X320 H at_143 rfl 144 rfl ?_
    refine gIload X320 H at_144 rfl 146 rfl ?_
    refine gCmpY X320 H at_146 (feq hc289).2 (by decide) 155 rfl ?_
    refine gIload X320 H at_155 rfl 157 rfl ?_
    refine gIconst X320 H at_157 (z := 1) rfl 158 rfl ?_
    refine gCmpY X320 H at_158 (by decide) (by decide) 173 rfl ?_
    refine gIload X320 H at_173 rfl 175 rfl ?_
    refine gIconst X320 H at_175 (z := 2) rfl 176 rfl ?_
    refine gCmpY X320 H at_176 (by decide) (by decide) 191 rfl ?_
    refine gIconst X320 H at_191 (z := (-1)) rfl 192 rfl ?_
    refine gIstore X320 H at_192 (Ls' := #[vI p0, vI p1, vI p2, vI p3, vI p4, vI p5, vI 2, vI 1, vI u8, vI u9, vR b266, vI (-1), .unset]) rfl 194 rfl ?_
    refine gAload X320 H at_194 rfl rfl 196 rfl ?_
    refine gVirt X320 H hZ hown (hw _ wd56) (hw _ wd57) (hw _ wd59) (hw _ wd58) (by decide) f282_0 (hw _ wd60) (hw _ wd2) (rm174_11 B b266 _ O282 f282_1) e320 hml rfl pd3 rfl (W := 0) (argsL := []) (rest := []) rfl rfl at_196 199 rfl ?_
    intro v321 T321 L321 hq321 X321
    obtain ⟨rfl, e321, rfl⟩ := hq321
    have N321 := Fr.app N320 (Fr.nil _)
    show Go _ _ _ _ (State.setTop _ (mkF _ 199 _ [(.int 1)]))
    refine gIload X321 H at_199 rfl 201 rfl ?_
    refine gCmpN X321 H at_201 (by decide) 204 rfl ?_
    refine gIconst X321 H at_204 (z := 1) rfl 205 rfl ?_
    refine gGoto X321 H at_205 (by decide) 209 rfl ?_
    refine gIstore X321 H at_209 (Ls' := #[vI p0, vI p1, vI p2, vI p3, vI p4, vI p5, vI 2, vI 1, vI u8, vI u9, vR b266, vI (-1), vI 1]) rfl 211 rfl ?_
    refine gIload X321 H at_211 rfl 213 rfl ?_
    refine gIfN X321 H at_213 (by decide) 216 rfl ?_
    refine gIload X321 H at_216 rfl 218 rfl ?_
    refine gIfN X321 H at_218 (by decide) 221 rfl ?_
    refine gAload X321 H at_221 rfl rfl 223 rfl ?_
    refine gIconst X321 H at_223 (z := 0) rfl 224 rfl ?_
    refine gVirt X321 H hZ hown (hw _ wd61) (hw _ wd62) (hw _ wd64) (hw _ wd63) (by decide) f282_0 (hw _ wd65) (hw _ wd2) (rm252_12 B b266 b268_0 k268_0 p0 p1 _ O282 f282_2 c319) e321 hml rfl pd6 rfl (W := 0) (argsL := [(.int 0)]) (rest := []) rfl rfl at_224 227 rfl ?_
    intro v322 T322 L322 hq322 X322
    obtain ⟨rfl, e322, rfl⟩ := hq322
    have N322 := Fr.app N321 (Fr.nil _)
    show Go _ _ _ _ (State.setTop _ (mkF _ 227 _ [(.int p0)]))
    refine gIload X322 H at_227 rfl 229 rfl ?_
    refine gIfY X322 H at_229 (by decide) (by decide) 236 rfl ?_
    refine gIloadN X322 H at_236 rfl 237 rfl ?_
    refine gCmpN X322 H at_237 (teq rfl).2 240 rfl ?_
    refine gIconst X322 H at_240 (z := 1) rfl 241 rfl ?_
    refine gGoto X322 H at_241 (by decide) 245 rfl ?_
    refine gIstore X322 H at_245 (Ls' := #[vI p0, vI p1, vI p2, vI p3, vI p4, vI p5, vI 2, vI 1, vI u8, vI u9, vR b266, vI (-1), vI 1]) rfl 247 rfl ?_
    refine gIload X322 H at_247 rfl 249 rfl ?_
    refine gIconst X322 H at_249 (z := 1) rfl 250 rfl ?_
    refine gCmpN X322 H at_250 (by decide) 253 rfl ?_
    refine gIload X322 H at_253 rfl 255 rfl ?_
    refine gIfN X322 H at_255 (by decide) 258 rfl ?_
    refine gAload X322 H at_258 rfl rfl 260 rfl ?_
    refine gIconst X322 H at_260 (z := 1) rfl 261 rfl ?_
    refine gVirt X322 H hZ hown (hw _ wd61) (hw _ wd62) (hw _ wd64) (hw _ wd63) (by decide) f282_0 (hw _ wd65) (hw _ wd2) (rm259_12 B b266 b268_0 k268_0 p0 p1 _ O282 f282_2 c319) e322 hml rfl pd6 rfl (W := 0) (argsL := [(.int 1)]) (rest := []) rfl rfl at_261 264 rfl ?_
    intro v323 T323 L323 hq323 X323
    obtain ⟨rfl, e323, rfl⟩ := hq323
    have N323 := Fr.app N322 (Fr.nil _)
    show Go _ _ _ _ (State.setTop _ (mkF _ 264 _ [(.int p1)]))
    refine gIload X323 H at_264 rfl 266 rfl ?_
    refine gIconst X323 H at_266 (z := 1) rfl 267 rfl ?_
    refine gCmpY X323 H at_267 (by decide) (by decide) 274 rfl ?_
    refine gIloadN X323 H at_274 rfl 275 rfl ?_
    refine gCmpN X323 H at_275 (teq rfl).2 278 rfl ?_
    refine gIconst X323 H at_278 (z := 1) rfl 279 rfl ?_
    refine gGoto X323 H at_279 (by decide) 283 rfl ?_
    refine gIstore X323 H at_283 (Ls' := #[vI p0, vI p1, vI p2, vI p3, vI p4, vI p5, vI 2, vI 1, vI u8, vI u9, vR b266, vI (-1), vI 1]) rfl 285 rfl ?_
    refine gIload X323 H at_285 rfl 287 rfl ?_
    refine gIconst X323 H at_287 (z := 2) rfl 288 rfl ?_
    refine gCmpY X323 H at_288 (by decide) (by decide) 323 rfl ?_
    refine gIload X323 H at_323 rfl 325 rfl ?_
    exact gRetN X323 H hlk hret (t := .boolean) (by simp) at_325 e323 ⟨rfl, N323⟩
theorem rm344_9 (B : Bg Z a0 w_Trail_NO_ROOM k_w_Trail_NO_ROOM) (ro0 ro1 : Addr) (h : Heap) (O : Ext Z.heap h) (q335 : Exa Z h ro0 cs0) (q336 : Fld Z h ro0 cs0 "depth" "I" (.int 2)) (q337 : Z.heap.size ≤ ro0) (q339 : Fld Z h ro0 cs0 "entries" "[I" (.ref ro1)) (q341 : Fld Z h ro0 cs0 "unchanged" "B" (.int 0)) :
    Con l Z yM9 prog_22_method_8_code 2 none ({ frames := 0, cells := 0, slots := 0, locals := 0 } : Room) #[(.ref ro0), (.int 2)] h (fun v h' L => v = none ∧ Fr Z.heap.size L ∧ Keep h h' [ro0] ∧ Exa Z h' ro0 cs0 ∧ Fld Z h' ro0 cs0 "depth" "I" (.int 2) ∧ Fld Z h' ro0 cs0 "entries" "[I" (.ref ro1) ∧ Fld Z h' ro0 cs0 "unchanged" "B" (.int 0)) := by
  have hw := B.1
  refine Con.of (plainFor_of_name pn9) (Ls := #[vR ro0, vI 2]) (fun _ => rfl) ?_
  intro p e s m below meth c T0 X0 H hml hZ hown hnm hret hlk e0
  have N0 := Fr.nil Z.heap.size
  refine gAloadN X0 H d9_0 rfl rfl 1 rfl ?_
  refine gIloadN X0 H d9_1 rfl 2 rfl ?_
  refine gPutF X0 H hZ hown (hw _ wd18) Via.refl e0 q336 q335 (Or.inl (hw _ wd19)) (hw _ wd1) (ty := .int) (by decide) (v' := (.int 2)) rfl rfl d9_2 5 rfl ?_
  intro T334 h334 X334 e334 W334 F334
  have O334 := extW O W334 q337
  have N334 := Fr.snoc X334 N0 q337
  have c338 := (q335.wr W334)
  have c340 := (q339.other W334 (Or.inr (sn2 hw)))
  have c342 := (q341.other W334 (Or.inr (sn3 hw)))
  have K_343 := (Keep.refl h [ro0]).wr W334 (Or.inl (List.mem_of_getElem? (i := 0) rfl))
  exact gRetV X334 H hlk hret d9_5 e334 ⟨rfl, N334, K_343, c338, F334, c340, c342⟩
theorem rm364_10 (B : Bg Z a0 w_Trail_NO_ROOM k_w_Trail_NO_ROOM) (ro0 : Addr) (vi1 vi2 : Int32) (ro3 : Addr) (ck4 : ClassId) (vi5 vi6 : Int32) (h : Heap) (O : Ext Z.heap h) (q353 : Fld Z h ro0 cs0 "depth" "I" (.int 2)) (q355 : Fld Z h ro0 cs0 "entries" "[I" (.ref ro3)) (q358 : Arv Z h ro3 ck4 .int (16 : Int32) [(.int vi5), (.int vi6), (.int 0), (.int 0), (.int 0), (.int 0), (.int 0), (.int 0), (.int 0), (.int 0), (.int 0), (.int 0), (.int 0), (.int 0), (.int 0), (.int 0)] (.int 0)) (q362 : Z.heap.size ≤ ro3) (hk359 : vi5 = vi1) :
    Con l Z yM10 prog_22_method_10_code 4 none ({ frames := 0, cells := 0, slots := 0, locals := 0 } : Room) #[(.ref ro0), (.int vi1), (.int vi2)] h (fun v h' L => v = none ∧ Fr Z.heap.size L ∧ Keep h h' [ro3] ∧ Arv Z h' ro3 ck4 .int (16 : Int32) [(.int vi2), (.int vi6), (.int 0), (.int 0), (.int 0), (.int 0), (.int 0), (.int 0), (.int 0), (.int 0), (.int 0), (.int 0), (.int 0), (.int 0), (.int 0), (.int 0)] (.int 0)) := by
  have hw := B.1
  refine Con.of (plainFor_of_name pn10) (Ls := #[vR ro0, vI vi1, vI vi2, .unset]) (fun _ => rfl) ?_
  intro p e s m below meth c T0 X0 H hml hZ hown hnm hret hlk e0
  have N0 := Fr.nil Z.heap.size
  refine gIconst X0 H d10_0 (z := 0) rfl 1 rfl ?_
  refine gIstoreN X0 H d10_1 (Ls' := #[vR ro0, vI vi1, vI vi2, vI 0]) rfl 2 rfl ?_
  refine gIloadN X0 H d10_2 rfl 3 rfl ?_
  refine gAloadN X0 H d10_3 rfl rfl 4 rfl ?_
  refine gGetF X0 H hZ hown (hw _ wd18) Via.refl e0 q353 d10_4 7 rfl ?_
  intro T354 X354 e354
  refine gCmpN X354 H d10_7 (by decide) 10 rfl ?_
  refine gAloadN X354 H d10_10 rfl rfl 11 rfl ?_
  refine gGetF X354 H hZ hown (hw _ wd11) Via.refl e354 q355 d10_11 14 rfl ?_
  intro T356 X356 e356
  refine gIloadN X356 H d10_14 rfl 15 rfl ?_
  refine gIaload X356 H hZ e356 q358 ⟨by decide, by decide⟩ (v := (.int vi5)) rfl d10_15 16 rfl ?_
  refine gIloadN X356 H d10_16 rfl 17 rfl ?_
  refine gCmpN X356 H d10_17 (teq hk359).2 20 rfl ?_
  refine gAloadN X356 H d10_20 rfl rfl 21 rfl ?_
  refine gGetF X356 H hZ hown (hw _ wd11) Via.refl e356 q355 d10_21 24 rfl ?_
  intro T360 X360 e360
  refine gIloadN X360 H d10_24 rfl 25 rfl ?_
  refine gIloadN X360 H d10_25 rfl 26 rfl ?_
  refine gIastore X360 H hZ e360 q358 ⟨by decide, by decide⟩ (i := 0) rfl (Nat.le_of_ble_eq_true rfl) (vs' := [(.int vi2), (.int vi6), (.int 0), (.int 0), (.int 0), (.int 0), (.int 0), (.int 0), (.int 0), (.int 0), (.int 0), (.int 0), (.int 0), (.int 0), (.int 0), (.int 0)]) rfl d10_26 27 rfl ?_
  intro T361 h361 X361 e361 W361 V361
  have O361 := extW O W361 q362
  have N361 := Fr.snoc X361 N0 q362
  have K_363 := (Keep.refl h [ro3]).wr W361 (Or.inl (List.mem_of_getElem? (i := 0) rfl))
  exact gRetV X361 H hlk hret d10_27 e361 ⟨rfl, N361, K_363, V361⟩
theorem rm370_11 (B : Bg Z a0 w_Trail_NO_ROOM k_w_Trail_NO_ROOM) (ro0 : Addr) (h : Heap) (O : Ext Z.heap h) (q368 : Fld Z h ro0 cs0 "depth" "I" (.int 2)) :
    Con l Z yM11 prog_22_method_2_code 1 (some .int) ({ frames := 0, cells := 0, slots := 0, locals := 0 } : Room) #[(.ref ro0)] h (fun v h' L => v = some (.int 2) ∧ h' = h ∧ L = []) := by
  have hw := B.1
  refine Con.of (plainFor_of_name pn11) (Ls := #[vR ro0]) (fun _ => rfl) ?_
  intro p e s m below meth c T0 X0 H hml hZ hown hnm hret hlk e0
  refine gAloadN X0 H d11_0 rfl rfl 1 rfl ?_
  refine gGetF X0 H hZ hown (hw _ wd18) Via.refl e0 q368 d11_1 4 rfl ?_
  intro T369 X369 e369
  exact gRetI X369 H hlk hret d11_4 e369 ⟨rfl, rfl, rfl⟩
theorem rm402_10 (B : Bg Z a0 w_Trail_NO_ROOM k_w_Trail_NO_ROOM) (ro0 : Addr) (vi1 vi2 : Int32) (ro3 : Addr) (ck4 : ClassId) (vi5 vi6 : Int32) (h : Heap) (O : Ext Z.heap h) (q387 : Fld Z h ro0 cs0 "depth" "I" (.int 2)) (q389 : Fld Z h ro0 cs0 "entries" "[I" (.ref ro3)) (q392 : Arv Z h ro3 ck4 .int (16 : Int32) [(.int vi5), (.int vi6), (.int 0), (.int 0), (.int 0), (.int 0), (.int 0), (.int 0), (.int 0), (.int 0), (.int 0), (.int 0), (.int 0), (.int 0), (.int 0), (.int 0)] (.int 0)) (q400 : Z.heap.size ≤ ro3) (hk393 : ¬ (vi5 = vi1)) (hk397 : vi6 = vi1) :
    Con l Z yM10 prog_22_method_10_code 4 none ({ frames := 0, cells := 0, slots := 0, locals := 0 } : Room) #[(.ref ro0), (.int vi1), (.int vi2)] h (fun v h' L => v = none ∧ Fr Z.heap.size L ∧ Keep h h' [ro3] ∧ Arv Z h' ro3 ck4 .int (16 : Int32) [(.int vi5), (.int vi2), (.int 0), (.int 0), (.int 0), (.int 0), (.int 0), (.int 0), (.int 0), (.int 0), (.int 0), (.int 0), (.int 0), (.int 0), (.int 0), (.int 0)] (.int 0)) := by
  have hw := B.1
  refine Con.of (plainFor_of_name pn10) (Ls := #[vR ro0, vI vi1, vI vi2, .unset]) (fun _ => rfl) ?_
  intro p e s m below meth c T0 X0 H hml hZ hown hnm hret hlk e0
  have N0 := Fr.nil Z.heap.size
  refine gIconst X0 H d10_0 (z := 0) rfl 1 rfl ?_
  refine gIstoreN X0 H d10_1 (Ls' := #[vR ro0, vI vi1, vI vi2, vI 0]) rfl 2 rfl ?_
  refine gIloadN X0 H d10_2 rfl 3 rfl ?_
  refine gAloadN X0 H d10_3 rfl rfl 4 rfl ?_
  refine gGetF X0 H hZ hown (hw _ wd18) Via.refl e0 q387 d10_4 7 rfl ?_
  intro T388 X388 e388
  refine gCmpN X388 H d10_7 (by decide) 10 rfl ?_
  refine gAloadN X388 H d10_10 rfl rfl 11 rfl ?_
  refine gGetF X388 H hZ hown (hw _ wd11) Via.refl e388 q389 d10_11 14 rfl ?_
  intro T390 X390 e390
  refine gIloadN X390 H d10_14 rfl 15 rfl ?_
  refine gIaload X390 H hZ e390 q392 ⟨by decide, by decide⟩ (v := (.int vi5)) rfl d10_15 16 rfl ?_
  refine gIloadN X390 H d10_16 rfl 17 rfl ?_
  refine gCmpY X390 H d10_17 (feq hk393).2 (by decide) 28 rfl ?_
  refine gIinc X390 H d10_28 rfl (Ls' := #[vR ro0, vI vi1, vI vi2, vI 1]) rfl 31 rfl ?_
  refine gGoto X390 H d10_31 (by decide) 2 rfl ?_
  refine gIloadN X390 H d10_2 rfl 3 rfl ?_
  refine gAloadN X390 H d10_3 rfl rfl 4 rfl ?_
  refine gGetF X390 H hZ hown (hw _ wd18) Via.refl e390 q387 d10_4 7 rfl ?_
  intro T394 X394 e394
  refine gCmpN X394 H d10_7 (by decide) 10 rfl ?_
  refine gAloadN X394 H d10_10 rfl rfl 11 rfl ?_
  refine gGetF X394 H hZ hown (hw _ wd11) Via.refl e394 q389 d10_11 14 rfl ?_
  intro T395 X395 e395
  refine gIloadN X395 H d10_14 rfl 15 rfl ?_
  refine gIaload X395 H hZ e395 q392 ⟨by decide, by decide⟩ (v := (.int vi6)) rfl d10_15 16 rfl ?_
  refine gIloadN X395 H d10_16 rfl 17 rfl ?_
  refine gCmpN X395 H d10_17 (teq hk397).2 20 rfl ?_
  refine gAloadN X395 H d10_20 rfl rfl 21 rfl ?_
  refine gGetF X395 H hZ hown (hw _ wd11) Via.refl e395 q389 d10_21 24 rfl ?_
  intro T398 X398 e398
  refine gIloadN X398 H d10_24 rfl 25 rfl ?_
  refine gIloadN X398 H d10_25 rfl 26 rfl ?_
  refine gIastore X398 H hZ e398 q392 ⟨by decide, by decide⟩ (i := 1) rfl (Nat.le_of_ble_eq_true rfl) (vs' := [(.int vi5), (.int vi2), (.int 0), (.int 0), (.int 0), (.int 0), (.int 0), (.int 0), (.int 0), (.int 0), (.int 0), (.int 0), (.int 0), (.int 0), (.int 0), (.int 0)]) rfl d10_26 27 rfl ?_
  intro T399 h399 X399 e399 W399 V399
  have O399 := extW O W399 q400
  have N399 := Fr.snoc X399 N0 q400
  have K_401 := (Keep.refl h [ro3]).wr W399 (Or.inl (List.mem_of_getElem? (i := 0) rfl))
  exact gRetV X399 H hlk hret d10_27 e399 ⟨rfl, N399, K_401, V399⟩
theorem rm423_10 (B : Bg Z a0 w_Trail_NO_ROOM k_w_Trail_NO_ROOM) (ro0 : Addr) (vi1 vi2 : Int32) (ro3 : Addr) (ck4 : ClassId) (vi5 vi6 : Int32) (h : Heap) (O : Ext Z.heap h) (q411 : Fld Z h ro0 cs0 "depth" "I" (.int 2)) (q413 : Fld Z h ro0 cs0 "entries" "[I" (.ref ro3)) (q416 : Arv Z h ro3 ck4 .int (16 : Int32) [(.int vi5), (.int vi6), (.int 0), (.int 0), (.int 0), (.int 0), (.int 0), (.int 0), (.int 0), (.int 0), (.int 0), (.int 0), (.int 0), (.int 0), (.int 0), (.int 0)] (.int 0)) (hk417 : ¬ (vi5 = vi1)) (hk421 : ¬ (vi6 = vi1)) :
    Con l Z yM10 prog_22_method_10_code 4 none ({ frames := 0, cells := 0, slots := 0, locals := 0 } : Room) #[(.ref ro0), (.int vi1), (.int vi2)] h (fun v h' L => v = none ∧ h' = h ∧ L = []) := by
  have hw := B.1
  refine Con.of (plainFor_of_name pn10) (Ls := #[vR ro0, vI vi1, vI vi2, .unset]) (fun _ => rfl) ?_
  intro p e s m below meth c T0 X0 H hml hZ hown hnm hret hlk e0
  refine gIconst X0 H d10_0 (z := 0) rfl 1 rfl ?_
  refine gIstoreN X0 H d10_1 (Ls' := #[vR ro0, vI vi1, vI vi2, vI 0]) rfl 2 rfl ?_
  refine gIloadN X0 H d10_2 rfl 3 rfl ?_
  refine gAloadN X0 H d10_3 rfl rfl 4 rfl ?_
  refine gGetF X0 H hZ hown (hw _ wd18) Via.refl e0 q411 d10_4 7 rfl ?_
  intro T412 X412 e412
  refine gCmpN X412 H d10_7 (by decide) 10 rfl ?_
  refine gAloadN X412 H d10_10 rfl rfl 11 rfl ?_
  refine gGetF X412 H hZ hown (hw _ wd11) Via.refl e412 q413 d10_11 14 rfl ?_
  intro T414 X414 e414
  refine gIloadN X414 H d10_14 rfl 15 rfl ?_
  refine gIaload X414 H hZ e414 q416 ⟨by decide, by decide⟩ (v := (.int vi5)) rfl d10_15 16 rfl ?_
  refine gIloadN X414 H d10_16 rfl 17 rfl ?_
  refine gCmpY X414 H d10_17 (feq hk417).2 (by decide) 28 rfl ?_
  refine gIinc X414 H d10_28 rfl (Ls' := #[vR ro0, vI vi1, vI vi2, vI 1]) rfl 31 rfl ?_
  refine gGoto X414 H d10_31 (by decide) 2 rfl ?_
  refine gIloadN X414 H d10_2 rfl 3 rfl ?_
  refine gAloadN X414 H d10_3 rfl rfl 4 rfl ?_
  refine gGetF X414 H hZ hown (hw _ wd18) Via.refl e414 q411 d10_4 7 rfl ?_
  intro T418 X418 e418
  refine gCmpN X418 H d10_7 (by decide) 10 rfl ?_
  refine gAloadN X418 H d10_10 rfl rfl 11 rfl ?_
  refine gGetF X418 H hZ hown (hw _ wd11) Via.refl e418 q413 d10_11 14 rfl ?_
  intro T419 X419 e419
  refine gIloadN X419 H d10_14 rfl 15 rfl ?_
  refine gIaload X419 H hZ e419 q416 ⟨by decide, by decide⟩ (v := (.int vi6)) rfl d10_15 16 rfl ?_
  refine gIloadN X419 H d10_16 rfl 17 rfl ?_
  refine gCmpY X419 H d10_17 (feq hk421).2 (by decide) 28 rfl ?_
  refine gIinc X419 H d10_28 rfl (Ls' := #[vR ro0, vI vi1, vI vi2, vI 2]) rfl 31 rfl ?_
  refine gGoto X419 H d10_31 (by decide) 2 rfl ?_
  refine gIloadN X419 H d10_2 rfl 3 rfl ?_
  refine gAloadN X419 H d10_3 rfl rfl 4 rfl ?_
  refine gGetF X419 H hZ hown (hw _ wd18) Via.refl e419 q411 d10_4 7 rfl ?_
  intro T422 X422 e422
  refine gCmpY X422 H d10_7 (by decide) (by decide) 34 rfl ?_
  exact gRetV X422 H hlk hret d10_34 e422 ⟨rfl, rfl, rfl⟩
theorem cut328_79 (B : Bg Z a0 w_Trail_NO_ROOM k_w_Trail_NO_ROOM) (p0 : Int32) (p1 : Int32) (p2 : Int32) (p3 : Int32) (p4 : Int32) (p5 : Int32) (u8 : Int32) (u9 : Int32) {p : Program} {e : Env} {s : State} {m : MethodId} {below : List Frame} {meth : Method} {c : Code} {T0 : State} (X0 : Stand p l e room_1 s m #[(.int p0), (.int p1), (.int p2), (.int p3), (.int p4), (.int p5)] below meth c T0 [] 0 0) (H : p.tables.exec = Jvm.exec ∧ c.code = code) (hml : c.maxLocals = maxLocals) (hZ : Z.Warmed39 s.vm) (hown : s.vm.findClass x.cls = some m.cls) (hnm : meth.name = x.name) (hret : meth.sig.returnType = ret) (hlk : meth.locks = false) (e0 : T0.heap = Z.heap) :
    Go p e below (EndK s below (fun v h' L => v = some (.int 1) ∧ Fr Z.heap.size L) room_1.cells room_1.slots) (T0.setTop (mkF m 79 #[vI p0, vI p1, vI p2, vI p3, vI p4, vI p5, vI 2, vI 2, vI u8, vI u9, .unset, .unset, .unset] [])) := by
  have hw := B.1
  obtain ⟨S_w_Trail_NO_ROOM, V_w_Trail_NO_ROOM⟩ := B.2
  have O0 := extR Z.heap
  have M0 := Nat.le_refl Z.heap.size
  have N0 := Fr.nil Z.heap.size
  refine gNew X0 H hZ hown (hw _ wd0) (hw _ wd1) (hw _ wd2) e0 (by decide) (by decide) at_79 82 rfl ?_
  intro T329 h329 b329 X329 e329 z329 E329 A329 D329
  have G_b329 := Nat.le_trans O0.1 (Nat.le_of_eq z329)
  have sz_b329 := Nat.le_trans M0 (Nat.le_of_eq z329)
  have O329 := extT O0 E329
  have F329_entries : Fld Z h329 b329 cs0 "entries" "[I" .null := D329 (Or.inl (hw _ wd12)) (ty := (.array .int)) (by decide)
  have F329_depth : Fld Z h329 b329 cs0 "depth" "I" (.int 0) := D329 (Or.inl (hw _ wd19)) (ty := .int) (by decide)
  have F329_unchanged : Fld Z h329 b329 cs0 "unchanged" "B" (.int 0) := D329 (Or.inl (hw _ wd45)) (ty := .byte) (by decide)
  refine gDup X329 H at_82 rfl 83 rfl ?_
  refine gSpecial X329 H hZ hown rfl rfl (hw _ wd3) (hw _ wd4) (by decide) (hw _ wd5) (hw _ wd2) (rm17_1 B b329 _ O329 A329 F329_entries G_b329 F329_depth F329_unchanged) e329 hml rfl pd0 rfl (W := 1) (argsL := []) (rest := [(.ref b329)]) rfl rfl at_83 86 rfl ?_
  intro v330 T330 L330 hq330 X330
  obtain ⟨rfl, N330q, K330, f330_0, f330_1, f330_2, f330_3⟩ := hq330
  have O330 := extK O329 K330 (allS G_b329 all0)
  have N330 := Fr.app N0 N330q
  show Go _ _ _ _ (State.setTop _ (mkF _ 86 _ [(.ref b329)]))
  refine gAstore X330 H at_86 rfl (Ls' := #[vI p0, vI p1, vI p2, vI p3, vI p4, vI p5, vI 2, vI 2, vI u8, vI u9, vR b329, .unset, .unset]) rfl 88 rfl ?_
  refine gIload X330 H at_88 rfl 90 rfl ?_
  refine gIfN X330 H at_90 (by decide) 93 rfl ?_
  refine gAload X330 H at_93 rfl rfl 95 rfl ?_
  refine gIloadN X330 H at_95 rfl 96 rfl ?_
  refine gVirt X330 H hZ hown (hw _ wd13) (hw _ wd14) (hw _ wd16) (hw _ wd15) (by decide) f330_0 (hw _ wd17) (hw _ wd2) (rm105_3 B b329 p0 _ O330 f330_2 f330_1 f330_0 G_b329 f330_3) rfl hml rfl pd1 rfl (W := 0) (argsL := [(.int p0)]) (rest := []) rfl rfl at_96 99 rfl ?_
  intro v331 T331 L331 hq331 X331
  obtain ⟨b331_0, k331_0, rfl, N331q, K331, s331_0, f331_0, f331_1, f331_2, f331_3, f331_4⟩ := hq331
  have M332 := (Nat.le_trans (Nat.le_trans M0 E329.1) K330.1)
  have G_b331_0 := Nat.le_trans O330.1 s331_0
  have sz_b331_0 := Nat.le_trans M332 s331_0
  have ne_b329_b331_0 : b329 ≠ b331_0 := neB f330_0.lt s331_0
  have O331 := extK O330 K331 (allS G_b329 all0)
  have N331 := Fr.app N330 N331q
  show Go _ _ _ _ (State.setTop _ (mkF _ 99 _ []))
  refine gIload X331 H at_99 rfl 101 rfl ?_
  refine gIconst X331 H at_101 (z := 1) rfl 102 rfl ?_
  refine gCmpN X331 H at_102 (by decide) 105 rfl ?_
  refine gAload X331 H at_105 rfl rfl 107 rfl ?_
  refine gIloadN X331 H at_107 rfl 108 rfl ?_
  refine gVirt X331 H hZ hown (hw _ wd13) (hw _ wd14) (hw _ wd16) (hw _ wd15) (by decide) f331_2 (hw _ wd17) (hw _ wd2) (rm232_3 B b329 p1 b331_0 k331_0 p0 _ O331 f331_0 f331_1 (Arv.arl f331_4) f331_2 f331_3 f331_4 G_b331_0 ne_b329_b331_0 G_b329) rfl hml rfl pd1 rfl (W := 0) (argsL := [(.int p1)]) (rest := []) rfl rfl at_108 111 rfl ?_
  intro v333 T333 L333 hq333 X333
  obtain ⟨rfl, N333q, K333, f333_0, f333_1, f333_2, f333_3, f333_4⟩ := hq333
  have O333 := extK O331 K333 (allS G_b331_0 (allS G_b329 all0))
  have N333 := Fr.app N331 N333q
  show Go _ _ _ _ (State.setTop _ (mkF _ 111 _ []))
  refine gIload X333 H at_111 rfl 113 rfl ?_
  refine gIconst X333 H at_113 (z := 2) rfl 114 rfl ?_
  refine gCmpY X333 H at_114 (by decide) (by decide) 123 rfl ?_
  refine gAload X333 H at_123 rfl rfl 125 rfl ?_
  refine gIload X333 H at_125 rfl 127 rfl ?_
  refine gVirt X333 H hZ hown (hw _ wd46) (hw _ wd47) (hw _ wd49) (hw _ wd48) (by decide) f333_2 (hw _ wd50) (hw _ wd2) (rm344_9 B b329 b331_0 _ O333 f333_2 f333_0 G_b329 f333_1 f333_3) rfl hml rfl pd1 rfl (W := 0) (argsL := [(.int 2)]) (rest := []) rfl rfl at_127 130 rfl ?_
  intro v345 T345 L345 hq345 X345
  obtain ⟨rfl, N345q, K345, f345_0, f345_1, f345_2, f345_3⟩ := hq345
  have O345 := extK O333 K345 (allS G_b329 all0)
  have N345 := Fr.app N333 N345q
  show Go _ _ _ _ (State.setTop _ (mkF _ 130 _ []))
  refine gAload X345 H at_130 rfl rfl 132 rfl ?_
  refine gIload X345 H at_132 rfl 134 rfl ?_
  refine gIloadN X345 H at_134 rfl 135 rfl ?_
  by_cases hc352 : p0 = u9
  · have c365 := (f333_4.keep K345 (ninS (Ne.symm ne_b329_b331_0) nin0))
    refine gVirt X345 H hZ hown (hw _ wd51) (hw _ wd52) (hw _ wd54) (hw _ wd53) (by decide) f345_0 (hw _ wd55) (hw _ wd2) (rm364_10 B b329 u9 p3 b331_0 k331_0 p0 p1 _ O345 f345_1 f345_2 c365 G_b331_0 hc352) rfl hml rfl pd2 rfl (W := 0) (argsL := [(.int u9), (.int p3)]) (rest := []) rfl rfl at_135 138 rfl ?_
    intro v366 T366 L366 hq366 X366
    obtain ⟨rfl, N366q, K366, f366_0⟩ := hq366
    have O366 := extK O345 K366 (allS G_b331_0 all0)
    have N366 := Fr.app N345 N366q
    show Go _ _ _ _ (State.setTop _ (mkF _ 138 _ []))
    refine gIload X366 H at_138 rfl 140 rfl ?_
    refine gIfN X366 H at_140 (by decide) 143 rfl ?_
    refine gIloadN X366 H at_143 rfl 144 rfl ?_
    refine gIload X366 H at_144 rfl 146 rfl ?_
    refine gCmpN X366 H at_146 (teq hc352).2 149 rfl ?_
    refine gIconst X366 H at_149 (z := 0) rfl 150 rfl ?_
    refine gIstore X366 H at_150 (Ls' := #[vI p0, vI p1, vI p2, vI p3, vI p4, vI p5, vI 2, vI 2, vI u8, vI u9, vR b329, vI 0, .unset]) rfl 152 rfl ?_
    refine gGoto X366 H at_152 (by decide) 194 rfl ?_
    refine gAload X366 H at_194 rfl rfl 196 rfl ?_
    have c367 := (f345_0.keep K366)
    have c371 := (f345_1.keep K366 (ninS ne_b329_b331_0 nin0))
    refine gVirt X366 H hZ hown (hw _ wd56) (hw _ wd57) (hw _ wd59) (hw _ wd58) (by decide) c367 (hw _ wd60) (hw _ wd2) (rm370_11 B b329 _ O366 c371) rfl hml rfl pd3 rfl (W := 0) (argsL := []) (rest := []) rfl rfl at_196 199 rfl ?_
    intro v372 T372 L372 hq372 X372
    obtain ⟨rfl, e372, rfl⟩ := hq372
    have N372 := Fr.app N366 (Fr.nil _)
    show Go _ _ _ _ (State.setTop _ (mkF _ 199 _ [(.int 2)]))
    refine gIload X372 H at_199 rfl 201 rfl ?_
    refine gCmpN X372 H at_201 (by decide) 204 rfl ?_
    refine gIconst X372 H at_204 (z := 1) rfl 205 rfl ?_
    refine gGoto X372 H at_205 (by decide) 209 rfl ?_
    refine gIstore X372 H at_209 (Ls' := #[vI p0, vI p1, vI p2, vI p3, vI p4, vI p5, vI 2, vI 2, vI u8, vI u9, vR b329, vI 0, vI 1]) rfl 211 rfl ?_
    refine gIload X372 H at_211 rfl 213 rfl ?_
    refine gIfN X372 H at_213 (by decide) 216 rfl ?_
    refine gIload X372 H at_216 rfl 218 rfl ?_
    refine gIfN X372 H at_218 (by decide) 221 rfl ?_
    refine gAload X372 H at_221 rfl rfl 223 rfl ?_
    refine gIconst X372 H at_223 (z := 0) rfl 224 rfl ?_
    have c373 := (f345_2.keep K366 (ninS ne_b329_b331_0 nin0))
    refine gVirt X372 H hZ hown (hw _ wd61) (hw _ wd62) (hw _ wd64) (hw _ wd63) (by decide) c367 (hw _ wd65) (hw _ wd2) (rm252_12 B b329 b331_0 k331_0 p3 p1 _ O366 c373 f366_0) e372 hml rfl pd6 rfl (W := 0) (argsL := [(.int 0)]) (rest := []) rfl rfl at_224 227 rfl ?_
    intro v374 T374 L374 hq374 X374
    obtain ⟨rfl, e374, rfl⟩ := hq374
    have N374 := Fr.app N372 (Fr.nil _)
    show Go _ _ _ _ (State.setTop _ (mkF _ 227 _ [(.int p3)]))
    refine gIload X374 H at_227 rfl 229 rfl ?_
    refine gIfN X374 H at_229 (by decide) 232 rfl ?_
    refine gIloadN X374 H at_232 rfl 233 rfl ?_
    refine gGoto X374 H at_233 (by decide) 237 rfl ?_
    refine gCmpN X374 H at_237 (teq rfl).2 240 rfl ?_
    refine gIconst X374 H at_240 (z := 1) rfl 241 rfl ?_
    refine gGoto X374 H at_241 (by decide) 245 rfl ?_
    refine gIstore X374 H at_245 (Ls' := #[vI p0, vI p1, vI p2, vI p3, vI p4, vI p5, vI 2, vI 2, vI u8, vI u9, vR b329, vI 0, vI 1]) rfl 247 rfl ?_
    refine gIload X374 H at_247 rfl 249 rfl ?_
    refine gIconst X374 H at_249 (z := 1) rfl 250 rfl ?_
    refine gCmpN X374 H at_250 (by decide) 253 rfl ?_
    refine gIload X374 H at_253 rfl 255 rfl ?_
    refine gIfN X374 H at_255 (by decide) 258 rfl ?_
    refine gAload X374 H at_258 rfl rfl 260 rfl ?_
    refine gIconst X374 H at_260 (z := 1) rfl 261 rfl ?_
    refine gVirt X374 H hZ hown (hw _ wd61) (hw _ wd62) (hw _ wd64) (hw _ wd63) (by decide) c367 (hw _ wd65) (hw _ wd2) (rm259_12 B b329 b331_0 k331_0 p3 p1 _ O366 c373 f366_0) e374 hml rfl pd6 rfl (W := 0) (argsL := [(.int 1)]) (rest := []) rfl rfl at_261 264 rfl ?_
    intro v375 T375 L375 hq375 X375
    obtain ⟨rfl, e375, rfl⟩ := hq375
    have N375 := Fr.app N374 (Fr.nil _)
    show Go _ _ _ _ (State.setTop _ (mkF _ 264 _ [(.int p1)]))
    refine gIload X375 H at_264 rfl 266 rfl ?_
    refine gIconst X375 H at_266 (z := 1) rfl 267 rfl ?_
    refine gCmpY X375 H at_267 (by decide) (by decide) 274 rfl ?_
    refine gIloadN X375 H at_274 rfl 275 rfl ?_
    refine gCmpN X375 H at_275 (teq rfl).2 278 rfl ?_
    refine gIconst X375 H at_278 (z := 1) rfl 279 rfl ?_
    refine gGoto X375 H at_279 (by decide) 283 rfl ?_
    refine gIstore X375 H at_283 (Ls' := #[vI p0, vI p1, vI p2, vI p3, vI p4, vI p5, vI 2, vI 2, vI u8, vI u9, vR b329, vI 0, vI 1]) rfl 285 rfl ?_
    refine gIload X375 H at_285 rfl 287 rfl ?_
    refine gIconst X375 H at_287 (z := 2) rfl 288 rfl ?_
    refine gCmpY X375 H at_288 (by decide) (by decide) 323 rfl ?_
    refine gIload X375 H at_323 rfl 325 rfl ?_
    exact gRetN X375 H hlk hret (t := .boolean) (by simp) at_325 e375 ⟨rfl, N375⟩
  · by_cases hc386 : p1 = u9
    · have c403 := (f333_4.keep K345 (ninS (Ne.symm ne_b329_b331_0) nin0))
      refine gVirt X345 H hZ hown (hw _ wd51) (hw _ wd52) (hw _ wd54) (hw _ wd53) (by decide) f345_0 (hw _ wd55) (hw _ wd2) (rm402_10 B b329 u9 p3 b331_0 k331_0 p0 p1 _ O345 f345_1 f345_2 c403 G_b331_0 hc352 hc386) rfl hml rfl pd2 rfl (W := 0) (argsL := [(.int u9), (.int p3)]) (rest := []) rfl rfl at_135 138 rfl ?_
      intro v404 T404 L404 hq404 X404
      obtain ⟨rfl, N404q, K404, f404_0⟩ := hq404
      have O404 := extK O345 K404 (allS G_b331_0 all0)
      have N404 := Fr.app N345 N404q
      show Go _ _ _ _ (State.setTop _ (mkF _ 138 _ []))
      refine gIload X404 H at_138 rfl 140 rfl ?_
      refine gIfN X404 H at_140 (by decide) 143 rfl ?_
      refine gIloadN X404 H at_143 rfl 144 rfl ?_
      refine gIload X404 H at_144 rfl 146 rfl ?_
      refine gCmpY X404 H at_146 (feq hc352).2 (by decide) 155 rfl ?_
      refine gIload X404 H at_155 rfl 157 rfl ?_
      refine gIconst X404 H at_157 (z := 1) rfl 158 rfl ?_
      refine gCmpN X404 H at_158 (by decide) 161 rfl ?_
      refine gIloadN X404 H at_161 rfl 162 rfl ?_
      refine gIload X404 H at_162 rfl 164 rfl ?_
      refine gCmpN X404 H at_164 (teq hc386).2 167 rfl ?_
      refine gIconst X404 H at_167 (z := 1) rfl 168 rfl ?_
      refine gIstore X404 H at_168 (Ls' := #[vI p0, vI p1, vI p2, vI p3, vI p4, vI p5, vI 2, vI 2, vI u8, vI u9, vR b329, vI 1, .unset]) rfl 170 rfl ?_
      refine gGoto X404 H at_170 (by decide) 194 rfl ?_
      refine gAload X404 H at_194 rfl rfl 196 rfl ?_
      have c405 := (f345_0.keep K404)
      have c406 := (f345_1.keep K404 (ninS ne_b329_b331_0 nin0))
      refine gVirt X404 H hZ hown (hw _ wd56) (hw _ wd57) (hw _ wd59) (hw _ wd58) (by decide) c405 (hw _ wd60) (hw _ wd2) (rm370_11 B b329 _ O404 c406) rfl hml rfl pd3 rfl (W := 0) (argsL := []) (rest := []) rfl rfl at_196 199 rfl ?_
      intro v407 T407 L407 hq407 X407
      obtain ⟨rfl, e407, rfl⟩ := hq407
      have N407 := Fr.app N404 (Fr.nil _)
      show Go _ _ _ _ (State.setTop _ (mkF _ 199 _ [(.int 2)]))
      refine gIload X407 H at_199 rfl 201 rfl ?_
      refine gCmpN X407 H at_201 (by decide) 204 rfl ?_
      refine gIconst X407 H at_204 (z := 1) rfl 205 rfl ?_
      refine gGoto X407 H at_205 (by decide) 209 rfl ?_
      refine gIstore X407 H at_209 (Ls' := #[vI p0, vI p1, vI p2, vI p3, vI p4, vI p5, vI 2, vI 2, vI u8, vI u9, vR b329, vI 1, vI 1]) rfl 211 rfl ?_
      refine gIload X407 H at_211 rfl 213 rfl ?_
      refine gIfN X407 H at_213 (by decide) 216 rfl ?_
      refine gIload X407 H at_216 rfl 218 rfl ?_
      refine gIfN X407 H at_218 (by decide) 221 rfl ?_
      refine gAload X407 H at_221 rfl rfl 223 rfl ?_
      refine gIconst X407 H at_223 (z := 0) rfl 224 rfl ?_
      have c408 := (f345_2.keep K404 (ninS ne_b329_b331_0 nin0))
      refine gVirt X407 H hZ hown (hw _ wd61) (hw _ wd62) (hw _ wd64) (hw _ wd63) (by decide) c405 (hw _ wd65) (hw _ wd2) (rm252_12 B b329 b331_0 k331_0 p0 p3 _ O404 c408 f404_0) e407 hml rfl pd6 rfl (W := 0) (argsL := [(.int 0)]) (rest := []) rfl rfl at_224 227 rfl ?_
      intro v409 T409 L409 hq409 X409
      obtain ⟨rfl, e409, rfl⟩ := hq409
      have N409 := Fr.app N407 (Fr.nil _)
      show Go _ _ _ _ (State.setTop _ (mkF _ 227 _ [(.int p0)]))
      refine gIload X409 H at_227 rfl 229 rfl ?_
      refine gIfY X409 H at_229 (by decide) (by decide) 236 rfl ?_
      refine gIloadN X409 H at_236 rfl 237 rfl ?_
      refine gCmpN X409 H at_237 (teq rfl).2 240 rfl ?_
      refine gIconst X409 H at_240 (z := 1) rfl 241 rfl ?_
      refine gGoto X409 H at_241 (by decide) 245 rfl ?_
      refine gIstore X409 H at_245 (Ls' := #[vI p0, vI p1, vI p2, vI p3, vI p4, vI p5, vI 2, vI 2, vI u8, vI u9, vR b329, vI 1, vI 1]) rfl 247 rfl ?_
      refine gIload X409 H at_247 rfl 249 rfl ?_
      refine gIconst X409 H at_249 (z := 1) rfl 250 rfl ?_
      refine gCmpN X409 H at_250 (by decide) 253 rfl ?_
      refine gIload X409 H at_253 rfl 255 rfl ?_
      refine gIfN X409 H at_255 (by decide) 258 rfl ?_
      refine gAload X409 H at_258 rfl rfl 260 rfl ?_
      refine gIconst X409 H at_260 (z := 1) rfl 261 rfl ?_
      refine gVirt X409 H hZ hown (hw _ wd61) (hw _ wd62) (hw _ wd64) (hw _ wd63) (by decide) c405 (hw _ wd65) (hw _ wd2) (rm259_12 B b329 b331_0 k331_0 p0 p3 _ O404 c408 f404_0) e409 hml rfl pd6 rfl (W := 0) (argsL := [(.int 1)]) (rest := []) rfl rfl at_261 264 rfl ?_
      intro v410 T410 L410 hq410 X410
      obtain ⟨rfl, e410, rfl⟩ := hq410
      have N410 := Fr.app N409 (Fr.nil _)
      show Go _ _ _ _ (State.setTop _ (mkF _ 264 _ [(.int p3)]))
      refine gIload X410 H at_264 rfl 266 rfl ?_
      refine gIconst X410 H at_266 (z := 1) rfl 267 rfl ?_
      refine gCmpN X410 H at_267 (by decide) 270 rfl ?_
      refine gIloadN X410 H at_270 rfl 271 rfl ?_
      refine gGoto X410 H at_271 (by decide) 275 rfl ?_
      refine gCmpN X410 H at_275 (teq rfl).2 278 rfl ?_
      refine gIconst X410 H at_278 (z := 1) rfl 279 rfl ?_
      refine gGoto X410 H at_279 (by decide) 283 rfl ?_
      refine gIstore X410 H at_283 (Ls' := #[vI p0, vI p1, vI p2, vI p3, vI p4, vI p5, vI 2, vI 2, vI u8, vI u9, vR b329, vI 1, vI 1]) rfl 285 rfl ?_
      refine gIload X410 H at_285 rfl 287 rfl ?_
      refine gIconst X410 H at_287 (z := 2) rfl 288 rfl ?_
      refine gCmpY X410 H at_288 (by decide) (by decide) 323 rfl ?_
      refine gIload X410 H at_323 rfl 325 rfl ?_
      exact gRetN X410 H hlk hret (t := .boolean) (by simp) at_325 e410 ⟨rfl, N410⟩
    · have c424 := (f333_4.keep K345 (ninS (Ne.symm ne_b329_b331_0) nin0))
      refine gVirt X345 H hZ hown (hw _ wd51) (hw _ wd52) (hw _ wd54) (hw _ wd53) (by decide) f345_0 (hw _ wd55) (hw _ wd2) (rm423_10 B b329 u9 p3 b331_0 k331_0 p0 p1 _ O345 f345_1 f345_2 c424 hc352 hc386) rfl hml rfl pd2 rfl (W := 0) (argsL := [(.int u9), (.int p3)]) (rest := []) rfl rfl at_135 138 rfl ?_
      intro v425 T425 L425 hq425 X425
      obtain ⟨rfl, e425, rfl⟩ := hq425
      have N425 := Fr.app N345 (Fr.nil _)
      show Go _ _ _ _ (State.setTop _ (mkF _ 138 _ []))
      refine gIload X425 H at_138 rfl 140 rfl ?_
      refine gIfN X425 H at_140 (by decide) 143 rfl ?_
      refine gIloadN X425 H at_143 rfl 144 rfl ?_
      refine gIload X425 H at_144 rfl 146 rfl ?_
      refine gCmpY X425 H at_146 (feq hc352).2 (by decide) 155 rfl ?_
      refine gIload X425 H at_155 rfl 157 rfl ?_
      refine gIconst X425 H at_157 (z := 1) rfl 158 rfl ?_
      refine gCmpN X425 H at_158 (by decide) 161 rfl ?_
      refine gIloadN X425 H at_161 rfl 162 rfl ?_
      refine gIload X425 H at_162 rfl 164 rfl ?_
      refine gCmpY X425 H at_164 (feq hc386).2 (by decide) 173 rfl ?_
      refine gIload X425 H at_173 rfl 175 rfl ?_
      refine gIconst X425 H at_175 (z := 2) rfl 176 rfl ?_
      refine gCmpY X425 H at_176 (by decide) (by decide) 191 rfl ?_
      refine gIconst X425 H at_191 (z := (-1)) rfl 192 rfl ?_
      refine gIstore X425 H at_192 (Ls' := #[vI p0, vI p1, vI p2, vI p3, vI p4, vI p5, vI 2, vI 2, vI u8, vI u9, vR b329, vI (-1), .unset]) rfl 194 rfl ?_
      refine gAload X425 H at_194 rfl rfl 196 rfl ?_
      refine gVirt X425 H hZ hown (hw _ wd56) (hw _ wd57) (hw _ wd59) (hw _ wd58) (by decide) f345_0 (hw _ wd60) (hw _ wd2) (rm370_11 B b329 _ O345 f345_1) e425 hml rfl pd3 rfl (W := 0) (argsL := []) (rest := []) rfl rfl at_196 199 rfl ?_
      intro v426 T426 L426 hq426 X426
      obtain ⟨rfl, e426, rfl⟩ := hq426
      have N426 := Fr.app N425 (Fr.nil _)
      show Go _ _ _ _ (State.setTop _ (mkF _ 199 _ [(.int 2)]))
      refine gIload X426 H at_199 rfl 201 rfl ?_
      refine gCmpN X426 H at_201 (by decide) 204 rfl ?_
      refine gIconst X426 H at_204 (z := 1) rfl 205 rfl ?_
      refine gGoto X426 H at_205 (by decide) 209 rfl ?_
      refine gIstore X426 H at_209 (Ls' := #[vI p0, vI p1, vI p2, vI p3, vI p4, vI p5, vI 2, vI 2, vI u8, vI u9, vR b329, vI (-1), vI 1]) rfl 211 rfl ?_
      refine gIload X426 H at_211 rfl 213 rfl ?_
      refine gIfN X426 H at_213 (by decide) 216 rfl ?_
      refine gIload X426 H at_216 rfl 218 rfl ?_
      refine gIfN X426 H at_218 (by decide) 221 rfl ?_
      refine gAload X426 H at_221 rfl rfl 223 rfl ?_
      refine gIconst X426 H at_223 (z := 0) rfl 224 rfl ?_
      refine gVirt X426 H hZ hown (hw _ wd61) (hw _ wd62) (hw _ wd64) (hw _ wd63) (by decide) f345_0 (hw _ wd65) (hw _ wd2) (rm252_12 B b329 b331_0 k331_0 p0 p1 _ O345 f345_2 c424) e426 hml rfl pd6 rfl (W := 0) (argsL := [(.int 0)]) (rest := []) rfl rfl at_224 227 rfl ?_
      intro v427 T427 L427 hq427 X427
      obtain ⟨rfl, e427, rfl⟩ := hq427
      have N427 := Fr.app N426 (Fr.nil _)
      show Go _ _ _ _ (State.setTop _ (mkF _ 227 _ [(.int p0)]))
      refine gIload X427 H at_227 rfl 229 rfl ?_
      refine gIfY X427 H at_229 (by decide) (by decide) 236 rfl ?_
      refine gIloadN X427 H at_236 rfl 237 rfl ?_
      refine gCmpN X427 H at_237 (teq rfl).2 240 rfl ?_
      refine gIconst X427 H at_240 (z := 1) rfl 241 rfl ?_
      refine gGoto X427 H at_241 (by decide) 245 rfl ?_
      refine gIstore X427 H at_245 (Ls' := #[vI p0, vI p1, vI p2, vI p3, vI p4, vI p5, vI 2, vI 2, vI u8, vI u9, vR b329, vI (-1), vI 1]) rfl 247 rfl ?_
      refine gIload X427 H at_247 rfl 249 rfl ?_
      refine gIconst X427 H at_249 (z := 1) rfl 250 rfl ?_
      refine gCmpN X427 H at_250 (by decide) 253 rfl ?_
      refine gIload X427 H at_253 rfl 255 rfl ?_
      refine gIfN X427 H at_255 (by decide) 258 rfl ?_
      refine gAload X427 H at_258 rfl rfl 260 rfl ?_
      refine gIconst X427 H at_260 (z := 1) rfl 261 rfl ?_
      refine gVirt X427 H hZ hown (hw _ wd61) (hw _ wd62) (hw _ wd64) (hw _ wd63) (by decide) f345_0 (hw _ wd65) (hw _ wd2) (rm259_12 B b329 b331_0 k331_0 p0 p1 _ O345 f345_2 c424) e427 hml rfl pd6 rfl (W := 0) (argsL := [(.int 1)]) (rest := []) rfl rfl at_261 264 rfl ?_
      intro v428 T428 L428 hq428 X428
      obtain ⟨rfl, e428, rfl⟩ := hq428
      have N428 := Fr.app N427 (Fr.nil _)
      show Go _ _ _ _ (State.setTop _ (mkF _ 264 _ [(.int p1)]))
      refine gIload X428 H at_264 rfl 266 rfl ?_
      refine gIconst X428 H at_266 (z := 1) rfl 267 rfl ?_
      refine gCmpY X428 H at_267 (by decide) (by decide) 274 rfl ?_
      refine gIloadN X428 H at_274 rfl 275 rfl ?_
      refine gCmpN X428 H at_275 (teq rfl).2 278 rfl ?_
      refine gIconst X428 H at_278 (z := 1) rfl 279 rfl ?_
      refine gGoto X428 H at_279 (by decide) 283 rfl ?_
      refine gIstore X428 H at_283 (Ls' := #[vI p0, vI p1, vI p2, vI p3, vI p4, vI p5, vI 2, vI 2, vI u8, vI u9, vR b329, vI (-1), vI 1]) rfl 285 rfl ?_
      refine gIload X428 H at_285 rfl 287 rfl ?_
      refine gIconst X428 H at_287 (z := 2) rfl 288 rfl ?_
      refine gCmpY X428 H at_288 (by decide) (by decide) 323 rfl ?_
      refine gIload X428 H at_323 rfl 325 rfl ?_
      exact gRetN X428 H hlk hret (t := .boolean) (by simp) at_325 e428 ⟨rfl, N428⟩
theorem lawAll_2 (B : Bg Z a0 w_Trail_NO_ROOM k_w_Trail_NO_ROOM) (p0 : Int32) (p1 : Int32) (p2 : Int32) (p3 : Int32) (p4 : Int32) (p5 : Int32) (ha0 : (p5 &&& (3 : Int32)) = (2 : Int32)) :
    Con l Z x code maxLocals ret room_1 #[(.int p0), (.int p1), (.int p2), (.int p3), (.int p4), (.int p5)] Z.heap (fun v h' L => v = some (.int 1) ∧ Fr Z.heap.size L) := by
  have hw := B.1
  obtain ⟨S_w_Trail_NO_ROOM, V_w_Trail_NO_ROOM⟩ := B.2
  refine Con.of (plainFor_of_name pn0) (Ls := #[vI p0, vI p1, vI p2, vI p3, vI p4, vI p5, .unset, .unset, .unset, .unset, .unset, .unset, .unset]) (fun _ => rfl) ?_
  intro p e s m below meth c T0 X0 H hml hZ hown hnm hret hlk e0
  have O0 := extR Z.heap
  have M0 := Nat.le_refl Z.heap.size
  have N0 := Fr.nil Z.heap.size
  refine gIload X0 H at_0 rfl 2 rfl ?_
  refine gIconst X0 H at_2 (z := 3) rfl 3 rfl ?_
  refine g_iand X0 H at_3 (z := 2) ha0 4 rfl ?_
  refine gIstore X0 H at_4 (Ls' := #[vI p0, vI p1, vI p2, vI p3, vI p4, vI p5, vI 2, .unset, .unset, .unset, .unset, .unset, .unset]) rfl 6 rfl ?_
  refine gIload X0 H at_6 rfl 8 rfl ?_
  refine gIconst X0 H at_8 (z := 2) rfl 9 rfl ?_
  refine g_iushr X0 H at_9 (z := ((p5.toUInt32 >>> ((2 : Int32) &&& 31).toUInt32).toInt32)) rfl 10 rfl ?_
  refine gIconst X0 H at_10 (z := 3) rfl 11 rfl ?_
  refine g_iand X0 H at_11 (z := (((p5.toUInt32 >>> ((2 : Int32) &&& 31).toUInt32).toInt32) &&& (3 : Int32))) rfl 12 rfl ?_
  refine gIload X0 H at_12 rfl 14 rfl ?_
  refine gIconst X0 H at_14 (z := 1) rfl 15 rfl ?_
  refine g_iadd X0 H at_15 (z := 3) (by decide) 16 rfl ?_
  rcases mm3_3 ((p5.toUInt32 >>> ((2 : Int32) &&& 31).toUInt32).toInt32) with hn195 | hn195 | hn195
  · refine g_irem X0 H at_16 (by decide) (z := 0) hn195 17 rfl ?_
    refine gIstore X0 H at_17 (Ls' := #[vI p0, vI p1, vI p2, vI p3, vI p4, vI p5, vI 2, vI 0, .unset, .unset, .unset, .unset, .unset]) rfl 19 rfl ?_
    refine gIload X0 H at_19 rfl 21 rfl ?_
    refine gIconst X0 H at_21 (z := 4) rfl 22 rfl ?_
    refine g_iushr X0 H at_22 (z := ((p5.toUInt32 >>> ((4 : Int32) &&& 31).toUInt32).toInt32)) rfl 23 rfl ?_
    refine gBipush X0 H at_23 (z := 7) rfl 25 rfl ?_
    refine g_iand X0 H at_25 (z := (((p5.toUInt32 >>> ((4 : Int32) &&& 31).toUInt32).toInt32) &&& (7 : Int32))) rfl 26 rfl ?_
    refine gIstore X0 H at_26 (Ls' := #[vI p0, vI p1, vI p2, vI p3, vI p4, vI p5, vI 2, vI 0, vI (((p5.toUInt32 >>> ((4 : Int32) &&& 31).toUInt32).toInt32) &&& (7 : Int32)), .unset, .unset, .unset, .unset]) rfl 28 rfl ?_
    refine gIload X0 H at_28 rfl 30 rfl ?_
    by_cases hc196 : (((p5.toUInt32 >>> ((4 : Int32) &&& 31).toUInt32).toInt32) &&& (7 : Int32)) = (0 : Int32)
    · refine gIfN X0 H at_30 ((if0 _ _).trans (teq hc196).2) 33 rfl ?_
      refine gIloadN X0 H at_33 rfl 34 rfl ?_
      refine gIstore X0 H at_34 (Ls' := #[vI p0, vI p1, vI p2, vI p3, vI p4, vI p5, vI 2, vI 0, vI (((p5.toUInt32 >>> ((4 : Int32) &&& 31).toUInt32).toInt32) &&& (7 : Int32)), vI p0, .unset, .unset, .unset]) rfl 36 rfl ?_
      refine gGoto X0 H at_36 (by decide) 79 rfl ?_
      exact cut197_79 B p0 p1 p2 p3 p4 p5 ((((p5.toUInt32 >>> ((4 : Int32) &&& 31).toUInt32).toInt32) &&& (7 : Int32))) p0 X0 H hml hZ hown hnm hret hlk e0
    · refine gIfY X0 H at_30 ((if0 _ _).trans (feq hc196).2) (by decide) 39 rfl ?_
      refine gIload X0 H at_39 rfl 41 rfl ?_
      refine gIconst X0 H at_41 (z := 1) rfl 42 rfl ?_
      by_cases hc261 : (((p5.toUInt32 >>> ((4 : Int32) &&& 31).toUInt32).toInt32) &&& (7 : Int32)) = (1 : Int32)
      · refine gCmpN X0 H at_42 (teq hc261).2 45 rfl ?_
        refine gIloadN X0 H at_45 rfl 46 rfl ?_
        refine gIstore X0 H at_46 (Ls' := #[vI p0, vI p1, vI p2, vI p3, vI p4, vI p5, vI 2, vI 0, vI (((p5.toUInt32 >>> ((4 : Int32) &&& 31).toUInt32).toInt32) &&& (7 : Int32)), vI p1, .unset, .unset, .unset]) rfl 48 rfl ?_
        refine gGoto X0 H at_48 (by decide) 79 rfl ?_
        exact cut197_79 B p0 p1 p2 p3 p4 p5 ((((p5.toUInt32 >>> ((4 : Int32) &&& 31).toUInt32).toInt32) &&& (7 : Int32))) p1 X0 H hml hZ hown hnm hret hlk e0
      · refine gCmpY X0 H at_42 (feq hc261).2 (by decide) 51 rfl ?_
        refine gIload X0 H at_51 rfl 53 rfl ?_
        refine gIconst X0 H at_53 (z := 2) rfl 54 rfl ?_
        by_cases hc262 : (((p5.toUInt32 >>> ((4 : Int32) &&& 31).toUInt32).toInt32) &&& (7 : Int32)) = (2 : Int32)
        · refine gCmpN X0 H at_54 (teq hc262).2 57 rfl ?_
          refine gIloadN X0 H at_57 rfl 58 rfl ?_
          refine gIstore X0 H at_58 (Ls' := #[vI p0, vI p1, vI p2, vI p3, vI p4, vI p5, vI 2, vI 0, vI (((p5.toUInt32 >>> ((4 : Int32) &&& 31).toUInt32).toInt32) &&& (7 : Int32)), vI p2, .unset, .unset, .unset]) rfl 60 rfl ?_
          refine gGoto X0 H at_60 (by decide) 79 rfl ?_
          exact cut197_79 B p0 p1 p2 p3 p4 p5 ((((p5.toUInt32 >>> ((4 : Int32) &&& 31).toUInt32).toInt32) &&& (7 : Int32))) p2 X0 H hml hZ hown hnm hret hlk e0
        · refine gCmpY X0 H at_54 (feq hc262).2 (by decide) 63 rfl ?_
          refine gIload X0 H at_63 rfl 65 rfl ?_
          refine gIconst X0 H at_65 (z := 3) rfl 66 rfl ?_
          by_cases hc263 : (((p5.toUInt32 >>> ((4 : Int32) &&& 31).toUInt32).toInt32) &&& (7 : Int32)) = (3 : Int32)
          · refine gCmpN X0 H at_66 (teq hc263).2 69 rfl ?_
            refine gIloadN X0 H at_69 rfl 70 rfl ?_
            refine gIstore X0 H at_70 (Ls' := #[vI p0, vI p1, vI p2, vI p3, vI p4, vI p5, vI 2, vI 0, vI (((p5.toUInt32 >>> ((4 : Int32) &&& 31).toUInt32).toInt32) &&& (7 : Int32)), vI p3, .unset, .unset, .unset]) rfl 72 rfl ?_
            refine gGoto X0 H at_72 (by decide) 79 rfl ?_
            exact cut197_79 B p0 p1 p2 p3 p4 p5 ((((p5.toUInt32 >>> ((4 : Int32) &&& 31).toUInt32).toInt32) &&& (7 : Int32))) p3 X0 H hml hZ hown hnm hret hlk e0
          · refine gCmpY X0 H at_66 (feq hc263).2 (by decide) 75 rfl ?_
            refine gIload X0 H at_75 rfl 77 rfl ?_
            refine gIstore X0 H at_77 (Ls' := #[vI p0, vI p1, vI p2, vI p3, vI p4, vI p5, vI 2, vI 0, vI (((p5.toUInt32 >>> ((4 : Int32) &&& 31).toUInt32).toInt32) &&& (7 : Int32)), vI p4, .unset, .unset, .unset]) rfl 79 rfl ?_
            exact cut197_79 B p0 p1 p2 p3 p4 p5 ((((p5.toUInt32 >>> ((4 : Int32) &&& 31).toUInt32).toInt32) &&& (7 : Int32))) p4 X0 H hml hZ hown hnm hret hlk e0
  · refine g_irem X0 H at_16 (by decide) (z := 1) hn195 17 rfl ?_
    refine gIstore X0 H at_17 (Ls' := #[vI p0, vI p1, vI p2, vI p3, vI p4, vI p5, vI 2, vI 1, .unset, .unset, .unset, .unset, .unset]) rfl 19 rfl ?_
    refine gIload X0 H at_19 rfl 21 rfl ?_
    refine gIconst X0 H at_21 (z := 4) rfl 22 rfl ?_
    refine g_iushr X0 H at_22 (z := ((p5.toUInt32 >>> ((4 : Int32) &&& 31).toUInt32).toInt32)) rfl 23 rfl ?_
    refine gBipush X0 H at_23 (z := 7) rfl 25 rfl ?_
    refine g_iand X0 H at_25 (z := (((p5.toUInt32 >>> ((4 : Int32) &&& 31).toUInt32).toInt32) &&& (7 : Int32))) rfl 26 rfl ?_
    refine gIstore X0 H at_26 (Ls' := #[vI p0, vI p1, vI p2, vI p3, vI p4, vI p5, vI 2, vI 1, vI (((p5.toUInt32 >>> ((4 : Int32) &&& 31).toUInt32).toInt32) &&& (7 : Int32)), .unset, .unset, .unset, .unset]) rfl 28 rfl ?_
    refine gIload X0 H at_28 rfl 30 rfl ?_
    by_cases hc264 : (((p5.toUInt32 >>> ((4 : Int32) &&& 31).toUInt32).toInt32) &&& (7 : Int32)) = (0 : Int32)
    · refine gIfN X0 H at_30 ((if0 _ _).trans (teq hc264).2) 33 rfl ?_
      refine gIloadN X0 H at_33 rfl 34 rfl ?_
      refine gIstore X0 H at_34 (Ls' := #[vI p0, vI p1, vI p2, vI p3, vI p4, vI p5, vI 2, vI 1, vI (((p5.toUInt32 >>> ((4 : Int32) &&& 31).toUInt32).toInt32) &&& (7 : Int32)), vI p0, .unset, .unset, .unset]) rfl 36 rfl ?_
      refine gGoto X0 H at_36 (by decide) 79 rfl ?_
      exact cut265_79 B p0 p1 p2 p3 p4 p5 ((((p5.toUInt32 >>> ((4 : Int32) &&& 31).toUInt32).toInt32) &&& (7 : Int32))) p0 X0 H hml hZ hown hnm hret hlk e0
    · refine gIfY X0 H at_30 ((if0 _ _).trans (feq hc264).2) (by decide) 39 rfl ?_
      refine gIload X0 H at_39 rfl 41 rfl ?_
      refine gIconst X0 H at_41 (z := 1) rfl 42 rfl ?_
      by_cases hc324 : (((p5.toUInt32 >>> ((4 : Int32) &&& 31).toUInt32).toInt32) &&& (7 : Int32)) = (1 : Int32)
      · refine gCmpN X0 H at_42 (teq hc324).2 45 rfl ?_
        refine gIloadN X0 H at_45 rfl 46 rfl ?_
        refine gIstore X0 H at_46 (Ls' := #[vI p0, vI p1, vI p2, vI p3, vI p4, vI p5, vI 2, vI 1, vI (((p5.toUInt32 >>> ((4 : Int32) &&& 31).toUInt32).toInt32) &&& (7 : Int32)), vI p1, .unset, .unset, .unset]) rfl 48 rfl ?_
        refine gGoto X0 H at_48 (by decide) 79 rfl ?_
        exact cut265_79 B p0 p1 p2 p3 p4 p5 ((((p5.toUInt32 >>> ((4 : Int32) &&& 31).toUInt32).toInt32) &&& (7 : Int32))) p1 X0 H hml hZ hown hnm hret hlk e0
      · refine gCmpY X0 H at_42 (feq hc324).2 (by decide) 51 rfl ?_
        refine gIload X0 H at_51 rfl 53 rfl ?_
        refine gIconst X0 H at_53 (z := 2) rfl 54 rfl ?_
        by_cases hc325 : (((p5.toUInt32 >>> ((4 : Int32) &&& 31).toUInt32).toInt32) &&& (7 : Int32)) = (2 : Int32)
        · refine gCmpN X0 H at_54 (teq hc325).2 57 rfl ?_
          refine gIloadN X0 H at_57 rfl 58 rfl ?_
          refine gIstore X0 H at_58 (Ls' := #[vI p0, vI p1, vI p2, vI p3, vI p4, vI p5, vI 2, vI 1, vI (((p5.toUInt32 >>> ((4 : Int32) &&& 31).toUInt32).toInt32) &&& (7 : Int32)), vI p2, .unset, .unset, .unset]) rfl 60 rfl ?_
          refine gGoto X0 H at_60 (by decide) 79 rfl ?_
          exact cut265_79 B p0 p1 p2 p3 p4 p5 ((((p5.toUInt32 >>> ((4 : Int32) &&& 31).toUInt32).toInt32) &&& (7 : Int32))) p2 X0 H hml hZ hown hnm hret hlk e0
        · refine gCmpY X0 H at_54 (feq hc325).2 (by decide) 63 rfl ?_
          refine gIload X0 H at_63 rfl 65 rfl ?_
          refine gIconst X0 H at_65 (z := 3) rfl 66 rfl ?_
          by_cases hc326 : (((p5.toUInt32 >>> ((4 : Int32) &&& 31).toUInt32).toInt32) &&& (7 : Int32)) = (3 : Int32)
          · refine gCmpN X0 H at_66 (teq hc326).2 69 rfl ?_
            refine gIloadN X0 H at_69 rfl 70 rfl ?_
            refine gIstore X0 H at_70 (Ls' := #[vI p0, vI p1, vI p2, vI p3, vI p4, vI p5, vI 2, vI 1, vI (((p5.toUInt32 >>> ((4 : Int32) &&& 31).toUInt32).toInt32) &&& (7 : Int32)), vI p3, .unset, .unset, .unset]) rfl 72 rfl ?_
            refine gGoto X0 H at_72 (by decide) 79 rfl ?_
            exact cut265_79 B p0 p1 p2 p3 p4 p5 ((((p5.toUInt32 >>> ((4 : Int32) &&& 31).toUInt32).toInt32) &&& (7 : Int32))) p3 X0 H hml hZ hown hnm hret hlk e0
          · refine gCmpY X0 H at_66 (feq hc326).2 (by decide) 75 rfl ?_
            refine gIload X0 H at_75 rfl 77 rfl ?_
            refine gIstore X0 H at_77 (Ls' := #[vI p0, vI p1, vI p2, vI p3, vI p4, vI p5, vI 2, vI 1, vI (((p5.toUInt32 >>> ((4 : Int32) &&& 31).toUInt32).toInt32) &&& (7 : Int32)), vI p4, .unset, .unset, .unset]) rfl 79 rfl ?_
            exact cut265_79 B p0 p1 p2 p3 p4 p5 ((((p5.toUInt32 >>> ((4 : Int32) &&& 31).toUInt32).toInt32) &&& (7 : Int32))) p4 X0 H hml hZ hown hnm hret hlk e0
  · refine g_irem X0 H at_16 (by decide) (z := 2) hn195 17 rfl ?_
    refine gIstore X0 H at_17 (Ls' := #[vI p0, vI p1, vI p2, vI p3, vI p4, vI p5, vI 2, vI 2, .unset, .unset, .unset, .unset, .unset]) rfl 19 rfl ?_
    refine gIload X0 H at_19 rfl 21 rfl ?_
    refine gIconst X0 H at_21 (z := 4) rfl 22 rfl ?_
    refine g_iushr X0 H at_22 (z := ((p5.toUInt32 >>> ((4 : Int32) &&& 31).toUInt32).toInt32)) rfl 23 rfl ?_
    refine gBipush X0 H at_23 (z := 7) rfl 25 rfl ?_
    refine g_iand X0 H at_25 (z := (((p5.toUInt32 >>> ((4 : Int32) &&& 31).toUInt32).toInt32) &&& (7 : Int32))) rfl 26 rfl ?_
    refine gIstore X0 H at_26 (Ls' := #[vI p0, vI p1, vI p2, vI p3, vI p4, vI p5, vI 2, vI 2, vI (((p5.toUInt32 >>> ((4 : Int32) &&& 31).toUInt32).toInt32) &&& (7 : Int32)), .unset, .unset, .unset, .unset]) rfl 28 rfl ?_
    refine gIload X0 H at_28 rfl 30 rfl ?_
    by_cases hc327 : (((p5.toUInt32 >>> ((4 : Int32) &&& 31).toUInt32).toInt32) &&& (7 : Int32)) = (0 : Int32)
    · refine gIfN X0 H at_30 ((if0 _ _).trans (teq hc327).2) 33 rfl ?_
      refine gIloadN X0 H at_33 rfl 34 rfl ?_
      refine gIstore X0 H at_34 (Ls' := #[vI p0, vI p1, vI p2, vI p3, vI p4, vI p5, vI 2, vI 2, vI (((p5.toUInt32 >>> ((4 : Int32) &&& 31).toUInt32).toInt32) &&& (7 : Int32)), vI p0, .unset, .unset, .unset]) rfl 36 rfl ?_
      refine gGoto X0 H at_36 (by decide) 79 rfl ?_
      exact cut328_79 B p0 p1 p2 p3 p4 p5 ((((p5.toUInt32 >>> ((4 : Int32) &&& 31).toUInt32).toInt32) &&& (7 : Int32))) p0 X0 H hml hZ hown hnm hret hlk e0
    · refine gIfY X0 H at_30 ((if0 _ _).trans (feq hc327).2) (by decide) 39 rfl ?_
      refine gIload X0 H at_39 rfl 41 rfl ?_
      refine gIconst X0 H at_41 (z := 1) rfl 42 rfl ?_
      by_cases hc429 : (((p5.toUInt32 >>> ((4 : Int32) &&& 31).toUInt32).toInt32) &&& (7 : Int32)) = (1 : Int32)
      · refine gCmpN X0 H at_42 (teq hc429).2 45 rfl ?_
        refine gIloadN X0 H at_45 rfl 46 rfl ?_
        refine gIstore X0 H at_46 (Ls' := #[vI p0, vI p1, vI p2, vI p3, vI p4, vI p5, vI 2, vI 2, vI (((p5.toUInt32 >>> ((4 : Int32) &&& 31).toUInt32).toInt32) &&& (7 : Int32)), vI p1, .unset, .unset, .unset]) rfl 48 rfl ?_
        refine gGoto X0 H at_48 (by decide) 79 rfl ?_
        exact cut328_79 B p0 p1 p2 p3 p4 p5 ((((p5.toUInt32 >>> ((4 : Int32) &&& 31).toUInt32).toInt32) &&& (7 : Int32))) p1 X0 H hml hZ hown hnm hret hlk e0
      · refine gCmpY X0 H at_42 (feq hc429).2 (by decide) 51 rfl ?_
        refine gIload X0 H at_51 rfl 53 rfl ?_
        refine gIconst X0 H at_53 (z := 2) rfl 54 rfl ?_
        by_cases hc430 : (((p5.toUInt32 >>> ((4 : Int32) &&& 31).toUInt32).toInt32) &&& (7 : Int32)) = (2 : Int32)
        · refine gCmpN X0 H at_54 (teq hc430).2 57 rfl ?_
          refine gIloadN X0 H at_57 rfl 58 rfl ?_
          refine gIstore X0 H at_58 (Ls' := #[vI p0, vI p1, vI p2, vI p3, vI p4, vI p5, vI 2, vI 2, vI (((p5.toUInt32 >>> ((4 : Int32) &&& 31).toUInt32).toInt32) &&& (7 : Int32)), vI p2, .unset, .unset, .unset]) rfl 60 rfl ?_
          refine gGoto X0 H at_60 (by decide) 79 rfl ?_
          exact cut328_79 B p0 p1 p2 p3 p4 p5 ((((p5.toUInt32 >>> ((4 : Int32) &&& 31).toUInt32).toInt32) &&& (7 : Int32))) p2 X0 H hml hZ hown hnm hret hlk e0
        · refine gCmpY X0 H at_54 (feq hc430).2 (by decide) 63 rfl ?_
          refine gIload X0 H at_63 rfl 65 rfl ?_
          refine gIconst X0 H at_65 (z := 3) rfl 66 rfl ?_
          by_cases hc431 : (((p5.toUInt32 >>> ((4 : Int32) &&& 31).toUInt32).toInt32) &&& (7 : Int32)) = (3 : Int32)
          · refine gCmpN X0 H at_66 (teq hc431).2 69 rfl ?_
            refine gIloadN X0 H at_69 rfl 70 rfl ?_
            refine gIstore X0 H at_70 (Ls' := #[vI p0, vI p1, vI p2, vI p3, vI p4, vI p5, vI 2, vI 2, vI (((p5.toUInt32 >>> ((4 : Int32) &&& 31).toUInt32).toInt32) &&& (7 : Int32)), vI p3, .unset, .unset, .unset]) rfl 72 rfl ?_
            refine gGoto X0 H at_72 (by decide) 79 rfl ?_
            exact cut328_79 B p0 p1 p2 p3 p4 p5 ((((p5.toUInt32 >>> ((4 : Int32) &&& 31).toUInt32).toInt32) &&& (7 : Int32))) p3 X0 H hml hZ hown hnm hret hlk e0
          · refine gCmpY X0 H at_66 (feq hc431).2 (by decide) 75 rfl ?_
            refine gIload X0 H at_75 rfl 77 rfl ?_
            refine gIstore X0 H at_77 (Ls' := #[vI p0, vI p1, vI p2, vI p3, vI p4, vI p5, vI 2, vI 2, vI (((p5.toUInt32 >>> ((4 : Int32) &&& 31).toUInt32).toInt32) &&& (7 : Int32)), vI p4, .unset, .unset, .unset]) rfl 79 rfl ?_
            exact cut328_79 B p0 p1 p2 p3 p4 p5 ((((p5.toUInt32 >>> ((4 : Int32) &&& 31).toUInt32).toInt32) &&& (7 : Int32))) p4 X0 H hml hZ hown hnm hret hlk e0
theorem rm450_8 (B : Bg Z a0 w_Trail_NO_ROOM k_w_Trail_NO_ROOM) (ro0 : Addr) (h : Heap) (O : Ext Z.heap h) (q448 : Fld Z h ro0 cs0 "unchanged" "B" (.int 0)) :
    Con l Z yM8 prog_22_method_15_code 2 none ({ frames := 0, cells := 0, slots := 0, locals := 0 } : Room) #[(.ref ro0), (.int 2)] h (fun v h' L => v = none ∧ h' = h ∧ L = []) := by
  have hw := B.1
  refine Con.of (plainFor_of_name pn8) (Ls := #[vR ro0, vI 2]) (fun _ => rfl) ?_
  intro p e s m below meth c T0 X0 H hml hZ hown hnm hret hlk e0
  refine gIloadN X0 H d8_0 rfl 1 rfl ?_
  refine gAloadN X0 H d8_1 rfl rfl 2 rfl ?_
  refine gGetF X0 H hZ hown (hw _ wd44) Via.refl e0 q448 d8_2 5 rfl ?_
  intro T449 X449 e449
  refine gCmpY X449 H d8_5 (by decide) (by decide) 14 rfl ?_
  exact gRetV X449 H hlk hret d8_14 e449 ⟨rfl, rfl, rfl⟩
theorem rm470_3 (B : Bg Z a0 w_Trail_NO_ROOM k_w_Trail_NO_ROOM) (ro0 : Addr) (vi1 : Int32) (ro2 : Addr) (ck3 : ClassId) (vi4 vi5 : Int32) (h : Heap) (O : Ext Z.heap h) (q440 : Fld Z h ro0 cs0 "depth" "I" (.int 2)) (q442 : Fld Z h ro0 cs0 "entries" "[I" (.ref ro2)) (q445 : Arl Z h ro2 (16 : Int32)) (q447 : Exa Z h ro0 cs0) (q451 : Fld Z h ro0 cs0 "unchanged" "B" (.int 0)) (q456 : Arv Z h ro2 ck3 .int (16 : Int32) [(.int vi4), (.int vi5), (.int 0), (.int 0), (.int 0), (.int 0), (.int 0), (.int 0), (.int 0), (.int 0), (.int 0), (.int 0), (.int 0), (.int 0), (.int 0), (.int 0)] (.int 0)) (q457 : Z.heap.size ≤ ro2) (q458 : ro0 ≠ ro2) (q463 : Z.heap.size ≤ ro0) :
    Con l Z yM3 prog_22_method_6_code 2 none ({ frames := 1, cells := 0, slots := 0, locals := 13 } : Room) #[(.ref ro0), (.int vi1)] h (fun v h' L => v = none ∧ Fr Z.heap.size L ∧ Keep h h' [ro2, ro0] ∧ Fld Z h' ro0 cs0 "depth" "I" (.int 3) ∧ Fld Z h' ro0 cs0 "entries" "[I" (.ref ro2) ∧ Exa Z h' ro0 cs0 ∧ Fld Z h' ro0 cs0 "unchanged" "B" (.int 0) ∧ Arv Z h' ro2 ck3 .int (16 : Int32) [(.int vi4), (.int vi5), (.int vi1), (.int 0), (.int 0), (.int 0), (.int 0), (.int 0), (.int 0), (.int 0), (.int 0), (.int 0), (.int 0), (.int 0), (.int 0), (.int 0)] (.int 0)) := by
  have hw := B.1
  refine Con.of (plainFor_of_name pn3) (Ls := #[vR ro0, vI vi1]) (fun _ => rfl) ?_
  intro p e s m below meth c T0 X0 H hml hZ hown hnm hret hlk e0
  have N0 := Fr.nil Z.heap.size
  refine gAloadN X0 H d3_0 rfl rfl 1 rfl ?_
  refine gGetF X0 H hZ hown (hw _ wd18) Via.refl e0 q440 d3_1 4 rfl ?_
  intro T441 X441 e441
  refine gAloadN X441 H d3_4 rfl rfl 5 rfl ?_
  refine gGetF X441 H hZ hown (hw _ wd11) Via.refl e441 q442 d3_5 8 rfl ?_
  intro T443 X443 e443
  refine gLen X443 H hZ e443 q445 d3_8 9 rfl ?_
  refine gCmpY X443 H d3_9 (by decide) (by decide) 16 rfl ?_
  refine gAloadN X443 H d3_16 rfl rfl 17 rfl ?_
  refine gAloadN X443 H d3_17 rfl rfl 18 rfl ?_
  refine gGetF X443 H hZ hown (hw _ wd18) Via.refl e443 q440 d3_18 21 rfl ?_
  intro T446 X446 e446
  refine gPrivate X446 H hZ hown (hw _ wd40) (hw _ wd41) (hw _ wd42) (hw _ wd1) (by decide) q447 (hw _ wd43) (hw _ wd2) (rm450_8 B ro0 _ O q451) e446 hml rfl pd1 rfl (W := 0) (argsL := [(.int 2)]) (rest := []) rfl rfl d3_21 24 rfl ?_
  intro v452 T452 L452 hq452 X452
  obtain ⟨rfl, e452, rfl⟩ := hq452
  have N452 := Fr.app N0 (Fr.nil _)
  show Go _ _ _ _ (State.setTop _ (mkF _ 24 _ []))
  refine gAloadN X452 H d3_24 rfl rfl 25 rfl ?_
  refine gGetF X452 H hZ hown (hw _ wd11) Via.refl e452 q442 d3_25 28 rfl ?_
  intro T453 X453 e453
  refine gAloadN X453 H d3_28 rfl rfl 29 rfl ?_
  refine gGetF X453 H hZ hown (hw _ wd18) Via.refl e453 q440 d3_29 32 rfl ?_
  intro T454 X454 e454
  refine gIloadN X454 H d3_32 rfl 33 rfl ?_
  refine gIastore X454 H hZ e454 q456 ⟨by decide, by decide⟩ (i := 2) rfl (Nat.le_of_ble_eq_true rfl) (vs' := [(.int vi4), (.int vi5), (.int vi1), (.int 0), (.int 0), (.int 0), (.int 0), (.int 0), (.int 0), (.int 0), (.int 0), (.int 0), (.int 0), (.int 0), (.int 0), (.int 0)]) rfl d3_33 34 rfl ?_
  intro T455 h455 X455 e455 W455 V455
  have O455 := extW O W455 q457
  have N455 := Fr.snoc X455 N452 q457
  refine gAloadN X455 H d3_34 rfl rfl 35 rfl ?_
  refine gDup X455 H d3_35 rfl 36 rfl ?_
  have c459 := (q440.other W455 (Or.inl q458))
  refine gGetF X455 H hZ hown (hw _ wd18) Via.refl e455 c459 d3_36 39 rfl ?_
  intro T460 X460 e460
  refine gIconst X460 H d3_39 (z := 1) rfl 40 rfl ?_
  refine g_iadd X460 H d3_40 (z := 3) (by decide) 41 rfl ?_
  have c462 := (q447.wr W455)
  refine gPutF X460 H hZ hown (hw _ wd18) Via.refl e460 c459 c462 (Or.inl (hw _ wd19)) (hw _ wd1) (ty := .int) (by decide) (v' := (.int 3)) rfl rfl d3_41 44 rfl ?_
  intro T461 h461 X461 e461 W461 F461
  have O461 := extW O455 W461 q463
  have N461 := Fr.snoc X461 N455 q463
  have c464 := (V455.other W461 (Ne.symm q458))
  have c465 := ((q442.other W455 (Or.inl q458)).other W461 (Or.inr (sn2 hw)))
  have c466 := (c462.wr W461)
  have c467 := ((q451.other W455 (Or.inl q458)).other W461 (Or.inr (sn3 hw)))
  have K_468 := (Keep.refl h [ro2, ro0]).wr W455 (Or.inl (List.mem_of_getElem? (i := 0) rfl))
  have K_469 := K_468.wr W461 (Or.inl (List.mem_of_getElem? (i := 1) rfl))
  exact gRetV X461 H hlk hret d3_44 e461 ⟨rfl, N461, K_469, F461, c465, c466, c467, c464⟩
theorem rm482_9 (B : Bg Z a0 w_Trail_NO_ROOM k_w_Trail_NO_ROOM) (ro0 ro1 : Addr) (h : Heap) (O : Ext Z.heap h) (q473 : Exa Z h ro0 cs0) (q474 : Fld Z h ro0 cs0 "depth" "I" (.int 3)) (q475 : Z.heap.size ≤ ro0) (q477 : Fld Z h ro0 cs0 "entries" "[I" (.ref ro1)) (q479 : Fld Z h ro0 cs0 "unchanged" "B" (.int 0)) :
    Con l Z yM9 prog_22_method_8_code 2 none ({ frames := 0, cells := 0, slots := 0, locals := 0 } : Room) #[(.ref ro0), (.int 0)] h (fun v h' L => v = none ∧ Fr Z.heap.size L ∧ Keep h h' [ro0] ∧ Exa Z h' ro0 cs0 ∧ Fld Z h' ro0 cs0 "depth" "I" (.int 0) ∧ Fld Z h' ro0 cs0 "entries" "[I" (.ref ro1) ∧ Fld Z h' ro0 cs0 "unchanged" "B" (.int 0)) := by
  have hw := B.1
  refine Con.of (plainFor_of_name pn9) (Ls := #[vR ro0, vI 0]) (fun _ => rfl) ?_
  intro p e s m below meth c T0 X0 H hml hZ hown hnm hret hlk e0
  have N0 := Fr.nil Z.heap.size
  refine gAloadN X0 H d9_0 rfl rfl 1 rfl ?_
  refine gIloadN X0 H d9_1 rfl 2 rfl ?_
  refine gPutF X0 H hZ hown (hw _ wd18) Via.refl e0 q474 q473 (Or.inl (hw _ wd19)) (hw _ wd1) (ty := .int) (by decide) (v' := (.int 0)) rfl rfl d9_2 5 rfl ?_
  intro T472 h472 X472 e472 W472 F472
  have O472 := extW O W472 q475
  have N472 := Fr.snoc X472 N0 q475
  have c476 := (q473.wr W472)
  have c478 := (q477.other W472 (Or.inr (sn2 hw)))
  have c480 := (q479.other W472 (Or.inr (sn3 hw)))
  have K_481 := (Keep.refl h [ro0]).wr W472 (Or.inl (List.mem_of_getElem? (i := 0) rfl))
  exact gRetV X472 H hlk hret d9_5 e472 ⟨rfl, N472, K_481, c476, F472, c478, c480⟩
theorem rm490_12 (B : Bg Z a0 w_Trail_NO_ROOM k_w_Trail_NO_ROOM) (ro0 ro1 : Addr) (ck2 : ClassId) (vi3 vi4 vi5 : Int32) (h : Heap) (O : Ext Z.heap h) (q486 : Fld Z h ro0 cs0 "entries" "[I" (.ref ro1)) (q489 : Arv Z h ro1 ck2 .int (16 : Int32) [(.int vi3), (.int vi4), (.int vi5), (.int 0), (.int 0), (.int 0), (.int 0), (.int 0), (.int 0), (.int 0), (.int 0), (.int 0), (.int 0), (.int 0), (.int 0), (.int 0)] (.int 0)) :
    Con l Z yM12 prog_22_method_3_code 2 (some .int) ({ frames := 0, cells := 0, slots := 0, locals := 0 } : Room) #[(.ref ro0), (.int 0)] h (fun v h' L => v = some (.int vi3) ∧ h' = h ∧ L = []) := by
  have hw := B.1
  refine Con.of (plainFor_of_name pn12) (Ls := #[vR ro0, vI 0]) (fun _ => rfl) ?_
  intro p e s m below meth c T0 X0 H hml hZ hown hnm hret hlk e0
  refine gAloadN X0 H d12_0 rfl rfl 1 rfl ?_
  refine gGetF X0 H hZ hown (hw _ wd11) Via.refl e0 q486 d12_1 4 rfl ?_
  intro T487 X487 e487
  refine gIloadN X487 H d12_4 rfl 5 rfl ?_
  refine gIaload X487 H hZ e487 q489 ⟨by decide, by decide⟩ (v := (.int vi3)) rfl d12_5 6 rfl ?_
  exact gRetI X487 H hlk hret d12_6 e487 ⟨rfl, rfl, rfl⟩
theorem rm497_12 (B : Bg Z a0 w_Trail_NO_ROOM k_w_Trail_NO_ROOM) (ro0 ro1 : Addr) (ck2 : ClassId) (vi3 vi4 vi5 : Int32) (h : Heap) (O : Ext Z.heap h) (q493 : Fld Z h ro0 cs0 "entries" "[I" (.ref ro1)) (q496 : Arv Z h ro1 ck2 .int (16 : Int32) [(.int vi3), (.int vi4), (.int vi5), (.int 0), (.int 0), (.int 0), (.int 0), (.int 0), (.int 0), (.int 0), (.int 0), (.int 0), (.int 0), (.int 0), (.int 0), (.int 0)] (.int 0)) :
    Con l Z yM12 prog_22_method_3_code 2 (some .int) ({ frames := 0, cells := 0, slots := 0, locals := 0 } : Room) #[(.ref ro0), (.int 1)] h (fun v h' L => v = some (.int vi4) ∧ h' = h ∧ L = []) := by
  have hw := B.1
  refine Con.of (plainFor_of_name pn12) (Ls := #[vR ro0, vI 1]) (fun _ => rfl) ?_
  intro p e s m below meth c T0 X0 H hml hZ hown hnm hret hlk e0
  refine gAloadN X0 H d12_0 rfl rfl 1 rfl ?_
  refine gGetF X0 H hZ hown (hw _ wd11) Via.refl e0 q493 d12_1 4 rfl ?_
  intro T494 X494 e494
  refine gIloadN X494 H d12_4 rfl 5 rfl ?_
  refine gIaload X494 H hZ e494 q496 ⟨by decide, by decide⟩ (v := (.int vi4)) rfl d12_5 6 rfl ?_
  exact gRetI X494 H hlk hret d12_6 e494 ⟨rfl, rfl, rfl⟩
theorem rm503_12 (B : Bg Z a0 w_Trail_NO_ROOM k_w_Trail_NO_ROOM) (ro0 ro1 : Addr) (ck2 : ClassId) (vi3 vi4 vi5 : Int32) (h : Heap) (O : Ext Z.heap h) (q499 : Fld Z h ro0 cs0 "entries" "[I" (.ref ro1)) (q502 : Arv Z h ro1 ck2 .int (16 : Int32) [(.int vi3), (.int vi4), (.int vi5), (.int 0), (.int 0), (.int 0), (.int 0), (.int 0), (.int 0), (.int 0), (.int 0), (.int 0), (.int 0), (.int 0), (.int 0), (.int 0)] (.int 0)) :
    Con l Z yM12 prog_22_method_3_code 2 (some .int) ({ frames := 0, cells := 0, slots := 0, locals := 0 } : Room) #[(.ref ro0), (.int 2)] h (fun v h' L => v = some (.int vi5) ∧ h' = h ∧ L = []) := by
  have hw := B.1
  refine Con.of (plainFor_of_name pn12) (Ls := #[vR ro0, vI 2]) (fun _ => rfl) ?_
  intro p e s m below meth c T0 X0 H hml hZ hown hnm hret hlk e0
  refine gAloadN X0 H d12_0 rfl rfl 1 rfl ?_
  refine gGetF X0 H hZ hown (hw _ wd11) Via.refl e0 q499 d12_1 4 rfl ?_
  intro T500 X500 e500
  refine gIloadN X500 H d12_4 rfl 5 rfl ?_
  refine gIaload X500 H hZ e500 q502 ⟨by decide, by decide⟩ (v := (.int vi5)) rfl d12_5 6 rfl ?_
  exact gRetI X500 H hlk hret d12_6 e500 ⟨rfl, rfl, rfl⟩
theorem cut434_79 (B : Bg Z a0 w_Trail_NO_ROOM k_w_Trail_NO_ROOM) (p0 : Int32) (p1 : Int32) (p2 : Int32) (p3 : Int32) (p4 : Int32) (p5 : Int32) (u8 : Int32) (u9 : Int32) {p : Program} {e : Env} {s : State} {m : MethodId} {below : List Frame} {meth : Method} {c : Code} {T0 : State} (X0 : Stand p l e room_1 s m #[(.int p0), (.int p1), (.int p2), (.int p3), (.int p4), (.int p5)] below meth c T0 [] 0 0) (H : p.tables.exec = Jvm.exec ∧ c.code = code) (hml : c.maxLocals = maxLocals) (hZ : Z.Warmed39 s.vm) (hown : s.vm.findClass x.cls = some m.cls) (hnm : meth.name = x.name) (hret : meth.sig.returnType = ret) (hlk : meth.locks = false) (e0 : T0.heap = Z.heap) :
    Go p e below (EndK s below (fun v h' L => v = some (.int 1) ∧ Fr Z.heap.size L) room_1.cells room_1.slots) (T0.setTop (mkF m 79 #[vI p0, vI p1, vI p2, vI p3, vI p4, vI p5, vI 3, vI 0, vI u8, vI u9, .unset, .unset, .unset] [])) := by
  have hw := B.1
  obtain ⟨S_w_Trail_NO_ROOM, V_w_Trail_NO_ROOM⟩ := B.2
  have O0 := extR Z.heap
  have M0 := Nat.le_refl Z.heap.size
  have N0 := Fr.nil Z.heap.size
  refine gNew X0 H hZ hown (hw _ wd0) (hw _ wd1) (hw _ wd2) e0 (by decide) (by decide) at_79 82 rfl ?_
  intro T435 h435 b435 X435 e435 z435 E435 A435 D435
  have G_b435 := Nat.le_trans O0.1 (Nat.le_of_eq z435)
  have sz_b435 := Nat.le_trans M0 (Nat.le_of_eq z435)
  have O435 := extT O0 E435
  have F435_entries : Fld Z h435 b435 cs0 "entries" "[I" .null := D435 (Or.inl (hw _ wd12)) (ty := (.array .int)) (by decide)
  have F435_depth : Fld Z h435 b435 cs0 "depth" "I" (.int 0) := D435 (Or.inl (hw _ wd19)) (ty := .int) (by decide)
  have F435_unchanged : Fld Z h435 b435 cs0 "unchanged" "B" (.int 0) := D435 (Or.inl (hw _ wd45)) (ty := .byte) (by decide)
  refine gDup X435 H at_82 rfl 83 rfl ?_
  refine gSpecial X435 H hZ hown rfl rfl (hw _ wd3) (hw _ wd4) (by decide) (hw _ wd5) (hw _ wd2) (rm17_1 B b435 _ O435 A435 F435_entries G_b435 F435_depth F435_unchanged) e435 hml rfl pd0 rfl (W := 1) (argsL := []) (rest := [(.ref b435)]) rfl rfl at_83 86 rfl ?_
  intro v436 T436 L436 hq436 X436
  obtain ⟨rfl, N436q, K436, f436_0, f436_1, f436_2, f436_3⟩ := hq436
  have O436 := extK O435 K436 (allS G_b435 all0)
  have N436 := Fr.app N0 N436q
  show Go _ _ _ _ (State.setTop _ (mkF _ 86 _ [(.ref b435)]))
  refine gAstore X436 H at_86 rfl (Ls' := #[vI p0, vI p1, vI p2, vI p3, vI p4, vI p5, vI 3, vI 0, vI u8, vI u9, vR b435, .unset, .unset]) rfl 88 rfl ?_
  refine gIload X436 H at_88 rfl 90 rfl ?_
  refine gIfN X436 H at_90 (by decide) 93 rfl ?_
  refine gAload X436 H at_93 rfl rfl 95 rfl ?_
  refine gIloadN X436 H at_95 rfl 96 rfl ?_
  refine gVirt X436 H hZ hown (hw _ wd13) (hw _ wd14) (hw _ wd16) (hw _ wd15) (by decide) f436_0 (hw _ wd17) (hw _ wd2) (rm105_3 B b435 p0 _ O436 f436_2 f436_1 f436_0 G_b435 f436_3) rfl hml rfl pd1 rfl (W := 0) (argsL := [(.int p0)]) (rest := []) rfl rfl at_96 99 rfl ?_
  intro v437 T437 L437 hq437 X437
  obtain ⟨b437_0, k437_0, rfl, N437q, K437, s437_0, f437_0, f437_1, f437_2, f437_3, f437_4⟩ := hq437
  have M438 := (Nat.le_trans (Nat.le_trans M0 E435.1) K436.1)
  have G_b437_0 := Nat.le_trans O436.1 s437_0
  have sz_b437_0 := Nat.le_trans M438 s437_0
  have ne_b435_b437_0 : b435 ≠ b437_0 := neB f436_0.lt s437_0
  have O437 := extK O436 K437 (allS G_b435 all0)
  have N437 := Fr.app N436 N437q
  show Go _ _ _ _ (State.setTop _ (mkF _ 99 _ []))
  refine gIload X437 H at_99 rfl 101 rfl ?_
  refine gIconst X437 H at_101 (z := 1) rfl 102 rfl ?_
  refine gCmpN X437 H at_102 (by decide) 105 rfl ?_
  refine gAload X437 H at_105 rfl rfl 107 rfl ?_
  refine gIloadN X437 H at_107 rfl 108 rfl ?_
  refine gVirt X437 H hZ hown (hw _ wd13) (hw _ wd14) (hw _ wd16) (hw _ wd15) (by decide) f437_2 (hw _ wd17) (hw _ wd2) (rm232_3 B b435 p1 b437_0 k437_0 p0 _ O437 f437_0 f437_1 (Arv.arl f437_4) f437_2 f437_3 f437_4 G_b437_0 ne_b435_b437_0 G_b435) rfl hml rfl pd1 rfl (W := 0) (argsL := [(.int p1)]) (rest := []) rfl rfl at_108 111 rfl ?_
  intro v439 T439 L439 hq439 X439
  obtain ⟨rfl, N439q, K439, f439_0, f439_1, f439_2, f439_3, f439_4⟩ := hq439
  have O439 := extK O437 K439 (allS G_b437_0 (allS G_b435 all0))
  have N439 := Fr.app N437 N439q
  show Go _ _ _ _ (State.setTop _ (mkF _ 111 _ []))
  refine gIload X439 H at_111 rfl 113 rfl ?_
  refine gIconst X439 H at_113 (z := 2) rfl 114 rfl ?_
  refine gCmpN X439 H at_114 (by decide) 117 rfl ?_
  refine gAload X439 H at_117 rfl rfl 119 rfl ?_
  refine gIloadN X439 H at_119 rfl 120 rfl ?_
  refine gVirt X439 H hZ hown (hw _ wd13) (hw _ wd14) (hw _ wd16) (hw _ wd15) (by decide) f439_2 (hw _ wd17) (hw _ wd2) (rm470_3 B b435 p2 b437_0 k437_0 p0 p1 _ O439 f439_0 f439_1 (Arv.arl f439_4) f439_2 f439_3 f439_4 G_b437_0 ne_b435_b437_0 G_b435) rfl hml rfl pd1 rfl (W := 0) (argsL := [(.int p2)]) (rest := []) rfl rfl at_120 123 rfl ?_
  intro v471 T471 L471 hq471 X471
  obtain ⟨rfl, N471q, K471, f471_0, f471_1, f471_2, f471_3, f471_4⟩ := hq471
  have O471 := extK O439 K471 (allS G_b437_0 (allS G_b435 all0))
  have N471 := Fr.app N439 N471q
  show Go _ _ _ _ (State.setTop _ (mkF _ 123 _ []))
  refine gAload X471 H at_123 rfl rfl 125 rfl ?_
  refine gIload X471 H at_125 rfl 127 rfl ?_
  refine gVirt X471 H hZ hown (hw _ wd46) (hw _ wd47) (hw _ wd49) (hw _ wd48) (by decide) f471_2 (hw _ wd50) (hw _ wd2) (rm482_9 B b435 b437_0 _ O471 f471_2 f471_0 G_b435 f471_1 f471_3) rfl hml rfl pd1 rfl (W := 0) (argsL := [(.int 0)]) (rest := []) rfl rfl at_127 130 rfl ?_
  intro v483 T483 L483 hq483 X483
  obtain ⟨rfl, N483q, K483, f483_0, f483_1, f483_2, f483_3⟩ := hq483
  have O483 := extK O471 K483 (allS G_b435 all0)
  have N483 := Fr.app N471 N483q
  show Go _ _ _ _ (State.setTop _ (mkF _ 130 _ []))
  refine gAload X483 H at_130 rfl rfl 132 rfl ?_
  refine gIload X483 H at_132 rfl 134 rfl ?_
  refine gIloadN X483 H at_134 rfl 135 rfl ?_
  refine gVirt X483 H hZ hown (hw _ wd51) (hw _ wd52) (hw _ wd54) (hw _ wd53) (by decide) f483_0 (hw _ wd55) (hw _ wd2) (rm33_10 B b435 u9 p3 _ O483 f483_1) rfl hml rfl pd2 rfl (W := 0) (argsL := [(.int u9), (.int p3)]) (rest := []) rfl rfl at_135 138 rfl ?_
  intro v484 T484 L484 hq484 X484
  obtain ⟨rfl, e484, rfl⟩ := hq484
  have N484 := Fr.app N483 (Fr.nil _)
  show Go _ _ _ _ (State.setTop _ (mkF _ 138 _ []))
  refine gIload X484 H at_138 rfl 140 rfl ?_
  refine gIfY X484 H at_140 (by decide) (by decide) 155 rfl ?_
  refine gIload X484 H at_155 rfl 157 rfl ?_
  refine gIconst X484 H at_157 (z := 1) rfl 158 rfl ?_
  refine gCmpY X484 H at_158 (by decide) (by decide) 173 rfl ?_
  refine gIload X484 H at_173 rfl 175 rfl ?_
  refine gIconst X484 H at_175 (z := 2) rfl 176 rfl ?_
  refine gCmpY X484 H at_176 (by decide) (by decide) 191 rfl ?_
  refine gIconst X484 H at_191 (z := (-1)) rfl 192 rfl ?_
  refine gIstore X484 H at_192 (Ls' := #[vI p0, vI p1, vI p2, vI p3, vI p4, vI p5, vI 3, vI 0, vI u8, vI u9, vR b435, vI (-1), .unset]) rfl 194 rfl ?_
  refine gAload X484 H at_194 rfl rfl 196 rfl ?_
  refine gVirt X484 H hZ hown (hw _ wd56) (hw _ wd57) (hw _ wd59) (hw _ wd58) (by decide) f483_0 (hw _ wd60) (hw _ wd2) (rm37_11 B b435 _ O483 f483_1) e484 hml rfl pd3 rfl (W := 0) (argsL := []) (rest := []) rfl rfl at_196 199 rfl ?_
  intro v485 T485 L485 hq485 X485
  obtain ⟨rfl, e485, rfl⟩ := hq485
  have N485 := Fr.app N484 (Fr.nil _)
  show Go _ _ _ _ (State.setTop _ (mkF _ 199 _ [(.int 0)]))
  refine gIload X485 H at_199 rfl 201 rfl ?_
  refine gCmpN X485 H at_201 (by decide) 204 rfl ?_
  refine gIconst X485 H at_204 (z := 1) rfl 205 rfl ?_
  refine gGoto X485 H at_205 (by decide) 209 rfl ?_
  refine gIstore X485 H at_209 (Ls' := #[vI p0, vI p1, vI p2, vI p3, vI p4, vI p5, vI 3, vI 0, vI u8, vI u9, vR b435, vI (-1), vI 1]) rfl 211 rfl ?_
  refine gIload X485 H at_211 rfl 213 rfl ?_
  refine gIfN X485 H at_213 (by decide) 216 rfl ?_
  refine gIload X485 H at_216 rfl 218 rfl ?_
  refine gIfN X485 H at_218 (by decide) 221 rfl ?_
  refine gAload X485 H at_221 rfl rfl 223 rfl ?_
  refine gIconst X485 H at_223 (z := 0) rfl 224 rfl ?_
  have c491 := (f471_4.keep K483 (ninS (Ne.symm ne_b435_b437_0) nin0))
  refine gVirt X485 H hZ hown (hw _ wd61) (hw _ wd62) (hw _ wd64) (hw _ wd63) (by decide) f483_0 (hw _ wd65) (hw _ wd2) (rm490_12 B b435 b437_0 k437_0 p0 p1 p2 _ O483 f483_2 c491) e485 hml rfl pd6 rfl (W := 0) (argsL := [(.int 0)]) (rest := []) rfl rfl at_224 227 rfl ?_
  intro v492 T492 L492 hq492 X492
  obtain ⟨rfl, e492, rfl⟩ := hq492
  have N492 := Fr.app N485 (Fr.nil _)
  show Go _ _ _ _ (State.setTop _ (mkF _ 227 _ [(.int p0)]))
  refine gIload X492 H at_227 rfl 229 rfl ?_
  refine gIfY X492 H at_229 (by decide) (by decide) 236 rfl ?_
  refine gIloadN X492 H at_236 rfl 237 rfl ?_
  refine gCmpN X492 H at_237 (teq rfl).2 240 rfl ?_
  refine gIconst X492 H at_240 (z := 1) rfl 241 rfl ?_
  refine gGoto X492 H at_241 (by decide) 245 rfl ?_
  refine gIstore X492 H at_245 (Ls' := #[vI p0, vI p1, vI p2, vI p3, vI p4, vI p5, vI 3, vI 0, vI u8, vI u9, vR b435, vI (-1), vI 1]) rfl 247 rfl ?_
  refine gIload X492 H at_247 rfl 249 rfl ?_
  refine gIconst X492 H at_249 (z := 1) rfl 250 rfl ?_
  refine gCmpN X492 H at_250 (by decide) 253 rfl ?_
  refine gIload X492 H at_253 rfl 255 rfl ?_
  refine gIfN X492 H at_255 (by decide) 258 rfl ?_
  refine gAload X492 H at_258 rfl rfl 260 rfl ?_
  refine gIconst X492 H at_260 (z := 1) rfl 261 rfl ?_
  refine gVirt X492 H hZ hown (hw _ wd61) (hw _ wd62) (hw _ wd64) (hw _ wd63) (by decide) f483_0 (hw _ wd65) (hw _ wd2) (rm497_12 B b435 b437_0 k437_0 p0 p1 p2 _ O483 f483_2 c491) e492 hml rfl pd6 rfl (W := 0) (argsL := [(.int 1)]) (rest := []) rfl rfl at_261 264 rfl ?_
  intro v498 T498 L498 hq498 X498
  obtain ⟨rfl, e498, rfl⟩ := hq498
  have N498 := Fr.app N492 (Fr.nil _)
  show Go _ _ _ _ (State.setTop _ (mkF _ 264 _ [(.int p1)]))
  refine gIload X498 H at_264 rfl 266 rfl ?_
  refine gIconst X498 H at_266 (z := 1) rfl 267 rfl ?_
  refine gCmpY X498 H at_267 (by decide) (by decide) 274 rfl ?_
  refine gIloadN X498 H at_274 rfl 275 rfl ?_
  refine gCmpN X498 H at_275 (teq rfl).2 278 rfl ?_
  refine gIconst X498 H at_278 (z := 1) rfl 279 rfl ?_
  refine gGoto X498 H at_279 (by decide) 283 rfl ?_
  refine gIstore X498 H at_283 (Ls' := #[vI p0, vI p1, vI p2, vI p3, vI p4, vI p5, vI 3, vI 0, vI u8, vI u9, vR b435, vI (-1), vI 1]) rfl 285 rfl ?_
  refine gIload X498 H at_285 rfl 287 rfl ?_
  refine gIconst X498 H at_287 (z := 2) rfl 288 rfl ?_
  refine gCmpN X498 H at_288 (by decide) 291 rfl ?_
  refine gIload X498 H at_291 rfl 293 rfl ?_
  refine gIfN X498 H at_293 (by decide) 296 rfl ?_
  refine gAload X498 H at_296 rfl rfl 298 rfl ?_
  refine gIconst X498 H at_298 (z := 2) rfl 299 rfl ?_
  refine gVirt X498 H hZ hown (hw _ wd61) (hw _ wd62) (hw _ wd64) (hw _ wd63) (by decide) f483_0 (hw _ wd65) (hw _ wd2) (rm503_12 B b435 b437_0 k437_0 p0 p1 p2 _ O483 f483_2 c491) e498 hml rfl pd6 rfl (W := 0) (argsL := [(.int 2)]) (rest := []) rfl rfl at_299 302 rfl ?_
  intro v504 T504 L504 hq504 X504
  obtain ⟨rfl, e504, rfl⟩ := hq504
  have N504 := Fr.app N498 (Fr.nil _)
  show Go _ _ _ _ (State.setTop _ (mkF _ 302 _ [(.int p2)]))
  refine gIload X504 H at_302 rfl 304 rfl ?_
  refine gIconst X504 H at_304 (z := 2) rfl 305 rfl ?_
  refine gCmpY X504 H at_305 (by decide) (by decide) 312 rfl ?_
  refine gIloadN X504 H at_312 rfl 313 rfl ?_
  refine gCmpN X504 H at_313 (teq rfl).2 316 rfl ?_
  refine gIconst X504 H at_316 (z := 1) rfl 317 rfl ?_
  refine gGoto X504 H at_317 (by decide) 321 rfl ?_
  refine gIstore X504 H at_321 (Ls' := #[vI p0, vI p1, vI p2, vI p3, vI p4, vI p5, vI 3, vI 0, vI u8, vI u9, vR b435, vI (-1), vI 1]) rfl 323 rfl ?_
  refine gIload X504 H at_323 rfl 325 rfl ?_
  exact gRetN X504 H hlk hret (t := .boolean) (by simp) at_325 e504 ⟨rfl, N504⟩
theorem rm526_9 (B : Bg Z a0 w_Trail_NO_ROOM k_w_Trail_NO_ROOM) (ro0 ro1 : Addr) (h : Heap) (O : Ext Z.heap h) (q517 : Exa Z h ro0 cs0) (q518 : Fld Z h ro0 cs0 "depth" "I" (.int 3)) (q519 : Z.heap.size ≤ ro0) (q521 : Fld Z h ro0 cs0 "entries" "[I" (.ref ro1)) (q523 : Fld Z h ro0 cs0 "unchanged" "B" (.int 0)) :
    Con l Z yM9 prog_22_method_8_code 2 none ({ frames := 0, cells := 0, slots := 0, locals := 0 } : Room) #[(.ref ro0), (.int 1)] h (fun v h' L => v = none ∧ Fr Z.heap.size L ∧ Keep h h' [ro0] ∧ Exa Z h' ro0 cs0 ∧ Fld Z h' ro0 cs0 "depth" "I" (.int 1) ∧ Fld Z h' ro0 cs0 "entries" "[I" (.ref ro1) ∧ Fld Z h' ro0 cs0 "unchanged" "B" (.int 0)) := by
  have hw := B.1
  refine Con.of (plainFor_of_name pn9) (Ls := #[vR ro0, vI 1]) (fun _ => rfl) ?_
  intro p e s m below meth c T0 X0 H hml hZ hown hnm hret hlk e0
  have N0 := Fr.nil Z.heap.size
  refine gAloadN X0 H d9_0 rfl rfl 1 rfl ?_
  refine gIloadN X0 H d9_1 rfl 2 rfl ?_
  refine gPutF X0 H hZ hown (hw _ wd18) Via.refl e0 q518 q517 (Or.inl (hw _ wd19)) (hw _ wd1) (ty := .int) (by decide) (v' := (.int 1)) rfl rfl d9_2 5 rfl ?_
  intro T516 h516 X516 e516 W516 F516
  have O516 := extW O W516 q519
  have N516 := Fr.snoc X516 N0 q519
  have c520 := (q517.wr W516)
  have c522 := (q521.other W516 (Or.inr (sn2 hw)))
  have c524 := (q523.other W516 (Or.inr (sn3 hw)))
  have K_525 := (Keep.refl h [ro0]).wr W516 (Or.inl (List.mem_of_getElem? (i := 0) rfl))
  exact gRetV X516 H hlk hret d9_5 e516 ⟨rfl, N516, K_525, c520, F516, c522, c524⟩
theorem rm546_10 (B : Bg Z a0 w_Trail_NO_ROOM k_w_Trail_NO_ROOM) (ro0 : Addr) (vi1 vi2 : Int32) (ro3 : Addr) (ck4 : ClassId) (vi5 vi6 vi7 : Int32) (h : Heap) (O : Ext Z.heap h) (q535 : Fld Z h ro0 cs0 "depth" "I" (.int 1)) (q537 : Fld Z h ro0 cs0 "entries" "[I" (.ref ro3)) (q540 : Arv Z h ro3 ck4 .int (16 : Int32) [(.int vi5), (.int vi6), (.int vi7), (.int 0), (.int 0), (.int 0), (.int 0), (.int 0), (.int 0), (.int 0), (.int 0), (.int 0), (.int 0), (.int 0), (.int 0), (.int 0)] (.int 0)) (q544 : Z.heap.size ≤ ro3) (hk541 : vi5 = vi1) :
    Con l Z yM10 prog_22_method_10_code 4 none ({ frames := 0, cells := 0, slots := 0, locals := 0 } : Room) #[(.ref ro0), (.int vi1), (.int vi2)] h (fun v h' L => v = none ∧ Fr Z.heap.size L ∧ Keep h h' [ro3] ∧ Arv Z h' ro3 ck4 .int (16 : Int32) [(.int vi2), (.int vi6), (.int vi7), (.int 0), (.int 0), (.int 0), (.int 0), (.int 0), (.int 0), (.int 0), (.int 0), (.int 0), (.int 0), (.int 0), (.int 0), (.int 0)] (.int 0)) := by
  have hw := B.1
  refine Con.of (plainFor_of_name pn10) (Ls := #[vR ro0, vI vi1, vI vi2, .unset]) (fun _ => rfl) ?_
  intro p e s m below meth c T0 X0 H hml hZ hown hnm hret hlk e0
  have N0 := Fr.nil Z.heap.size
  refine gIconst X0 H d10_0 (z := 0) rfl 1 rfl ?_
  refine gIstoreN X0 H d10_1 (Ls' := #[vR ro0, vI vi1, vI vi2, vI 0]) rfl 2 rfl ?_
  refine gIloadN X0 H d10_2 rfl 3 rfl ?_
  refine gAloadN X0 H d10_3 rfl rfl 4 rfl ?_
  refine gGetF X0 H hZ hown (hw _ wd18) Via.refl e0 q535 d10_4 7 rfl ?_
  intro T536 X536 e536
  refine gCmpN X536 H d10_7 (by decide) 10 rfl ?_
  refine gAloadN X536 H d10_10 rfl rfl 11 rfl ?_
  refine gGetF X536 H hZ hown (hw _ wd11) Via.refl e536 q537 d10_11 14 rfl ?_
  intro T538 X538 e538
  refine gIloadN X538 H d10_14 rfl 15 rfl ?_
  refine gIaload X538 H hZ e538 q540 ⟨by decide, by decide⟩ (v := (.int vi5)) rfl d10_15 16 rfl ?_
  refine gIloadN X538 H d10_16 rfl 17 rfl ?_
  refine gCmpN X538 H d10_17 (teq hk541).2 20 rfl ?_
  refine gAloadN X538 H d10_20 rfl rfl 21 rfl ?_
  refine gGetF X538 H hZ hown (hw _ wd11) Via.refl e538 q537 d10_21 24 rfl ?_
  intro T542 X542 e542
  refine gIloadN X542 H d10_24 rfl 25 rfl ?_
  refine gIloadN X542 H d10_25 rfl 26 rfl ?_
  refine gIastore X542 H hZ e542 q540 ⟨by decide, by decide⟩ (i := 0) rfl (Nat.le_of_ble_eq_true rfl) (vs' := [(.int vi2), (.int vi6), (.int vi7), (.int 0), (.int 0), (.int 0), (.int 0), (.int 0), (.int 0), (.int 0), (.int 0), (.int 0), (.int 0), (.int 0), (.int 0), (.int 0)]) rfl d10_26 27 rfl ?_
  intro T543 h543 X543 e543 W543 V543
  have O543 := extW O W543 q544
  have N543 := Fr.snoc X543 N0 q544
  have K_545 := (Keep.refl h [ro3]).wr W543 (Or.inl (List.mem_of_getElem? (i := 0) rfl))
  exact gRetV X543 H hlk hret d10_27 e543 ⟨rfl, N543, K_545, V543⟩
theorem rm564_10 (B : Bg Z a0 w_Trail_NO_ROOM k_w_Trail_NO_ROOM) (ro0 : Addr) (vi1 vi2 : Int32) (ro3 : Addr) (ck4 : ClassId) (vi5 vi6 vi7 : Int32) (h : Heap) (O : Ext Z.heap h) (q556 : Fld Z h ro0 cs0 "depth" "I" (.int 1)) (q558 : Fld Z h ro0 cs0 "entries" "[I" (.ref ro3)) (q561 : Arv Z h ro3 ck4 .int (16 : Int32) [(.int vi5), (.int vi6), (.int vi7), (.int 0), (.int 0), (.int 0), (.int 0), (.int 0), (.int 0), (.int 0), (.int 0), (.int 0), (.int 0), (.int 0), (.int 0), (.int 0)] (.int 0)) (hk562 : ¬ (vi5 = vi1)) :
    Con l Z yM10 prog_22_method_10_code 4 none ({ frames := 0, cells := 0, slots := 0, locals := 0 } : Room) #[(.ref ro0), (.int vi1), (.int vi2)] h (fun v h' L => v = none ∧ h' = h ∧ L = []) := by
  have hw := B.1
  refine Con.of (plainFor_of_name pn10) (Ls := #[vR ro0, vI vi1, vI vi2, .unset]) (fun _ => rfl) ?_
  intro p e s m below meth c T0 X0 H hml hZ hown hnm hret hlk e0
  refine gIconst X0 H d10_0 (z := 0) rfl 1 rfl ?_
  refine gIstoreN X0 H d10_1 (Ls' := #[vR ro0, vI vi1, vI vi2, vI 0]) rfl 2 rfl ?_
  refine gIloadN X0 H d10_2 rfl 3 rfl ?_
  refine gAloadN X0 H d10_3 rfl rfl 4 rfl ?_
  refine gGetF X0 H hZ hown (hw _ wd18) Via.refl e0 q556 d10_4 7 rfl ?_
  intro T557 X557 e557
  refine gCmpN X557 H d10_7 (by decide) 10 rfl ?_
  refine gAloadN X557 H d10_10 rfl rfl 11 rfl ?_
  refine gGetF X557 H hZ hown (hw _ wd11) Via.refl e557 q558 d10_11 14 rfl ?_
  intro T559 X559 e559
  refine gIloadN X559 H d10_14 rfl 15 rfl ?_
  refine gIaload X559 H hZ e559 q561 ⟨by decide, by decide⟩ (v := (.int vi5)) rfl d10_15 16 rfl ?_
  refine gIloadN X559 H d10_16 rfl 17 rfl ?_
  refine gCmpY X559 H d10_17 (feq hk562).2 (by decide) 28 rfl ?_
  refine gIinc X559 H d10_28 rfl (Ls' := #[vR ro0, vI vi1, vI vi2, vI 1]) rfl 31 rfl ?_
  refine gGoto X559 H d10_31 (by decide) 2 rfl ?_
  refine gIloadN X559 H d10_2 rfl 3 rfl ?_
  refine gAloadN X559 H d10_3 rfl rfl 4 rfl ?_
  refine gGetF X559 H hZ hown (hw _ wd18) Via.refl e559 q556 d10_4 7 rfl ?_
  intro T563 X563 e563
  refine gCmpY X563 H d10_7 (by decide) (by decide) 34 rfl ?_
  exact gRetV X563 H hlk hret d10_34 e563 ⟨rfl, rfl, rfl⟩
theorem cut509_79 (B : Bg Z a0 w_Trail_NO_ROOM k_w_Trail_NO_ROOM) (p0 : Int32) (p1 : Int32) (p2 : Int32) (p3 : Int32) (p4 : Int32) (p5 : Int32) (u8 : Int32) (u9 : Int32) {p : Program} {e : Env} {s : State} {m : MethodId} {below : List Frame} {meth : Method} {c : Code} {T0 : State} (X0 : Stand p l e room_1 s m #[(.int p0), (.int p1), (.int p2), (.int p3), (.int p4), (.int p5)] below meth c T0 [] 0 0) (H : p.tables.exec = Jvm.exec ∧ c.code = code) (hml : c.maxLocals = maxLocals) (hZ : Z.Warmed39 s.vm) (hown : s.vm.findClass x.cls = some m.cls) (hnm : meth.name = x.name) (hret : meth.sig.returnType = ret) (hlk : meth.locks = false) (e0 : T0.heap = Z.heap) :
    Go p e below (EndK s below (fun v h' L => v = some (.int 1) ∧ Fr Z.heap.size L) room_1.cells room_1.slots) (T0.setTop (mkF m 79 #[vI p0, vI p1, vI p2, vI p3, vI p4, vI p5, vI 3, vI 1, vI u8, vI u9, .unset, .unset, .unset] [])) := by
  have hw := B.1
  obtain ⟨S_w_Trail_NO_ROOM, V_w_Trail_NO_ROOM⟩ := B.2
  have O0 := extR Z.heap
  have M0 := Nat.le_refl Z.heap.size
  have N0 := Fr.nil Z.heap.size
  refine gNew X0 H hZ hown (hw _ wd0) (hw _ wd1) (hw _ wd2) e0 (by decide) (by decide) at_79 82 rfl ?_
  intro T510 h510 b510 X510 e510 z510 E510 A510 D510
  have G_b510 := Nat.le_trans O0.1 (Nat.le_of_eq z510)
  have sz_b510 := Nat.le_trans M0 (Nat.le_of_eq z510)
  have O510 := extT O0 E510
  have F510_entries : Fld Z h510 b510 cs0 "entries" "[I" .null := D510 (Or.inl (hw _ wd12)) (ty := (.array .int)) (by decide)
  have F510_depth : Fld Z h510 b510 cs0 "depth" "I" (.int 0) := D510 (Or.inl (hw _ wd19)) (ty := .int) (by decide)
  have F510_unchanged : Fld Z h510 b510 cs0 "unchanged" "B" (.int 0) := D510 (Or.inl (hw _ wd45)) (ty := .byte) (by decide)
  refine gDup X510 H at_82 rfl 83 rfl ?_
  refine gSpecial X510 H hZ hown rfl rfl (hw _ wd3) (hw _ wd4) (by decide) (hw _ wd5) (hw _ wd2) (rm17_1 B b510 _ O510 A510 F510_entries G_b510 F510_depth F510_unchanged) e510 hml rfl pd0 rfl (W := 1) (argsL := []) (rest := [(.ref b510)]) rfl rfl at_83 86 rfl ?_
  intro v511 T511 L511 hq511 X511
  obtain ⟨rfl, N511q, K511, f511_0, f511_1, f511_2, f511_3⟩ := hq511
  have O511 := extK O510 K511 (allS G_b510 all0)
  have N511 := Fr.app N0 N511q
  show Go _ _ _ _ (State.setTop _ (mkF _ 86 _ [(.ref b510)]))
  refine gAstore X511 H at_86 rfl (Ls' := #[vI p0, vI p1, vI p2, vI p3, vI p4, vI p5, vI 3, vI 1, vI u8, vI u9, vR b510, .unset, .unset]) rfl 88 rfl ?_
  refine gIload X511 H at_88 rfl 90 rfl ?_
  refine gIfN X511 H at_90 (by decide) 93 rfl ?_
  refine gAload X511 H at_93 rfl rfl 95 rfl ?_
  refine gIloadN X511 H at_95 rfl 96 rfl ?_
  refine gVirt X511 H hZ hown (hw _ wd13) (hw _ wd14) (hw _ wd16) (hw _ wd15) (by decide) f511_0 (hw _ wd17) (hw _ wd2) (rm105_3 B b510 p0 _ O511 f511_2 f511_1 f511_0 G_b510 f511_3) rfl hml rfl pd1 rfl (W := 0) (argsL := [(.int p0)]) (rest := []) rfl rfl at_96 99 rfl ?_
  intro v512 T512 L512 hq512 X512
  obtain ⟨b512_0, k512_0, rfl, N512q, K512, s512_0, f512_0, f512_1, f512_2, f512_3, f512_4⟩ := hq512
  have M513 := (Nat.le_trans (Nat.le_trans M0 E510.1) K511.1)
  have G_b512_0 := Nat.le_trans O511.1 s512_0
  have sz_b512_0 := Nat.le_trans M513 s512_0
  have ne_b510_b512_0 : b510 ≠ b512_0 := neB f511_0.lt s512_0
  have O512 := extK O511 K512 (allS G_b510 all0)
  have N512 := Fr.app N511 N512q
  show Go _ _ _ _ (State.setTop _ (mkF _ 99 _ []))
  refine gIload X512 H at_99 rfl 101 rfl ?_
  refine gIconst X512 H at_101 (z := 1) rfl 102 rfl ?_
  refine gCmpN X512 H at_102 (by decide) 105 rfl ?_
  refine gAload X512 H at_105 rfl rfl 107 rfl ?_
  refine gIloadN X512 H at_107 rfl 108 rfl ?_
  refine gVirt X512 H hZ hown (hw _ wd13) (hw _ wd14) (hw _ wd16) (hw _ wd15) (by decide) f512_2 (hw _ wd17) (hw _ wd2) (rm232_3 B b510 p1 b512_0 k512_0 p0 _ O512 f512_0 f512_1 (Arv.arl f512_4) f512_2 f512_3 f512_4 G_b512_0 ne_b510_b512_0 G_b510) rfl hml rfl pd1 rfl (W := 0) (argsL := [(.int p1)]) (rest := []) rfl rfl at_108 111 rfl ?_
  intro v514 T514 L514 hq514 X514
  obtain ⟨rfl, N514q, K514, f514_0, f514_1, f514_2, f514_3, f514_4⟩ := hq514
  have O514 := extK O512 K514 (allS G_b512_0 (allS G_b510 all0))
  have N514 := Fr.app N512 N514q
  show Go _ _ _ _ (State.setTop _ (mkF _ 111 _ []))
  refine gIload X514 H at_111 rfl 113 rfl ?_
  refine gIconst X514 H at_113 (z := 2) rfl 114 rfl ?_
  refine gCmpN X514 H at_114 (by decide) 117 rfl ?_
  refine gAload X514 H at_117 rfl rfl 119 rfl ?_
  refine gIloadN X514 H at_119 rfl 120 rfl ?_
  refine gVirt X514 H hZ hown (hw _ wd13) (hw _ wd14) (hw _ wd16) (hw _ wd15) (by decide) f514_2 (hw _ wd17) (hw _ wd2) (rm470_3 B b510 p2 b512_0 k512_0 p0 p1 _ O514 f514_0 f514_1 (Arv.arl f514_4) f514_2 f514_3 f514_4 G_b512_0 ne_b510_b512_0 G_b510) rfl hml rfl pd1 rfl (W := 0) (argsL := [(.int p2)]) (rest := []) rfl rfl at_120 123 rfl ?_
  intro v515 T515 L515 hq515 X515
  obtain ⟨rfl, N515q, K515, f515_0, f515_1, f515_2, f515_3, f515_4⟩ := hq515
  have O515 := extK O514 K515 (allS G_b512_0 (allS G_b510 all0))
  have N515 := Fr.app N514 N515q
  show Go _ _ _ _ (State.setTop _ (mkF _ 123 _ []))
  refine gAload X515 H at_123 rfl rfl 125 rfl ?_
  refine gIload X515 H at_125 rfl 127 rfl ?_
  refine gVirt X515 H hZ hown (hw _ wd46) (hw _ wd47) (hw _ wd49) (hw _ wd48) (by decide) f515_2 (hw _ wd50) (hw _ wd2) (rm526_9 B b510 b512_0 _ O515 f515_2 f515_0 G_b510 f515_1 f515_3) rfl hml rfl pd1 rfl (W := 0) (argsL := [(.int 1)]) (rest := []) rfl rfl at_127 130 rfl ?_
  intro v527 T527 L527 hq527 X527
  obtain ⟨rfl, N527q, K527, f527_0, f527_1, f527_2, f527_3⟩ := hq527
  have O527 := extK O515 K527 (allS G_b510 all0)
  have N527 := Fr.app N515 N527q
  show Go _ _ _ _ (State.setTop _ (mkF _ 130 _ []))
  refine gAload X527 H at_130 rfl rfl 132 rfl ?_
  refine gIload X527 H at_132 rfl 134 rfl ?_
  refine gIloadN X527 H at_134 rfl 135 rfl ?_
  by_cases hc534 : p0 = u9
  · have c547 := (f515_4.keep K527 (ninS (Ne.symm ne_b510_b512_0) nin0))
    refine gVirt X527 H hZ hown (hw _ wd51) (hw _ wd52) (hw _ wd54) (hw _ wd53) (by decide) f527_0 (hw _ wd55) (hw _ wd2) (rm546_10 B b510 u9 p3 b512_0 k512_0 p0 p1 p2 _ O527 f527_1 f527_2 c547 G_b512_0 hc534) rfl hml rfl pd2 rfl (W := 0) (argsL := [(.int u9), (.int p3)]) (rest := []) rfl rfl at_135 138 rfl ?_
    intro v548 T548 L548 hq548 X548
    obtain ⟨rfl, N548q, K548, f548_0⟩ := hq548
    have O548 := extK O527 K548 (allS G_b512_0 all0)
    have N548 := Fr.app N527 N548q
    show Go _ _ _ _ (State.setTop _ (mkF _ 138 _ []))
    refine gIload X548 H at_138 rfl 140 rfl ?_
    refine gIfN X548 H at_140 (by decide) 143 rfl ?_
    refine gIloadN X548 H at_143 rfl 144 rfl ?_
    refine gIload X548 H at_144 rfl 146 rfl ?_
    refine gCmpN X548 H at_146 (teq hc534).2 149 rfl ?_
    refine gIconst X548 H at_149 (z := 0) rfl 150 rfl ?_
    refine gIstore X548 H at_150 (Ls' := #[vI p0, vI p1, vI p2, vI p3, vI p4, vI p5, vI 3, vI 1, vI u8, vI u9, vR b510, vI 0, .unset]) rfl 152 rfl ?_
    refine gGoto X548 H at_152 (by decide) 194 rfl ?_
    refine gAload X548 H at_194 rfl rfl 196 rfl ?_
    have c549 := (f527_0.keep K548)
    have c550 := (f527_1.keep K548 (ninS ne_b510_b512_0 nin0))
    refine gVirt X548 H hZ hown (hw _ wd56) (hw _ wd57) (hw _ wd59) (hw _ wd58) (by decide) c549 (hw _ wd60) (hw _ wd2) (rm174_11 B b510 _ O548 c550) rfl hml rfl pd3 rfl (W := 0) (argsL := []) (rest := []) rfl rfl at_196 199 rfl ?_
    intro v551 T551 L551 hq551 X551
    obtain ⟨rfl, e551, rfl⟩ := hq551
    have N551 := Fr.app N548 (Fr.nil _)
    show Go _ _ _ _ (State.setTop _ (mkF _ 199 _ [(.int 1)]))
    refine gIload X551 H at_199 rfl 201 rfl ?_
    refine gCmpN X551 H at_201 (by decide) 204 rfl ?_
    refine gIconst X551 H at_204 (z := 1) rfl 205 rfl ?_
    refine gGoto X551 H at_205 (by decide) 209 rfl ?_
    refine gIstore X551 H at_209 (Ls' := #[vI p0, vI p1, vI p2, vI p3, vI p4, vI p5, vI 3, vI 1, vI u8, vI u9, vR b510, vI 0, vI 1]) rfl 211 rfl ?_
    refine gIload X551 H at_211 rfl 213 rfl ?_
    refine gIfN X551 H at_213 (by decide) 216 rfl ?_
    refine gIload X551 H at_216 rfl 218 rfl ?_
    refine gIfN X551 H at_218 (by decide) 221 rfl ?_
    refine gAload X551 H at_221 rfl rfl 223 rfl ?_
    refine gIconst X551 H at_223 (z := 0) rfl 224 rfl ?_
    have c552 := (f527_2.keep K548 (ninS ne_b510_b512_0 nin0))
    refine gVirt X551 H hZ hown (hw _ wd61) (hw _ wd62) (hw _ wd64) (hw _ wd63) (by decide) c549 (hw _ wd65) (hw _ wd2) (rm490_12 B b510 b512_0 k512_0 p3 p1 p2 _ O548 c552 f548_0) e551 hml rfl pd6 rfl (W := 0) (argsL := [(.int 0)]) (rest := []) rfl rfl at_224 227 rfl ?_
    intro v553 T553 L553 hq553 X553
    obtain ⟨rfl, e553, rfl⟩ := hq553
    have N553 := Fr.app N551 (Fr.nil _)
    show Go _ _ _ _ (State.setTop _ (mkF _ 227 _ [(.int p3)]))
    refine gIload X553 H at_227 rfl 229 rfl ?_
    refine gIfN X553 H at_229 (by decide) 232 rfl ?_
    refine gIloadN X553 H at_232 rfl 233 rfl ?_
    refine gGoto X553 H at_233 (by decide) 237 rfl ?_
    refine gCmpN X553 H at_237 (teq rfl).2 240 rfl ?_
    refine gIconst X553 H at_240 (z := 1) rfl 241 rfl ?_
    refine gGoto X553 H at_241 (by decide) 245 rfl ?_
    refine gIstore X553 H at_245 (Ls' := #[vI p0, vI p1, vI p2, vI p3, vI p4, vI p5, vI 3, vI 1, vI u8, vI u9, vR b510, vI 0, vI 1]) rfl 247 rfl ?_
    refine gIload X553 H at_247 rfl 249 rfl ?_
    refine gIconst X553 H at_249 (z := 1) rfl 250 rfl ?_
    refine gCmpN X553 H at_250 (by decide) 253 rfl ?_
    refine gIload X553 H at_253 rfl 255 rfl ?_
    refine gIfN X553 H at_255 (by decide) 258 rfl ?_
    refine gAload X553 H at_258 rfl rfl 260 rfl ?_
    refine gIconst X553 H at_260 (z := 1) rfl 261 rfl ?_
    refine gVirt X553 H hZ hown (hw _ wd61) (hw _ wd62) (hw _ wd64) (hw _ wd63) (by decide) c549 (hw _ wd65) (hw _ wd2) (rm497_12 B b510 b512_0 k512_0 p3 p1 p2 _ O548 c552 f548_0) e553 hml rfl pd6 rfl (W := 0) (argsL := [(.int 1)]) (rest := []) rfl rfl at_261 264 rfl ?_
    intro v554 T554 L554 hq554 X554
    obtain ⟨rfl, e554, rfl⟩ := hq554
    have N554 := Fr.app N553 (Fr.nil _)
    show Go _ _ _ _ (State.setTop _ (mkF _ 264 _ [(.int p1)]))
    refine gIload X554 H at_264 rfl 266 rfl ?_
    refine gIconst X554 H at_266 (z := 1) rfl 267 rfl ?_
    refine gCmpY X554 H at_267 (by decide) (by decide) 274 rfl ?_
    refine gIloadN X554 H at_274 rfl 275 rfl ?_
    refine gCmpN X554 H at_275 (teq rfl).2 278 rfl ?_
    refine gIconst X554 H at_278 (z := 1) rfl 279 rfl ?_
    refine gGoto X554 H at_279 (by decide) 283 rfl ?_
    refine gIstore X554 H at_283 (Ls' := #[vI p0, vI p1, vI p2, vI p3, vI p4, vI p5, vI 3, vI 1, vI u8, vI u9, vR b510, vI 0, vI 1]) rfl 285 rfl ?_
    refine gIload X554 H at_285 rfl 287 rfl ?_
    refine gIconst X554 H at_287 (z := 2) rfl 288 rfl ?_
    refine gCmpN X554 H at_288 (by decide) 291 rfl ?_
    refine gIload X554 H at_291 rfl 293 rfl ?_
    refine gIfN X554 H at_293 (by decide) 296 rfl ?_
    refine gAload X554 H at_296 rfl rfl 298 rfl ?_
    refine gIconst X554 H at_298 (z := 2) rfl 299 rfl ?_
    refine gVirt X554 H hZ hown (hw _ wd61) (hw _ wd62) (hw _ wd64) (hw _ wd63) (by decide) c549 (hw _ wd65) (hw _ wd2) (rm503_12 B b510 b512_0 k512_0 p3 p1 p2 _ O548 c552 f548_0) e554 hml rfl pd6 rfl (W := 0) (argsL := [(.int 2)]) (rest := []) rfl rfl at_299 302 rfl ?_
    intro v555 T555 L555 hq555 X555
    obtain ⟨rfl, e555, rfl⟩ := hq555
    have N555 := Fr.app N554 (Fr.nil _)
    show Go _ _ _ _ (State.setTop _ (mkF _ 302 _ [(.int p2)]))
    refine gIload X555 H at_302 rfl 304 rfl ?_
    refine gIconst X555 H at_304 (z := 2) rfl 305 rfl ?_
    refine gCmpY X555 H at_305 (by decide) (by decide) 312 rfl ?_
    refine gIloadN X555 H at_312 rfl 313 rfl ?_
    refine gCmpN X555 H at_313 (teq rfl).2 316 rfl ?_
    refine gIconst X555 H at_316 (z := 1) rfl 317 rfl ?_
    refine gGoto X555 H at_317 (by decide) 321 rfl ?_
    refine gIstore X555 H at_321 (Ls' := #[vI p0, vI p1, vI p2, vI p3, vI p4, vI p5, vI 3, vI 1, vI u8, vI u9, vR b510, vI 0, vI 1]) rfl 323 rfl ?_
    refine gIload X555 H at_323 rfl 325 rfl ?_
    exact gRetN X555 H hlk hret (t := .boolean) (by simp) at_325 e555 ⟨rfl, N555⟩
  · have c565 := (f515_4.keep K527 (ninS (Ne.symm ne_b510_b512_0) nin0))
    refine gVirt X527 H hZ hown (hw _ wd51) (hw _ wd52) (hw _ wd54) (hw _ wd53) (by decide) f527_0 (hw _ wd55) (hw _ wd2) (rm564_10 B b510 u9 p3 b512_0 k512_0 p0 p1 p2 _ O527 f527_1 f527_2 c565 hc534) rfl hml rfl pd2 rfl (W := 0) (argsL := [(.int u9), (.int p3)]) (rest := []) rfl rfl at_135 138 rfl ?_
    intro v566 T566 L566 hq566 X566
    obtain ⟨rfl, e566, rfl⟩ := hq566
    have N566 := Fr.app N527 (Fr.nil _)
    show Go _ _ _ _ (State.setTop _ (mkF _ 138 _ []))
    refine gIload X566 H at_138 rfl 140 rfl ?_
    refine gIfN X566 H at_140 (by decide) 143 rfl ?_
    refine gIloadN X566 H at_143 rfl 144 rfl ?_
    refine gIload X566 H at_144 rfl 146 rfl ?_
    refine gCmpY X566 H at_146 (feq hc534).2 (by decide) 155 rfl ?_
    refine gIload X566 H at_155 rfl 157 rfl ?_
    refine gIconst X566 H at_157 (z := 1) rfl 158 rfl ?_
    refine gCmpY X566 H at_158 (by decide) (by decide) 173 rfl ?_
    refine gIload X566 H at_173 rfl 175 rfl ?_
    refine gIconst X566 H at_175 (z := 2) rfl 176 rfl ?_
    refine gCmpY X566 H at_176 (by decide) (by decide) 191 rfl ?_
    refine gIconst X566 H at_191 (z := (-1)) rfl 192 rfl ?_
    refine gIstore X566 H at_192 (Ls' := #[vI p0, vI p1, vI p2, vI p3, vI p4, vI p5, vI 3, vI 1, vI u8, vI u9, vR b510, vI (-1), .unset]) rfl 194 rfl ?_
    refine gAload X566 H at_194 rfl rfl 196 rfl ?_
    refine gVirt X566 H hZ hown (hw _ wd56) (hw _ wd57) (hw _ wd59) (hw _ wd58) (by decide) f527_0 (hw _ wd60) (hw _ wd2) (rm174_11 B b510 _ O527 f527_1) e566 hml rfl pd3 rfl (W := 0) (argsL := []) (rest := []) rfl rfl at_196 199 rfl ?_
    intro v567 T567 L567 hq567 X567
    obtain ⟨rfl, e567, rfl⟩ := hq567
    have N567 := Fr.app N566 (Fr.nil _)
    show Go _ _ _ _ (State.setTop _ (mkF _ 199 _ [(.int 1)]))
    refine gIload X567 H at_199 rfl 201 rfl ?_
    refine gCmpN X567 H at_201 (by decide) 204 rfl ?_
    refine gIconst X567 H at_204 (z := 1) rfl 205 rfl ?_
    refine gGoto X567 H at_205 (by decide) 209 rfl ?_
    refine gIstore X567 H at_209 (Ls' := #[vI p0, vI p1, vI p2, vI p3, vI p4, vI p5, vI 3, vI 1, vI u8, vI u9, vR b510, vI (-1), vI 1]) rfl 211 rfl ?_
    refine gIload X567 H at_211 rfl 213 rfl ?_
    refine gIfN X567 H at_213 (by decide) 216 rfl ?_
    refine gIload X567 H at_216 rfl 218 rfl ?_
    refine gIfN X567 H at_218 (by decide) 221 rfl ?_
    refine gAload X567 H at_221 rfl rfl 223 rfl ?_
    refine gIconst X567 H at_223 (z := 0) rfl 224 rfl ?_
    refine gVirt X567 H hZ hown (hw _ wd61) (hw _ wd62) (hw _ wd64) (hw _ wd63) (by decide) f527_0 (hw _ wd65) (hw _ wd2) (rm490_12 B b510 b512_0 k512_0 p0 p1 p2 _ O527 f527_2 c565) e567 hml rfl pd6 rfl (W := 0) (argsL := [(.int 0)]) (rest := []) rfl rfl at_224 227 rfl ?_
    intro v568 T568 L568 hq568 X568
    obtain ⟨rfl, e568, rfl⟩ := hq568
    have N568 := Fr.app N567 (Fr.nil _)
    show Go _ _ _ _ (State.setTop _ (mkF _ 227 _ [(.int p0)]))
    refine gIload X568 H at_227 rfl 229 rfl ?_
    refine gIfY X568 H at_229 (by decide) (by decide) 236 rfl ?_
    refine gIloadN X568 H at_236 rfl 237 rfl ?_
    refine gCmpN X568 H at_237 (teq rfl).2 240 rfl ?_
    refine gIconst X568 H at_240 (z := 1) rfl 241 rfl ?_
    refine gGoto X568 H at_241 (by decide) 245 rfl ?_
    refine gIstore X568 H at_245 (Ls' := #[vI p0, vI p1, vI p2, vI p3, vI p4, vI p5, vI 3, vI 1, vI u8, vI u9, vR b510, vI (-1), vI 1]) rfl 247 rfl ?_
    refine gIload X568 H at_247 rfl 249 rfl ?_
    refine gIconst X568 H at_249 (z := 1) rfl 250 rfl ?_
    refine gCmpN X568 H at_250 (by decide) 253 rfl ?_
    refine gIload X568 H at_253 rfl 255 rfl ?_
    refine gIfN X568 H at_255 (by decide) 258 rfl ?_
    refine gAload X568 H at_258 rfl rfl 260 rfl ?_
    refine gIconst X568 H at_260 (z := 1) rfl 261 rfl ?_
    refine gVirt X568 H hZ hown (hw _ wd61) (hw _ wd62) (hw _ wd64) (hw _ wd63) (by decide) f527_0 (hw _ wd65) (hw _ wd2) (rm497_12 B b510 b512_0 k512_0 p0 p1 p2 _ O527 f527_2 c565) e568 hml rfl pd6 rfl (W := 0) (argsL := [(.int 1)]) (rest := []) rfl rfl at_261 264 rfl ?_
    intro v569 T569 L569 hq569 X569
    obtain ⟨rfl, e569, rfl⟩ := hq569
    have N569 := Fr.app N568 (Fr.nil _)
    show Go _ _ _ _ (State.setTop _ (mkF _ 264 _ [(.int p1)]))
    refine gIload X569 H at_264 rfl 266 rfl ?_
    refine gIconst X569 H at_266 (z := 1) rfl 267 rfl ?_
    refine gCmpY X569 H at_267 (by decide) (by decide) 274 rfl ?_
    refine gIloadN X569 H at_274 rfl 275 rfl ?_
    refine gCmpN X569 H at_275 (teq rfl).2 278 rfl ?_
    refine gIconst X569 H at_278 (z := 1) rfl 279 rfl ?_
    refine gGoto X569 H at_279 (by decide) 283 rfl ?_
    refine gIstore X569 H at_283 (Ls' := #[vI p0, vI p1, vI p2, vI p3, vI p4, vI p5, vI 3, vI 1, vI u8, vI u9, vR b510, vI (-1), vI 1]) rfl 285 rfl ?_
    refine gIload X569 H at_285 rfl 287 rfl ?_
    refine gIconst X569 H at_287 (z := 2) rfl 288 rfl ?_
    refine gCmpN X569 H at_288 (by decide) 291 rfl ?_
    refine gIload X569 H at_291 rfl 293 rfl ?_
    refine gIfN X569 H at_293 (by decide) 296 rfl ?_
    refine gAload X569 H at_296 rfl rfl 298 rfl ?_
    refine gIconst X569 H at_298 (z := 2) rfl 299 rfl ?_
    refine gVirt X569 H hZ hown (hw _ wd61) (hw _ wd62) (hw _ wd64) (hw _ wd63) (by decide) f527_0 (hw _ wd65) (hw _ wd2) (rm503_12 B b510 b512_0 k512_0 p0 p1 p2 _ O527 f527_2 c565) e569 hml rfl pd6 rfl (W := 0) (argsL := [(.int 2)]) (rest := []) rfl rfl at_299 302 rfl ?_
    intro v570 T570 L570 hq570 X570
    obtain ⟨rfl, e570, rfl⟩ := hq570
    have N570 := Fr.app N569 (Fr.nil _)
    show Go _ _ _ _ (State.setTop _ (mkF _ 302 _ [(.int p2)]))
    refine gIload X570 H at_302 rfl 304 rfl ?_
    refine gIconst X570 H at_304 (z := 2) rfl 305 rfl ?_
    refine gCmpY X570 H at_305 (by decide) (by decide) 312 rfl ?_
    refine gIloadN X570 H at_312 rfl 313 rfl ?_
    refine gCmpN X570 H at_313 (teq rfl).2 316 rfl ?_
    refine gIconst X570 H at_316 (z := 1) rfl 317 rfl ?_
    refine gGoto X570 H at_317 (by decide) 321 rfl ?_
    refine gIstore X570 H at_321 (Ls' := #[vI p0, vI p1, vI p2, vI p3, vI p4, vI p5, vI 3, vI 1, vI u8, vI u9, vR b510, vI (-1), vI 1]) rfl 323 rfl ?_
    refine gIload X570 H at_323 rfl 325 rfl ?_
    exact gRetN X570 H hlk hret (t := .boolean) (by simp) at_325 e570 ⟨rfl, N570⟩
theorem rm592_9 (B : Bg Z a0 w_Trail_NO_ROOM k_w_Trail_NO_ROOM) (ro0 ro1 : Addr) (h : Heap) (O : Ext Z.heap h) (q583 : Exa Z h ro0 cs0) (q584 : Fld Z h ro0 cs0 "depth" "I" (.int 3)) (q585 : Z.heap.size ≤ ro0) (q587 : Fld Z h ro0 cs0 "entries" "[I" (.ref ro1)) (q589 : Fld Z h ro0 cs0 "unchanged" "B" (.int 0)) :
    Con l Z yM9 prog_22_method_8_code 2 none ({ frames := 0, cells := 0, slots := 0, locals := 0 } : Room) #[(.ref ro0), (.int 2)] h (fun v h' L => v = none ∧ Fr Z.heap.size L ∧ Keep h h' [ro0] ∧ Exa Z h' ro0 cs0 ∧ Fld Z h' ro0 cs0 "depth" "I" (.int 2) ∧ Fld Z h' ro0 cs0 "entries" "[I" (.ref ro1) ∧ Fld Z h' ro0 cs0 "unchanged" "B" (.int 0)) := by
  have hw := B.1
  refine Con.of (plainFor_of_name pn9) (Ls := #[vR ro0, vI 2]) (fun _ => rfl) ?_
  intro p e s m below meth c T0 X0 H hml hZ hown hnm hret hlk e0
  have N0 := Fr.nil Z.heap.size
  refine gAloadN X0 H d9_0 rfl rfl 1 rfl ?_
  refine gIloadN X0 H d9_1 rfl 2 rfl ?_
  refine gPutF X0 H hZ hown (hw _ wd18) Via.refl e0 q584 q583 (Or.inl (hw _ wd19)) (hw _ wd1) (ty := .int) (by decide) (v' := (.int 2)) rfl rfl d9_2 5 rfl ?_
  intro T582 h582 X582 e582 W582 F582
  have O582 := extW O W582 q585
  have N582 := Fr.snoc X582 N0 q585
  have c586 := (q583.wr W582)
  have c588 := (q587.other W582 (Or.inr (sn2 hw)))
  have c590 := (q589.other W582 (Or.inr (sn3 hw)))
  have K_591 := (Keep.refl h [ro0]).wr W582 (Or.inl (List.mem_of_getElem? (i := 0) rfl))
  exact gRetV X582 H hlk hret d9_5 e582 ⟨rfl, N582, K_591, c586, F582, c588, c590⟩
theorem rm612_10 (B : Bg Z a0 w_Trail_NO_ROOM k_w_Trail_NO_ROOM) (ro0 : Addr) (vi1 vi2 : Int32) (ro3 : Addr) (ck4 : ClassId) (vi5 vi6 vi7 : Int32) (h : Heap) (O : Ext Z.heap h) (q601 : Fld Z h ro0 cs0 "depth" "I" (.int 2)) (q603 : Fld Z h ro0 cs0 "entries" "[I" (.ref ro3)) (q606 : Arv Z h ro3 ck4 .int (16 : Int32) [(.int vi5), (.int vi6), (.int vi7), (.int 0), (.int 0), (.int 0), (.int 0), (.int 0), (.int 0), (.int 0), (.int 0), (.int 0), (.int 0), (.int 0), (.int 0), (.int 0)] (.int 0)) (q610 : Z.heap.size ≤ ro3) (hk607 : vi5 = vi1) :
    Con l Z yM10 prog_22_method_10_code 4 none ({ frames := 0, cells := 0, slots := 0, locals := 0 } : Room) #[(.ref ro0), (.int vi1), (.int vi2)] h (fun v h' L => v = none ∧ Fr Z.heap.size L ∧ Keep h h' [ro3] ∧ Arv Z h' ro3 ck4 .int (16 : Int32) [(.int vi2), (.int vi6), (.int vi7), (.int 0), (.int 0), (.int 0), (.int 0), (.int 0), (.int 0), (.int 0), (.int 0), (.int 0), (.int 0), (.int 0), (.int 0), (.int 0)] (.int 0)) := by
  have hw := B.1
  refine Con.of (plainFor_of_name pn10) (Ls := #[vR ro0, vI vi1, vI vi2, .unset]) (fun _ => rfl) ?_
  intro p e s m below meth c T0 X0 H hml hZ hown hnm hret hlk e0
  have N0 := Fr.nil Z.heap.size
  refine gIconst X0 H d10_0 (z := 0) rfl 1 rfl ?_
  refine gIstoreN X0 H d10_1 (Ls' := #[vR ro0, vI vi1, vI vi2, vI 0]) rfl 2 rfl ?_
  refine gIloadN X0 H d10_2 rfl 3 rfl ?_
  refine gAloadN X0 H d10_3 rfl rfl 4 rfl ?_
  refine gGetF X0 H hZ hown (hw _ wd18) Via.refl e0 q601 d10_4 7 rfl ?_
  intro T602 X602 e602
  refine gCmpN X602 H d10_7 (by decide) 10 rfl ?_
  refine gAloadN X602 H d10_10 rfl rfl 11 rfl ?_
  refine gGetF X602 H hZ hown (hw _ wd11) Via.refl e602 q603 d10_11 14 rfl ?_
  intro T604 X604 e604
  refine gIloadN X604 H d10_14 rfl 15 rfl ?_
  refine gIaload X604 H hZ e604 q606 ⟨by decide, by decide⟩ (v := (.int vi5)) rfl d10_15 16 rfl ?_
  refine gIloadN X604 H d10_16 rfl 17 rfl ?_
  refine gCmpN X604 H d10_17 (teq hk607).2 20 rfl ?_
  refine gAloadN X604 H d10_20 rfl rfl 21 rfl ?_
  refine gGetF X604 H hZ hown (hw _ wd11) Via.refl e604 q603 d10_21 24 rfl ?_
  intro T608 X608 e608
  refine gIloadN X608 H d10_24 rfl 25 rfl ?_
  refine gIloadN X608 H d10_25 rfl 26 rfl ?_
  refine gIastore X608 H hZ e608 q606 ⟨by decide, by decide⟩ (i := 0) rfl (Nat.le_of_ble_eq_true rfl) (vs' := [(.int vi2), (.int vi6), (.int vi7), (.int 0), (.int 0), (.int 0), (.int 0), (.int 0), (.int 0), (.int 0), (.int 0), (.int 0), (.int 0), (.int 0), (.int 0), (.int 0)]) rfl d10_26 27 rfl ?_
  intro T609 h609 X609 e609 W609 V609
  have O609 := extW O W609 q610
  have N609 := Fr.snoc X609 N0 q610
  have K_611 := (Keep.refl h [ro3]).wr W609 (Or.inl (List.mem_of_getElem? (i := 0) rfl))
  exact gRetV X609 H hlk hret d10_27 e609 ⟨rfl, N609, K_611, V609⟩
theorem rm648_10 (B : Bg Z a0 w_Trail_NO_ROOM k_w_Trail_NO_ROOM) (ro0 : Addr) (vi1 vi2 : Int32) (ro3 : Addr) (ck4 : ClassId) (vi5 vi6 vi7 : Int32) (h : Heap) (O : Ext Z.heap h) (q633 : Fld Z h ro0 cs0 "depth" "I" (.int 2)) (q635 : Fld Z h ro0 cs0 "entries" "[I" (.ref ro3)) (q638 : Arv Z h ro3 ck4 .int (16 : Int32) [(.int vi5), (.int vi6), (.int vi7), (.int 0), (.int 0), (.int 0), (.int 0), (.int 0), (.int 0), (.int 0), (.int 0), (.int 0), (.int 0), (.int 0), (.int 0), (.int 0)] (.int 0)) (q646 : Z.heap.size ≤ ro3) (hk639 : ¬ (vi5 = vi1)) (hk643 : vi6 = vi1) :
    Con l Z yM10 prog_22_method_10_code 4 none ({ frames := 0, cells := 0, slots := 0, locals := 0 } : Room) #[(.ref ro0), (.int vi1), (.int vi2)] h (fun v h' L => v = none ∧ Fr Z.heap.size L ∧ Keep h h' [ro3] ∧ Arv Z h' ro3 ck4 .int (16 : Int32) [(.int vi5), (.int vi2), (.int vi7), (.int 0), (.int 0), (.int 0), (.int 0), (.int 0), (.int 0), (.int 0), (.int 0), (.int 0), (.int 0), (.int 0), (.int 0), (.int 0)] (.int 0)) := by
  have hw := B.1
  refine Con.of (plainFor_of_name pn10) (Ls := #[vR ro0, vI vi1, vI vi2, .unset]) (fun _ => rfl) ?_
  intro p e s m below meth c T0 X0 H hml hZ hown hnm hret hlk e0
  have N0 := Fr.nil Z.heap.size
  refine gIconst X0 H d10_0 (z := 0) rfl 1 rfl ?_
  refine gIstoreN X0 H d10_1 (Ls' := #[vR ro0, vI vi1, vI vi2, vI 0]) rfl 2 rfl ?_
  refine gIloadN X0 H d10_2 rfl 3 rfl ?_
  refine gAloadN X0 H d10_3 rfl rfl 4 rfl ?_
  refine gGetF X0 H hZ hown (hw _ wd18) Via.refl e0 q633 d10_4 7 rfl ?_
  intro T634 X634 e634
  refine gCmpN X634 H d10_7 (by decide) 10 rfl ?_
  refine gAloadN X634 H d10_10 rfl rfl 11 rfl ?_
  refine gGetF X634 H hZ hown (hw _ wd11) Via.refl e634 q635 d10_11 14 rfl ?_
  intro T636 X636 e636
  refine gIloadN X636 H d10_14 rfl 15 rfl ?_
  refine gIaload X636 H hZ e636 q638 ⟨by decide, by decide⟩ (v := (.int vi5)) rfl d10_15 16 rfl ?_
  refine gIloadN X636 H d10_16 rfl 17 rfl ?_
  refine gCmpY X636 H d10_17 (feq hk639).2 (by decide) 28 rfl ?_
  refine gIinc X636 H d10_28 rfl (Ls' := #[vR ro0, vI vi1, vI vi2, vI 1]) rfl 31 rfl ?_
  refine gGoto X636 H d10_31 (by decide) 2 rfl ?_
  refine gIloadN X636 H d10_2 rfl 3 rfl ?_
  refine gAloadN X636 H d10_3 rfl rfl 4 rfl ?_
  refine gGetF X636 H hZ hown (hw _ wd18) Via.refl e636 q633 d10_4 7 rfl ?_
  intro T640 X640 e640
  refine gCmpN X640 H d10_7 (by decide) 10 rfl ?_
  refine gAloadN X640 H d10_10 rfl rfl 11 rfl ?_
  refine gGetF X640 H hZ hown (hw _ wd11) Via.refl e640 q635 d10_11 14 rfl ?_
  intro T641 X641 e641
  refine gIloadN X641 H d10_14 rfl 15 rfl ?_
  refine gIaload X641 H hZ e641 q638 ⟨by decide, by decide⟩ (v := (.int vi6)) rfl d10_15 16 rfl ?_
  refine gIloadN X641 H d10_16 rfl 17 rfl ?_
  refine gCmpN X641 H d10_17 (teq hk643).2 20 rfl ?_
  refine gAloadN X641 H d10_20 rfl rfl 21 rfl ?_
  refine gGetF X641 H hZ hown (hw _ wd11) Via.refl e641 q635 d10_21 24 rfl ?_
  intro T644 X644 e644
  refine gIloadN X644 H d10_24 rfl 25 rfl ?_
  refine gIloadN X644 H d10_25 rfl 26 rfl ?_
  refine gIastore X644 H hZ e644 q638 ⟨by decide, by decide⟩ (i := 1) rfl (Nat.le_of_ble_eq_true rfl) (vs' := [(.int vi5), (.int vi2), (.int vi7), (.int 0), (.int 0), (.int 0), (.int 0), (.int 0), (.int 0), (.int 0), (.int 0), (.int 0), (.int 0), (.int 0), (.int 0), (.int 0)]) rfl d10_26 27 rfl ?_
  intro T645 h645 X645 e645 W645 V645
  have O645 := extW O W645 q646
  have N645 := Fr.snoc X645 N0 q646
  have K_647 := (Keep.refl h [ro3]).wr W645 (Or.inl (List.mem_of_getElem? (i := 0) rfl))
  exact gRetV X645 H hlk hret d10_27 e645 ⟨rfl, N645, K_647, V645⟩
theorem rm670_10 (B : Bg Z a0 w_Trail_NO_ROOM k_w_Trail_NO_ROOM) (ro0 : Addr) (vi1 vi2 : Int32) (ro3 : Addr) (ck4 : ClassId) (vi5 vi6 vi7 : Int32) (h : Heap) (O : Ext Z.heap h) (q658 : Fld Z h ro0 cs0 "depth" "I" (.int 2)) (q660 : Fld Z h ro0 cs0 "entries" "[I" (.ref ro3)) (q663 : Arv Z h ro3 ck4 .int (16 : Int32) [(.int vi5), (.int vi6), (.int vi7), (.int 0), (.int 0), (.int 0), (.int 0), (.int 0), (.int 0), (.int 0), (.int 0), (.int 0), (.int 0), (.int 0), (.int 0), (.int 0)] (.int 0)) (hk664 : ¬ (vi5 = vi1)) (hk668 : ¬ (vi6 = vi1)) :
    Con l Z yM10 prog_22_method_10_code 4 none ({ frames := 0, cells := 0, slots := 0, locals := 0 } : Room) #[(.ref ro0), (.int vi1), (.int vi2)] h (fun v h' L => v = none ∧ h' = h ∧ L = []) := by
  have hw := B.1
  refine Con.of (plainFor_of_name pn10) (Ls := #[vR ro0, vI vi1, vI vi2, .unset]) (fun _ => rfl) ?_
  intro p e s m below meth c T0 X0 H hml hZ hown hnm hret hlk e0
  refine gIconst X0 H d10_0 (z := 0) rfl 1 rfl ?_
  refine gIstoreN X0 H d10_1 (Ls' := #[vR ro0, vI vi1, vI vi2, vI 0]) rfl 2 rfl ?_
  refine gIloadN X0 H d10_2 rfl 3 rfl ?_
  refine gAloadN X0 H d10_3 rfl rfl 4 rfl ?_
  refine gGetF X0 H hZ hown (hw _ wd18) Via.refl e0 q658 d10_4 7 rfl ?_
  intro T659 X659 e659
  refine gCmpN X659 H d10_7 (by decide) 10 rfl ?_
  refine gAloadN X659 H d10_10 rfl rfl 11 rfl ?_
  refine gGetF X659 H hZ hown (hw _ wd11) Via.refl e659 q660 d10_11 14 rfl ?_
  intro T661 X661 e661
  refine gIloadN X661 H d10_14 rfl 15 rfl ?_
  refine gIaload X661 H hZ e661 q663 ⟨by decide, by decide⟩ (v := (.int vi5)) rfl d10_15 16 rfl ?_
  refine gIloadN X661 H d10_16 rfl 17 rfl ?_
  refine gCmpY X661 H d10_17 (feq hk664).2 (by decide) 28 rfl ?_
  refine gIinc X661 H d10_28 rfl (Ls' := #[vR ro0, vI vi1, vI vi2, vI 1]) rfl 31 rfl ?_
  refine gGoto X661 H d10_31 (by decide) 2 rfl ?_
  refine gIloadN X661 H d10_2 rfl 3 rfl ?_
  refine gAloadN X661 H d10_3 rfl rfl 4 rfl ?_
  refine gGetF X661 H hZ hown (hw _ wd18) Via.refl e661 q658 d10_4 7 rfl ?_
  intro T665 X665 e665
  refine gCmpN X665 H d10_7 (by decide) 10 rfl ?_
  refine gAloadN X665 H d10_10 rfl rfl 11 rfl ?_
  refine gGetF X665 H hZ hown (hw _ wd11) Via.refl e665 q660 d10_11 14 rfl ?_
  intro T666 X666 e666
  refine gIloadN X666 H d10_14 rfl 15 rfl ?_
  refine gIaload X666 H hZ e666 q663 ⟨by decide, by decide⟩ (v := (.int vi6)) rfl d10_15 16 rfl ?_
  refine gIloadN X666 H d10_16 rfl 17 rfl ?_
  refine gCmpY X666 H d10_17 (feq hk668).2 (by decide) 28 rfl ?_
  refine gIinc X666 H d10_28 rfl (Ls' := #[vR ro0, vI vi1, vI vi2, vI 2]) rfl 31 rfl ?_
  refine gGoto X666 H d10_31 (by decide) 2 rfl ?_
  refine gIloadN X666 H d10_2 rfl 3 rfl ?_
  refine gAloadN X666 H d10_3 rfl rfl 4 rfl ?_
  refine gGetF X666 H hZ hown (hw _ wd18) Via.refl e666 q658 d10_4 7 rfl ?_
  intro T669 X669 e669
  refine gCmpY X669 H d10_7 (by decide) (by decide) 34 rfl ?_
  exact gRetV X669 H hlk hret d10_34 e669 ⟨rfl, rfl, rfl⟩
theorem cut575_79 (B : Bg Z a0 w_Trail_NO_ROOM k_w_Trail_NO_ROOM) (p0 : Int32) (p1 : Int32) (p2 : Int32) (p3 : Int32) (p4 : Int32) (p5 : Int32) (u8 : Int32) (u9 : Int32) {p : Program} {e : Env} {s : State} {m : MethodId} {below : List Frame} {meth : Method} {c : Code} {T0 : State} (X0 : Stand p l e room_1 s m #[(.int p0), (.int p1), (.int p2), (.int p3), (.int p4), (.int p5)] below meth c T0 [] 0 0) (H : p.tables.exec = Jvm.exec ∧ c.code = code) (hml : c.maxLocals = maxLocals) (hZ : Z.Warmed39 s.vm) (hown : s.vm.findClass x.cls = some m.cls) (hnm : meth.name = x.name) (hret : meth.sig.returnType = ret) (hlk : meth.locks = false) (e0 : T0.heap = Z.heap) :
    Go p e below (EndK s below (fun v h' L => v = some (.int 1) ∧ Fr Z.heap.size L) room_1.cells room_1.slots) (T0.setTop (mkF m 79 #[vI p0, vI p1, vI p2, vI p3, vI p4, vI p5, vI 3, vI 2, vI u8, vI u9, .unset, .unset, .unset] [])) := by
  have hw := B.1
  obtain ⟨S_w_Trail_NO_ROOM, V_w_Trail_NO_ROOM⟩ := B.2
  have O0 := extR Z.heap
  have M0 := Nat.le_refl Z.heap.size
  have N0 := Fr.nil Z.heap.size
  refine gNew X0 H hZ hown (hw _ wd0) (hw _ wd1) (hw _ wd2) e0 (by decide) (by decide) at_79 82 rfl ?_
  intro T576 h576 b576 X576 e576 z576 E576 A576 D576
  have G_b576 := Nat.le_trans O0.1 (Nat.le_of_eq z576)
  have sz_b576 := Nat.le_trans M0 (Nat.le_of_eq z576)
  have O576 := extT O0 E576
  have F576_entries : Fld Z h576 b576 cs0 "entries" "[I" .null := D576 (Or.inl (hw _ wd12)) (ty := (.array .int)) (by decide)
  have F576_depth : Fld Z h576 b576 cs0 "depth" "I" (.int 0) := D576 (Or.inl (hw _ wd19)) (ty := .int) (by decide)
  have F576_unchanged : Fld Z h576 b576 cs0 "unchanged" "B" (.int 0) := D576 (Or.inl (hw _ wd45)) (ty := .byte) (by decide)
  refine gDup X576 H at_82 rfl 83 rfl ?_
  refine gSpecial X576 H hZ hown rfl rfl (hw _ wd3) (hw _ wd4) (by decide) (hw _ wd5) (hw _ wd2) (rm17_1 B b576 _ O576 A576 F576_entries G_b576 F576_depth F576_unchanged) e576 hml rfl pd0 rfl (W := 1) (argsL := []) (rest := [(.ref b576)]) rfl rfl at_83 86 rfl ?_
  intro v577 T577 L577 hq577 X577
  obtain ⟨rfl, N577q, K577, f577_0, f577_1, f577_2, f577_3⟩ := hq577
  have O577 := extK O576 K577 (allS G_b576 all0)
  have N577 := Fr.app N0 N577q
  show Go _ _ _ _ (State.setTop _ (mkF _ 86 _ [(.ref b576)]))
  refine gAstore X577 H at_86 rfl (Ls' := #[vI p0, vI p1, vI p2, vI p3, vI p4, vI p5, vI 3, vI 2, vI u8, vI u9, vR b576, .unset, .unset]) rfl 88 rfl ?_
  refine gIload X577 H at_88 rfl 90 rfl ?_
  refine gIfN X577 H at_90 (by decide) 93 rfl ?_
  refine gAload X577 H at_93 rfl rfl 95 rfl ?_
  refine gIloadN X577 H at_95 rfl 96 rfl ?_
  refine gVirt X577 H hZ hown (hw _ wd13) (hw _ wd14) (hw _ wd16) (hw _ wd15) (by decide) f577_0 (hw _ wd17) (hw _ wd2) (rm105_3 B b576 p0 _ O577 f577_2 f577_1 f577_0 G_b576 f577_3) rfl hml rfl pd1 rfl (W := 0) (argsL := [(.int p0)]) (rest := []) rfl rfl at_96 99 rfl ?_
  intro v578 T578 L578 hq578 X578
  obtain ⟨b578_0, k578_0, rfl, N578q, K578, s578_0, f578_0, f578_1, f578_2, f578_3, f578_4⟩ := hq578
  have M579 := (Nat.le_trans (Nat.le_trans M0 E576.1) K577.1)
  have G_b578_0 := Nat.le_trans O577.1 s578_0
  have sz_b578_0 := Nat.le_trans M579 s578_0
  have ne_b576_b578_0 : b576 ≠ b578_0 := neB f577_0.lt s578_0
  have O578 := extK O577 K578 (allS G_b576 all0)
  have N578 := Fr.app N577 N578q
  show Go _ _ _ _ (State.setTop _ (mkF _ 99 _ []))
  refine gIload X578 H at_99 rfl 101 rfl ?_
  refine gIconst X578 H at_101 (z := 1) rfl 102 rfl ?_
  refine gCmpN X578 H at_102 (by decide) 105 rfl ?_
  refine gAload X578 H at_105 rfl rfl 107 rfl ?_
  refine gIloadN X578 H at_107 rfl 108 rfl ?_
  refine gVirt X578 H hZ hown (hw _ wd13) (hw _ wd14) (hw _ wd16) (hw _ wd15) (by decide) f578_2 (hw _ wd17) (hw _ wd2) (rm232_3 B b576 p1 b578_0 k578_0 p0 _ O578 f578_0 f578_1 (Arv.arl f578_4) f578_2 f578_3 f578_4 G_b578_0 ne_b576_b578_0 G_b576) rfl hml rfl pd1 rfl (W := 0) (argsL := [(.int p1)]) (rest := []) rfl rfl at_108 111 rfl ?_
  intro v580 T580 L580 hq580 X580
  obtain ⟨rfl, N580q, K580, f580_0, f580_1, f580_2, f580_3, f580_4⟩ := hq580
  have O580 := extK O578 K580 (allS G_b578_0 (allS G_b576 all0))
  have N580 := Fr.app N578 N580q
  show Go _ _ _ _ (State.setTop _ (mkF _ 111 _ []))
  refine gIload X580 H at_111 rfl 113 rfl ?_
  refine gIconst X580 H at_113 (z := 2) rfl 114 rfl ?_
  refine gCmpN X580 H at_114 (by decide) 117 rfl ?_
  refine gAload X580 H at_117 rfl rfl 119 rfl ?_
  refine gIloadN X580 H at_119 rfl 120 rfl ?_
  refine gVirt X580 H hZ hown (hw _ wd13) (hw _ wd14) (hw _ wd16) (hw _ wd15) (by decide) f580_2 (hw _ wd17) (hw _ wd2) (rm470_3 B b576 p2 b578_0 k578_0 p0 p1 _ O580 f580_0 f580_1 (Arv.arl f580_4) f580_2 f580_3 f580_4 G_b578_0 ne_b576_b578_0 G_b576) rfl hml rfl pd1 rfl (W := 0) (argsL := [(.int p2)]) (rest := []) rfl rfl at_120 123 rfl ?_
  intro v581 T581 L581 hq581 X581
  obtain ⟨rfl, N581q, K581, f581_0, f581_1, f581_2, f581_3, f581_4⟩ := hq581
  have O581 := extK O580 K581 (allS G_b578_0 (allS G_b576 all0))
  have N581 := Fr.app N580 N581q
  show Go _ _ _ _ (State.setTop _ (mkF _ 123 _ []))
  refine gAload X581 H at_123 rfl rfl 125 rfl ?_
  refine gIload X581 H at_125 rfl 127 rfl ?_
  refine gVirt X581 H hZ hown (hw _ wd46) (hw _ wd47) (hw _ wd49) (hw _ wd48) (by decide) f581_2 (hw _ wd50) (hw _ wd2) (rm592_9 B b576 b578_0 _ O581 f581_2 f581_0 G_b576 f581_1 f581_3) rfl hml rfl pd1 rfl (W := 0) (argsL := [(.int 2)]) (rest := []) rfl rfl at_127 130 rfl ?_
  intro v593 T593 L593 hq593 X593
  obtain ⟨rfl, N593q, K593, f593_0, f593_1, f593_2, f593_3⟩ := hq593
  have O593 := extK O581 K593 (allS G_b576 all0)
  have N593 := Fr.app N581 N593q
  show Go _ _ _ _ (State.setTop _ (mkF _ 130 _ []))
  refine gAload X593 H at_130 rfl rfl 132 rfl ?_
  refine gIload X593 H at_132 rfl 134 rfl ?_
  refine gIloadN X593 H at_134 rfl 135 rfl ?_
  by_cases hc600 : p0 = u9
  · have c613 := (f581_4.keep K593 (ninS (Ne.symm ne_b576_b578_0) nin0))
    refine gVirt X593 H hZ hown (hw _ wd51) (hw _ wd52) (hw _ wd54) (hw _ wd53) (by decide) f593_0 (hw _ wd55) (hw _ wd2) (rm612_10 B b576 u9 p3 b578_0 k578_0 p0 p1 p2 _ O593 f593_1 f593_2 c613 G_b578_0 hc600) rfl hml rfl pd2 rfl (W := 0) (argsL := [(.int u9), (.int p3)]) (rest := []) rfl rfl at_135 138 rfl ?_
    intro v614 T614 L614 hq614 X614
    obtain ⟨rfl, N614q, K614, f614_0⟩ := hq614
    have O614 := extK O593 K614 (allS G_b578_0 all0)
    have N614 := Fr.app N593 N614q
    show Go _ _ _ _ (State.setTop _ (mkF _ 138 _ []))
    refine gIload X614 H at_138 rfl 140 rfl ?_
    refine gIfN X614 H at_140 (by decide) 143 rfl ?_
    refine gIloadN X614 H at_143 rfl 144 rfl ?_
    refine gIload X614 H at_144 rfl 146 rfl ?_
    refine gCmpN X614 H at_146 (teq hc600).2 149 rfl ?_
    refine gIconst X614 H at_149 (z := 0) rfl 150 rfl ?_
    refine gIstore X614 H at_150 (Ls' := #[vI p0, vI p1, vI p2, vI p3, vI p4, vI p5, vI 3, vI 2, vI u8, vI u9, vR b576, vI 0, .unset]) rfl 152 rfl ?_
    refine gGoto X614 H at_152 (by decide) 194 rfl ?_
    refine gAload X614 H at_194 rfl rfl 196 rfl ?_
    have c615 := (f593_0.keep K614)
    have c616 := (f593_1.keep K614 (ninS ne_b576_b578_0 nin0))
    refine gVirt X614 H hZ hown (hw _ wd56) (hw _ wd57) (hw _ wd59) (hw _ wd58) (by decide) c615 (hw _ wd60) (hw _ wd2) (rm370_11 B b576 _ O614 c616) rfl hml rfl pd3 rfl (W := 0) (argsL := []) (rest := []) rfl rfl at_196 199 rfl ?_
    intro v617 T617 L617 hq617 X617
    obtain ⟨rfl, e617, rfl⟩ := hq617
    have N617 := Fr.app N614 (Fr.nil _)
    show Go _ _ _ _ (State.setTop _ (mkF _ 199 _ [(.int 2)]))
    refine gIload X617 H at_199 rfl 201 rfl ?_
    refine gCmpN X617 H at_201 (by decide) 204 rfl ?_
    refine gIconst X617 H at_204 (z := 1) rfl 205 rfl ?_
    refine gGoto X617 H at_205 (by decide) 209 rfl ?_
    refine gIstore X617 H at_209 (Ls' := #[vI p0, vI p1, vI p2, vI p3, vI p4, vI p5, vI 3, vI 2, vI u8, vI u9, vR b576, vI 0, vI 1]) rfl 211 rfl ?_
    refine gIload X617 H at_211 rfl 213 rfl ?_
    refine gIfN X617 H at_213 (by decide) 216 rfl ?_
    refine gIload X617 H at_216 rfl 218 rfl ?_
    refine gIfN X617 H at_218 (by decide) 221 rfl ?_
    refine gAload X617 H at_221 rfl rfl 223 rfl ?_
    refine gIconst X617 H at_223 (z := 0) rfl 224 rfl ?_
    have c618 := (f593_2.keep K614 (ninS ne_b576_b578_0 nin0))
    refine gVirt X617 H hZ hown (hw _ wd61) (hw _ wd62) (hw _ wd64) (hw _ wd63) (by decide) c615 (hw _ wd65) (hw _ wd2) (rm490_12 B b576 b578_0 k578_0 p3 p1 p2 _ O614 c618 f614_0) e617 hml rfl pd6 rfl (W := 0) (argsL := [(.int 0)]) (rest := []) rfl rfl at_224 227 rfl ?_
    intro v619 T619 L619 hq619 X619
    obtain ⟨rfl, e619, rfl⟩ := hq619
    have N619 := Fr.app N617 (Fr.nil _)
    show Go _ _ _ _ (State.setTop _ (mkF _ 227 _ [(.int p3)]))
    refine gIload X619 H at_227 rfl 229 rfl ?_
    refine gIfN X619 H at_229 (by decide) 232 rfl ?_
    refine gIloadN X619 H at_232 rfl 233 rfl ?_
    refine gGoto X619 H at_233 (by decide) 237 rfl ?_
    refine gCmpN X619 H at_237 (teq rfl).2 240 rfl ?_
    refine gIconst X619 H at_240 (z := 1) rfl 241 rfl ?_
    refine gGoto X619 H at_241 (by decide) 245 rfl ?_
    refine gIstore X619 H at_245 (Ls' := #[vI p0, vI p1, vI p2, vI p3, vI p4, vI p5, vI 3, vI 2, vI u8, vI u9, vR b576, vI 0, vI 1]) rfl 247 rfl ?_
    refine gIload X619 H at_247 rfl 249 rfl ?_
    refine gIconst X619 H at_249 (z := 1) rfl 250 rfl ?_
    refine gCmpN X619 H at_250 (by decide) 253 rfl ?_
    refine gIload X619 H at_253 rfl 255 rfl ?_
    refine gIfN X619 H at_255 (by decide) 258 rfl ?_
    refine gAload X619 H at_258 rfl rfl 260 rfl ?_
    refine gIconst X619 H at_260 (z := 1) rfl 261 rfl ?_
    refine gVirt X619 H hZ hown (hw _ wd61) (hw _ wd62) (hw _ wd64) (hw _ wd63) (by decide) c615 (hw _ wd65) (hw _ wd2) (rm497_12 B b576 b578_0 k578_0 p3 p1 p2 _ O614 c618 f614_0) e619 hml rfl pd6 rfl (W := 0) (argsL := [(.int 1)]) (rest := []) rfl rfl at_261 264 rfl ?_
    intro v620 T620 L620 hq620 X620
    obtain ⟨rfl, e620, rfl⟩ := hq620
    have N620 := Fr.app N619 (Fr.nil _)
    show Go _ _ _ _ (State.setTop _ (mkF _ 264 _ [(.int p1)]))
    refine gIload X620 H at_264 rfl 266 rfl ?_
    refine gIconst X620 H at_266 (z := 1) rfl 267 rfl ?_
    refine gCmpY X620 H at_267 (by decide) (by decide) 274 rfl ?_
    refine gIloadN X620 H at_274 rfl 275 rfl ?_
    refine gCmpN X620 H at_275 (teq rfl).2 278 rfl ?_
    refine gIconst X620 H at_278 (z := 1) rfl 279 rfl ?_
    refine gGoto X620 H at_279 (by decide) 283 rfl ?_
    refine gIstore X620 H at_283 (Ls' := #[vI p0, vI p1, vI p2, vI p3, vI p4, vI p5, vI 3, vI 2, vI u8, vI u9, vR b576, vI 0, vI 1]) rfl 285 rfl ?_
    refine gIload X620 H at_285 rfl 287 rfl ?_
    refine gIconst X620 H at_287 (z := 2) rfl 288 rfl ?_
    refine gCmpN X620 H at_288 (by decide) 291 rfl ?_
    refine gIload X620 H at_291 rfl 293 rfl ?_
    refine gIfN X620 H at_293 (by decide) 296 rfl ?_
    refine gAload X620 H at_296 rfl rfl 298 rfl ?_
    refine gIconst X620 H at_298 (z := 2) rfl 299 rfl ?_
    refine gVirt X620 H hZ hown (hw _ wd61) (hw _ wd62) (hw _ wd64) (hw _ wd63) (by decide) c615 (hw _ wd65) (hw _ wd2) (rm503_12 B b576 b578_0 k578_0 p3 p1 p2 _ O614 c618 f614_0) e620 hml rfl pd6 rfl (W := 0) (argsL := [(.int 2)]) (rest := []) rfl rfl at_299 302 rfl ?_
    intro v621 T621 L621 hq621 X621
    obtain ⟨rfl, e621, rfl⟩ := hq621
    have N621 := Fr.app N620 (Fr.nil _)
    show Go _ _ _ _ (State.setTop _ (mkF _ 302 _ [(.int p2)]))
    refine gIload X621 H at_302 rfl 304 rfl ?_
    refine gIconst X621 H at_304 (z := 2) rfl 305 rfl ?_
    refine gCmpY X621 H at_305 (by decide) (by decide) 312 rfl ?_
    refine gIloadN X621 H at_312 rfl 313 rfl ?_
    refine gCmpN X621 H at_313 (teq rfl).2 316 rfl ?_
    refine gIconst X621 H at_316 (z := 1) rfl 317 rfl ?_
    refine gGoto X621 H at_317 (by decide) 321 rfl ?_
    refine gIstore X621 H at_321 (Ls' := #[vI p0, vI p1, vI p2, vI p3, vI p4, vI p5, vI 3, vI 2, vI u8, vI u9, vR b576, vI 0, vI 1]) rfl 323 rfl ?_
    refine gIload X621 H at_323 rfl 325 rfl ?_
    exact gRetN X621 H hlk hret (t := .boolean) (by simp) at_325 e621 ⟨rfl, N621⟩
  · by_cases hc632 : p1 = u9
    · have c649 := (f581_4.keep K593 (ninS (Ne.symm ne_b576_b578_0) nin0))
      refine gVirt X593 H hZ hown (hw _ wd51) (hw _ wd52) (hw _ wd54) (hw _ wd53) (by decide) f593_0 (hw _ wd55) (hw _ wd2) (rm648_10 B b576 u9 p3 b578_0 k578_0 p0 p1 p2 _ O593 f593_1 f593_2 c649 G_b578_0 hc600 hc632) rfl hml rfl pd2 rfl (W := 0) (argsL := [(.int u9), (.int p3)]) (rest := []) rfl rfl at_135 138 rfl ?_
      intro v650 T650 L650 hq650 X650
      obtain ⟨rfl, N650q, K650, f650_0⟩ := hq650
      have O650 := extK O593 K650 (allS G_b578_0 all0)
      have N650 := Fr.app N593 N650q
      show Go _ _ _ _ (State.setTop _ (mkF _ 138 _ []))
      refine gIload X650 H at_138 rfl 140 rfl ?_
      refine gIfN X650 H at_140 (by decide) 143 rfl ?_
      refine gIloadN X650 H at_143 rfl 144 rfl ?_
      refine gIload X650 H at_144 rfl 146 rfl ?_
      refine gCmpY X650 H at_146 (feq hc600).2 (by decide) 155 rfl ?_
      refine gIload X650 H at_155 rfl 157 rfl ?_
      refine gIconst X650 H at_157 (z := 1) rfl 158 rfl ?_
      refine gCmpN X650 H at_158 (by decide) 161 rfl ?_
      refine gIloadN X650 H at_161 rfl 162 rfl ?_
      refine gIload X650 H at_162 rfl 164 rfl ?_
      refine gCmpN X650 H at_164 (teq hc632).2 167 rfl ?_
      refine gIconst X650 H at_167 (z := 1) rfl 168 rfl ?_
      refine gIstore X650 H at_168 (Ls' := #[vI p0, vI p1, vI p2, vI p3, vI p4, vI p5, vI 3, vI 2, vI u8, vI u9, vR b576, vI 1, .unset]) rfl 170 rfl ?_
      refine gGoto X650 H at_170 (by decide) 194 rfl ?_
      refine gAload X650 H at_194 rfl rfl 196 rfl ?_
      have c651 := (f593_0.keep K650)
      have c652 := (f593_1.keep K650 (ninS ne_b576_b578_0 nin0))
      refine gVirt X650 H hZ hown (hw _ wd56) (hw _ wd57) (hw _ wd59) (hw _ wd58) (by decide) c651 (hw _ wd60) (hw _ wd2) (rm370_11 B b576 _ O650 c652) rfl hml rfl pd3 rfl (W := 0) (argsL := []) (rest := []) rfl rfl at_196 199 rfl ?_
      intro v653 T653 L653 hq653 X653
      obtain ⟨rfl, e653, rfl⟩ := hq653
      have N653 := Fr.app N650 (Fr.nil _)
      show Go _ _ _ _ (State.setTop _ (mkF _ 199 _ [(.int 2)]))
      refine gIload X653 H at_199 rfl 201 rfl ?_
      refine gCmpN X653 H at_201 (by decide) 204 rfl ?_
      refine gIconst X653 H at_204 (z := 1) rfl 205 rfl ?_
      refine gGoto X653 H at_205 (by decide) 209 rfl ?_
      refine gIstore X653 H at_209 (Ls' := #[vI p0, vI p1, vI p2, vI p3, vI p4, vI p5, vI 3, vI 2, vI u8, vI u9, vR b576, vI 1, vI 1]) rfl 211 rfl ?_
      refine gIload X653 H at_211 rfl 213 rfl ?_
      refine gIfN X653 H at_213 (by decide) 216 rfl ?_
      refine gIload X653 H at_216 rfl 218 rfl ?_
      refine gIfN X653 H at_218 (by decide) 221 rfl ?_
      refine gAload X653 H at_221 rfl rfl 223 rfl ?_
      refine gIconst X653 H at_223 (z := 0) rfl 224 rfl ?_
      have c654 := (f593_2.keep K650 (ninS ne_b576_b578_0 nin0))
      refine gVirt X653 H hZ hown (hw _ wd61) (hw _ wd62) (hw _ wd64) (hw _ wd63) (by decide) c651 (hw _ wd65) (hw _ wd2) (rm490_12 B b576 b578_0 k578_0 p0 p3 p2 _ O650 c654 f650_0) e653 hml rfl pd6 rfl (W := 0) (argsL := [(.int 0)]) (rest := []) rfl rfl at_224 227 rfl ?_
      intro v655 T655 L655 hq655 X655
      obtain ⟨rfl, e655, rfl⟩ := hq655
      have N655 := Fr.app N653 (Fr.nil _)
      show Go _ _ _ _ (State.setTop _ (mkF _ 227 _ [(.int p0)]))
      refine gIload X655 H at_227 rfl 229 rfl ?_
      refine gIfY X655 H at_229 (by decide) (by decide) 236 rfl ?_
      refine gIloadN X655 H at_236 rfl 237 rfl ?_
      refine gCmpN X655 H at_237 (teq rfl).2 240 rfl ?_
      refine gIconst X655 H at_240 (z := 1) rfl 241 rfl ?_
      refine gGoto X655 H at_241 (by decide) 245 rfl ?_
      refine gIstore X655 H at_245 (Ls' := #[vI p0, vI p1, vI p2, vI p3, vI p4, vI p5, vI 3, vI 2, vI u8, vI u9, vR b576, vI 1, vI 1]) rfl 247 rfl ?_
      refine gIload X655 H at_247 rfl 249 rfl ?_
      refine gIconst X655 H at_249 (z := 1) rfl 250 rfl ?_
      refine gCmpN X655 H at_250 (by decide) 253 rfl ?_
      refine gIload X655 H at_253 rfl 255 rfl ?_
      refine gIfN X655 H at_255 (by decide) 258 rfl ?_
      refine gAload X655 H at_258 rfl rfl 260 rfl ?_
      refine gIconst X655 H at_260 (z := 1) rfl 261 rfl ?_
      refine gVirt X655 H hZ hown (hw _ wd61) (hw _ wd62) (hw _ wd64) (hw _ wd63) (by decide) c651 (hw _ wd65) (hw _ wd2) (rm497_12 B b576 b578_0 k578_0 p0 p3 p2 _ O650 c654 f650_0) e655 hml rfl pd6 rfl (W := 0) (argsL := [(.int 1)]) (rest := []) rfl rfl at_261 264 rfl ?_
      intro v656 T656 L656 hq656 X656
      obtain ⟨rfl, e656, rfl⟩ := hq656
      have N656 := Fr.app N655 (Fr.nil _)
      show Go _ _ _ _ (State.setTop _ (mkF _ 264 _ [(.int p3)]))
      refine gIload X656 H at_264 rfl 266 rfl ?_
      refine gIconst X656 H at_266 (z := 1) rfl 267 rfl ?_
      refine gCmpN X656 H at_267 (by decide) 270 rfl ?_
      refine gIloadN X656 H at_270 rfl 271 rfl ?_
      refine gGoto X656 H at_271 (by decide) 275 rfl ?_
      refine gCmpN X656 H at_275 (teq rfl).2 278 rfl ?_
      refine gIconst X656 H at_278 (z := 1) rfl 279 rfl ?_
      refine gGoto X656 H at_279 (by decide) 283 rfl ?_
      refine gIstore X656 H at_283 (Ls' := #[vI p0, vI p1, vI p2, vI p3, vI p4, vI p5, vI 3, vI 2, vI u8, vI u9, vR b576, vI 1, vI 1]) rfl 285 rfl ?_
      refine gIload X656 H at_285 rfl 287 rfl ?_
      refine gIconst X656 H at_287 (z := 2) rfl 288 rfl ?_
      refine gCmpN X656 H at_288 (by decide) 291 rfl ?_
      refine gIload X656 H at_291 rfl 293 rfl ?_
      refine gIfN X656 H at_293 (by decide) 296 rfl ?_
      refine gAload X656 H at_296 rfl rfl 298 rfl ?_
      refine gIconst X656 H at_298 (z := 2) rfl 299 rfl ?_
      refine gVirt X656 H hZ hown (hw _ wd61) (hw _ wd62) (hw _ wd64) (hw _ wd63) (by decide) c651 (hw _ wd65) (hw _ wd2) (rm503_12 B b576 b578_0 k578_0 p0 p3 p2 _ O650 c654 f650_0) e656 hml rfl pd6 rfl (W := 0) (argsL := [(.int 2)]) (rest := []) rfl rfl at_299 302 rfl ?_
      intro v657 T657 L657 hq657 X657
      obtain ⟨rfl, e657, rfl⟩ := hq657
      have N657 := Fr.app N656 (Fr.nil _)
      show Go _ _ _ _ (State.setTop _ (mkF _ 302 _ [(.int p2)]))
      refine gIload X657 H at_302 rfl 304 rfl ?_
      refine gIconst X657 H at_304 (z := 2) rfl 305 rfl ?_
      refine gCmpY X657 H at_305 (by decide) (by decide) 312 rfl ?_
      refine gIloadN X657 H at_312 rfl 313 rfl ?_
      refine gCmpN X657 H at_313 (teq rfl).2 316 rfl ?_
      refine gIconst X657 H at_316 (z := 1) rfl 317 rfl ?_
      refine gGoto X657 H at_317 (by decide) 321 rfl ?_
      refine gIstore X657 H at_321 (Ls' := #[vI p0, vI p1, vI p2, vI p3, vI p4, vI p5, vI 3, vI 2, vI u8, vI u9, vR b576, vI 1, vI 1]) rfl 323 rfl ?_
      refine gIload X657 H at_323 rfl 325 rfl ?_
      exact gRetN X657 H hlk hret (t := .boolean) (by simp) at_325 e657 ⟨rfl, N657⟩
    · have c671 := (f581_4.keep K593 (ninS (Ne.symm ne_b576_b578_0) nin0))
      refine gVirt X593 H hZ hown (hw _ wd51) (hw _ wd52) (hw _ wd54) (hw _ wd53) (by decide) f593_0 (hw _ wd55) (hw _ wd2) (rm670_10 B b576 u9 p3 b578_0 k578_0 p0 p1 p2 _ O593 f593_1 f593_2 c671 hc600 hc632) rfl hml rfl pd2 rfl (W := 0) (argsL := [(.int u9), (.int p3)]) (rest := []) rfl rfl at_135 138 rfl ?_
      intro v672 T672 L672 hq672 X672
      obtain ⟨rfl, e672, rfl⟩ := hq672
      have N672 := Fr.app N593 (Fr.nil _)
      show Go _ _ _ _ (State.setTop _ (mkF _ 138 _ []))
      refine gIload X672 H at_138 rfl 140 rfl ?_
      refine gIfN X672 H at_140 (by decide) 143 rfl ?_
      refine gIloadN X672 H at_143 rfl 144 rfl ?_
      refine gIload X672 H at_144 rfl 146 rfl ?_
      refine gCmpY X672 H at_146 (feq hc600).2 (by decide) 155 rfl ?_
      refine gIload X672 H at_155 rfl 157 rfl ?_
      refine gIconst X672 H at_157 (z := 1) rfl 158 rfl ?_
      refine gCmpN X672 H at_158 (by decide) 161 rfl ?_
      refine gIloadN X672 H at_161 rfl 162 rfl ?_
      refine gIload X672 H at_162 rfl 164 rfl ?_
      refine gCmpY X672 H at_164 (feq hc632).2 (by decide) 173 rfl ?_
      refine gIload X672 H at_173 rfl 175 rfl ?_
      refine gIconst X672 H at_175 (z := 2) rfl 176 rfl ?_
      refine gCmpY X672 H at_176 (by decide) (by decide) 191 rfl ?_
      refine gIconst X672 H at_191 (z := (-1)) rfl 192 rfl ?_
      refine gIstore X672 H at_192 (Ls' := #[vI p0, vI p1, vI p2, vI p3, vI p4, vI p5, vI 3, vI 2, vI u8, vI u9, vR b576, vI (-1), .unset]) rfl 194 rfl ?_
      refine gAload X672 H at_194 rfl rfl 196 rfl ?_
      refine gVirt X672 H hZ hown (hw _ wd56) (hw _ wd57) (hw _ wd59) (hw _ wd58) (by decide) f593_0 (hw _ wd60) (hw _ wd2) (rm370_11 B b576 _ O593 f593_1) e672 hml rfl pd3 rfl (W := 0) (argsL := []) (rest := []) rfl rfl at_196 199 rfl ?_
      intro v673 T673 L673 hq673 X673
      obtain ⟨rfl, e673, rfl⟩ := hq673
      have N673 := Fr.app N672 (Fr.nil _)
      show Go _ _ _ _ (State.setTop _ (mkF _ 199 _ [(.int 2)]))
      refine gIload X673 H at_199 rfl 201 rfl ?_
      refine gCmpN X673 H at_201 (by decide) 204 rfl ?_
      refine gIconst X673 H at_204 (z := 1) rfl 205 rfl ?_
      refine gGoto X673 H at_205 (by decide) 209 rfl ?_
      refine gIstore X673 H at_209 (Ls' := #[vI p0, vI p1, vI p2, vI p3, vI p4, vI p5, vI 3, vI 2, vI u8, vI u9, vR b576, vI (-1), vI 1]) rfl 211 rfl ?_
      refine gIload X673 H at_211 rfl 213 rfl ?_
      refine gIfN X673 H at_213 (by decide) 216 rfl ?_
      refine gIload X673 H at_216 rfl 218 rfl ?_
      refine gIfN X673 H at_218 (by decide) 221 rfl ?_
      refine gAload X673 H at_221 rfl rfl 223 rfl ?_
      refine gIconst X673 H at_223 (z := 0) rfl 224 rfl ?_
      refine gVirt X673 H hZ hown (hw _ wd61) (hw _ wd62) (hw _ wd64) (hw _ wd63) (by decide) f593_0 (hw _ wd65) (hw _ wd2) (rm490_12 B b576 b578_0 k578_0 p0 p1 p2 _ O593 f593_2 c671) e673 hml rfl pd6 rfl (W := 0) (argsL := [(.int 0)]) (rest := []) rfl rfl at_224 227 rfl ?_
      intro v674 T674 L674 hq674 X674
      obtain ⟨rfl, e674, rfl⟩ := hq674
      have N674 := Fr.app N673 (Fr.nil _)
      show Go _ _ _ _ (State.setTop _ (mkF _ 227 _ [(.int p0)]))
      refine gIload X674 H at_227 rfl 229 rfl ?_
      refine gIfY X674 H at_229 (by decide) (by decide) 236 rfl ?_
      refine gIloadN X674 H at_236 rfl 237 rfl ?_
      refine gCmpN X674 H at_237 (teq rfl).2 240 rfl ?_
      refine gIconst X674 H at_240 (z := 1) rfl 241 rfl ?_
      refine gGoto X674 H at_241 (by decide) 245 rfl ?_
      refine gIstore X674 H at_245 (Ls' := #[vI p0, vI p1, vI p2, vI p3, vI p4, vI p5, vI 3, vI 2, vI u8, vI u9, vR b576, vI (-1), vI 1]) rfl 247 rfl ?_
      refine gIload X674 H at_247 rfl 249 rfl ?_
      refine gIconst X674 H at_249 (z := 1) rfl 250 rfl ?_
      refine gCmpN X674 H at_250 (by decide) 253 rfl ?_
      refine gIload X674 H at_253 rfl 255 rfl ?_
      refine gIfN X674 H at_255 (by decide) 258 rfl ?_
      refine gAload X674 H at_258 rfl rfl 260 rfl ?_
      refine gIconst X674 H at_260 (z := 1) rfl 261 rfl ?_
      refine gVirt X674 H hZ hown (hw _ wd61) (hw _ wd62) (hw _ wd64) (hw _ wd63) (by decide) f593_0 (hw _ wd65) (hw _ wd2) (rm497_12 B b576 b578_0 k578_0 p0 p1 p2 _ O593 f593_2 c671) e674 hml rfl pd6 rfl (W := 0) (argsL := [(.int 1)]) (rest := []) rfl rfl at_261 264 rfl ?_
      intro v675 T675 L675 hq675 X675
      obtain ⟨rfl, e675, rfl⟩ := hq675
      have N675 := Fr.app N674 (Fr.nil _)
      show Go _ _ _ _ (State.setTop _ (mkF _ 264 _ [(.int p1)]))
      refine gIload X675 H at_264 rfl 266 rfl ?_
      refine gIconst X675 H at_266 (z := 1) rfl 267 rfl ?_
      refine gCmpY X675 H at_267 (by decide) (by decide) 274 rfl ?_
      refine gIloadN X675 H at_274 rfl 275 rfl ?_
      refine gCmpN X675 H at_275 (teq rfl).2 278 rfl ?_
      refine gIconst X675 H at_278 (z := 1) rfl 279 rfl ?_
      refine gGoto X675 H at_279 (by decide) 283 rfl ?_
      refine gIstore X675 H at_283 (Ls' := #[vI p0, vI p1, vI p2, vI p3, vI p4, vI p5, vI 3, vI 2, vI u8, vI u9, vR b576, vI (-1), vI 1]) rfl 285 rfl ?_
      refine gIload X675 H at_285 rfl 287 rfl ?_
      refine gIconst X675 H at_287 (z := 2) rfl 288 rfl ?_
      refine gCmpN X675 H at_288 (by decide) 291 rfl ?_
      refine gIload X675 H at_291 rfl 293 rfl ?_
      refine gIfN X675 H at_293 (by decide) 296 rfl ?_
      refine gAload X675 H at_296 rfl rfl 298 rfl ?_
      refine gIconst X675 H at_298 (z := 2) rfl 299 rfl ?_
      refine gVirt X675 H hZ hown (hw _ wd61) (hw _ wd62) (hw _ wd64) (hw _ wd63) (by decide) f593_0 (hw _ wd65) (hw _ wd2) (rm503_12 B b576 b578_0 k578_0 p0 p1 p2 _ O593 f593_2 c671) e675 hml rfl pd6 rfl (W := 0) (argsL := [(.int 2)]) (rest := []) rfl rfl at_299 302 rfl ?_
      intro v676 T676 L676 hq676 X676
      obtain ⟨rfl, e676, rfl⟩ := hq676
      have N676 := Fr.app N675 (Fr.nil _)
      show Go _ _ _ _ (State.setTop _ (mkF _ 302 _ [(.int p2)]))
      refine gIload X676 H at_302 rfl 304 rfl ?_
      refine gIconst X676 H at_304 (z := 2) rfl 305 rfl ?_
      refine gCmpY X676 H at_305 (by decide) (by decide) 312 rfl ?_
      refine gIloadN X676 H at_312 rfl 313 rfl ?_
      refine gCmpN X676 H at_313 (teq rfl).2 316 rfl ?_
      refine gIconst X676 H at_316 (z := 1) rfl 317 rfl ?_
      refine gGoto X676 H at_317 (by decide) 321 rfl ?_
      refine gIstore X676 H at_321 (Ls' := #[vI p0, vI p1, vI p2, vI p3, vI p4, vI p5, vI 3, vI 2, vI u8, vI u9, vR b576, vI (-1), vI 1]) rfl 323 rfl ?_
      refine gIload X676 H at_323 rfl 325 rfl ?_
      exact gRetN X676 H hlk hret (t := .boolean) (by simp) at_325 e676 ⟨rfl, N676⟩
theorem rm698_9 (B : Bg Z a0 w_Trail_NO_ROOM k_w_Trail_NO_ROOM) (ro0 ro1 : Addr) (h : Heap) (O : Ext Z.heap h) (q689 : Exa Z h ro0 cs0) (q690 : Fld Z h ro0 cs0 "depth" "I" (.int 3)) (q691 : Z.heap.size ≤ ro0) (q693 : Fld Z h ro0 cs0 "entries" "[I" (.ref ro1)) (q695 : Fld Z h ro0 cs0 "unchanged" "B" (.int 0)) :
    Con l Z yM9 prog_22_method_8_code 2 none ({ frames := 0, cells := 0, slots := 0, locals := 0 } : Room) #[(.ref ro0), (.int 3)] h (fun v h' L => v = none ∧ Fr Z.heap.size L ∧ Keep h h' [ro0] ∧ Exa Z h' ro0 cs0 ∧ Fld Z h' ro0 cs0 "depth" "I" (.int 3) ∧ Fld Z h' ro0 cs0 "entries" "[I" (.ref ro1) ∧ Fld Z h' ro0 cs0 "unchanged" "B" (.int 0)) := by
  have hw := B.1
  refine Con.of (plainFor_of_name pn9) (Ls := #[vR ro0, vI 3]) (fun _ => rfl) ?_
  intro p e s m below meth c T0 X0 H hml hZ hown hnm hret hlk e0
  have N0 := Fr.nil Z.heap.size
  refine gAloadN X0 H d9_0 rfl rfl 1 rfl ?_
  refine gIloadN X0 H d9_1 rfl 2 rfl ?_
  refine gPutF X0 H hZ hown (hw _ wd18) Via.refl e0 q690 q689 (Or.inl (hw _ wd19)) (hw _ wd1) (ty := .int) (by decide) (v' := (.int 3)) rfl rfl d9_2 5 rfl ?_
  intro T688 h688 X688 e688 W688 F688
  have O688 := extW O W688 q691
  have N688 := Fr.snoc X688 N0 q691
  have c692 := (q689.wr W688)
  have c694 := (q693.other W688 (Or.inr (sn2 hw)))
  have c696 := (q695.other W688 (Or.inr (sn3 hw)))
  have K_697 := (Keep.refl h [ro0]).wr W688 (Or.inl (List.mem_of_getElem? (i := 0) rfl))
  exact gRetV X688 H hlk hret d9_5 e688 ⟨rfl, N688, K_697, c692, F688, c694, c696⟩
theorem rm718_10 (B : Bg Z a0 w_Trail_NO_ROOM k_w_Trail_NO_ROOM) (ro0 : Addr) (vi1 vi2 : Int32) (ro3 : Addr) (ck4 : ClassId) (vi5 vi6 vi7 : Int32) (h : Heap) (O : Ext Z.heap h) (q707 : Fld Z h ro0 cs0 "depth" "I" (.int 3)) (q709 : Fld Z h ro0 cs0 "entries" "[I" (.ref ro3)) (q712 : Arv Z h ro3 ck4 .int (16 : Int32) [(.int vi5), (.int vi6), (.int vi7), (.int 0), (.int 0), (.int 0), (.int 0), (.int 0), (.int 0), (.int 0), (.int 0), (.int 0), (.int 0), (.int 0), (.int 0), (.int 0)] (.int 0)) (q716 : Z.heap.size ≤ ro3) (hk713 : vi5 = vi1) :
    Con l Z yM10 prog_22_method_10_code 4 none ({ frames := 0, cells := 0, slots := 0, locals := 0 } : Room) #[(.ref ro0), (.int vi1), (.int vi2)] h (fun v h' L => v = none ∧ Fr Z.heap.size L ∧ Keep h h' [ro3] ∧ Arv Z h' ro3 ck4 .int (16 : Int32) [(.int vi2), (.int vi6), (.int vi7), (.int 0), (.int 0), (.int 0), (.int 0), (.int 0), (.int 0), (.int 0), (.int 0), (.int 0), (.int 0), (.int 0), (.int 0), (.int 0)] (.int 0)) := by
  have hw := B.1
  refine Con.of (plainFor_of_name pn10) (Ls := #[vR ro0, vI vi1, vI vi2, .unset]) (fun _ => rfl) ?_
  intro p e s m below meth c T0 X0 H hml hZ hown hnm hret hlk e0
  have N0 := Fr.nil Z.heap.size
  refine gIconst X0 H d10_0 (z := 0) rfl 1 rfl ?_
  refine gIstoreN X0 H d10_1 (Ls' := #[vR ro0, vI vi1, vI vi2, vI 0]) rfl 2 rfl ?_
  refine gIloadN X0 H d10_2 rfl 3 rfl ?_
  refine gAloadN X0 H d10_3 rfl rfl 4 rfl ?_
  refine gGetF X0 H hZ hown (hw _ wd18) Via.refl e0 q707 d10_4 7 rfl ?_
  intro T708 X708 e708
  refine gCmpN X708 H d10_7 (by decide) 10 rfl ?_
  refine gAloadN X708 H d10_10 rfl rfl 11 rfl ?_
  refine gGetF X708 H hZ hown (hw _ wd11) Via.refl e708 q709 d10_11 14 rfl ?_
  intro T710 X710 e710
  refine gIloadN X710 H d10_14 rfl 15 rfl ?_
  refine gIaload X710 H hZ e710 q712 ⟨by decide, by decide⟩ (v := (.int vi5)) rfl d10_15 16 rfl ?_
  refine gIloadN X710 H d10_16 rfl 17 rfl ?_
  refine gCmpN X710 H d10_17 (teq hk713).2 20 rfl ?_
  refine gAloadN X710 H d10_20 rfl rfl 21 rfl ?_
  refine gGetF X710 H hZ hown (hw _ wd11) Via.refl e710 q709 d10_21 24 rfl ?_
  intro T714 X714 e714
  refine gIloadN X714 H d10_24 rfl 25 rfl ?_
  refine gIloadN X714 H d10_25 rfl 26 rfl ?_
  refine gIastore X714 H hZ e714 q712 ⟨by decide, by decide⟩ (i := 0) rfl (Nat.le_of_ble_eq_true rfl) (vs' := [(.int vi2), (.int vi6), (.int vi7), (.int 0), (.int 0), (.int 0), (.int 0), (.int 0), (.int 0), (.int 0), (.int 0), (.int 0), (.int 0), (.int 0), (.int 0), (.int 0)]) rfl d10_26 27 rfl ?_
  intro T715 h715 X715 e715 W715 V715
  have O715 := extW O W715 q716
  have N715 := Fr.snoc X715 N0 q716
  have K_717 := (Keep.refl h [ro3]).wr W715 (Or.inl (List.mem_of_getElem? (i := 0) rfl))
  exact gRetV X715 H hlk hret d10_27 e715 ⟨rfl, N715, K_717, V715⟩
theorem rm724_11 (B : Bg Z a0 w_Trail_NO_ROOM k_w_Trail_NO_ROOM) (ro0 : Addr) (h : Heap) (O : Ext Z.heap h) (q722 : Fld Z h ro0 cs0 "depth" "I" (.int 3)) :
    Con l Z yM11 prog_22_method_2_code 1 (some .int) ({ frames := 0, cells := 0, slots := 0, locals := 0 } : Room) #[(.ref ro0)] h (fun v h' L => v = some (.int 3) ∧ h' = h ∧ L = []) := by
  have hw := B.1
  refine Con.of (plainFor_of_name pn11) (Ls := #[vR ro0]) (fun _ => rfl) ?_
  intro p e s m below meth c T0 X0 H hml hZ hown hnm hret hlk e0
  refine gAloadN X0 H d11_0 rfl rfl 1 rfl ?_
  refine gGetF X0 H hZ hown (hw _ wd18) Via.refl e0 q722 d11_1 4 rfl ?_
  intro T723 X723 e723
  exact gRetI X723 H hlk hret d11_4 e723 ⟨rfl, rfl, rfl⟩
theorem rm757_10 (B : Bg Z a0 w_Trail_NO_ROOM k_w_Trail_NO_ROOM) (ro0 : Addr) (vi1 vi2 : Int32) (ro3 : Addr) (ck4 : ClassId) (vi5 vi6 vi7 : Int32) (h : Heap) (O : Ext Z.heap h) (q742 : Fld Z h ro0 cs0 "depth" "I" (.int 3)) (q744 : Fld Z h ro0 cs0 "entries" "[I" (.ref ro3)) (q747 : Arv Z h ro3 ck4 .int (16 : Int32) [(.int vi5), (.int vi6), (.int vi7), (.int 0), (.int 0), (.int 0), (.int 0), (.int 0), (.int 0), (.int 0), (.int 0), (.int 0), (.int 0), (.int 0), (.int 0), (.int 0)] (.int 0)) (q755 : Z.heap.size ≤ ro3) (hk748 : ¬ (vi5 = vi1)) (hk752 : vi6 = vi1) :
    Con l Z yM10 prog_22_method_10_code 4 none ({ frames := 0, cells := 0, slots := 0, locals := 0 } : Room) #[(.ref ro0), (.int vi1), (.int vi2)] h (fun v h' L => v = none ∧ Fr Z.heap.size L ∧ Keep h h' [ro3] ∧ Arv Z h' ro3 ck4 .int (16 : Int32) [(.int vi5), (.int vi2), (.int vi7), (.int 0), (.int 0), (.int 0), (.int 0), (.int 0), (.int 0), (.int 0), (.int 0), (.int 0), (.int 0), (.int 0), (.int 0), (.int 0)] (.int 0)) := by
  have hw := B.1
  refine Con.of (plainFor_of_name pn10) (Ls := #[vR ro0, vI vi1, vI vi2, .unset]) (fun _ => rfl) ?_
  intro p e s m below meth c T0 X0 H hml hZ hown hnm hret hlk e0
  have N0 := Fr.nil Z.heap.size
  refine gIconst X0 H d10_0 (z := 0) rfl 1 rfl ?_
  refine gIstoreN X0 H d10_1 (Ls' := #[vR ro0, vI vi1, vI vi2, vI 0]) rfl 2 rfl ?_
  refine gIloadN X0 H d10_2 rfl 3 rfl ?_
  refine gAloadN X0 H d10_3 rfl rfl 4 rfl ?_
  refine gGetF X0 H hZ hown (hw _ wd18) Via.refl e0 q742 d10_4 7 rfl ?_
  intro T743 X743 e743
  refine gCmpN X743 H d10_7 (by decide) 10 rfl ?_
  refine gAloadN X743 H d10_10 rfl rfl 11 rfl ?_
  refine gGetF X743 H hZ hown (hw _ wd11) Via.refl e743 q744 d10_11 14 rfl ?_
  intro T745 X745 e745
  refine gIloadN X745 H d10_14 rfl 15 rfl ?_
  refine gIaload X745 H hZ e745 q747 ⟨by decide, by decide⟩ (v := (.int vi5)) rfl d10_15 16 rfl ?_
  refine gIloadN X745 H d10_16 rfl 17 rfl ?_
  refine gCmpY X745 H d10_17 (feq hk748).2 (by decide) 28 rfl ?_
  refine gIinc X745 H d10_28 rfl (Ls' := #[vR ro0, vI vi1, vI vi2, vI 1]) rfl 31 rfl ?_
  refine gGoto X745 H d10_31 (by decide) 2 rfl ?_
  refine gIloadN X745 H d10_2 rfl 3 rfl ?_
  refine gAloadN X745 H d10_3 rfl rfl 4 rfl ?_
  refine gGetF X745 H hZ hown (hw _ wd18) Via.refl e745 q742 d10_4 7 rfl ?_
  intro T749 X749 e749
  refine gCmpN X749 H d10_7 (by decide) 10 rfl ?_
  refine gAloadN X749 H d10_10 rfl rfl 11 rfl ?_
  refine gGetF X749 H hZ hown (hw _ wd11) Via.refl e749 q744 d10_11 14 rfl ?_
  intro T750 X750 e750
  refine gIloadN X750 H d10_14 rfl 15 rfl ?_
  refine gIaload X750 H hZ e750 q747 ⟨by decide, by decide⟩ (v := (.int vi6)) rfl d10_15 16 rfl ?_
  refine gIloadN X750 H d10_16 rfl 17 rfl ?_
  refine gCmpN X750 H d10_17 (teq hk752).2 20 rfl ?_
  refine gAloadN X750 H d10_20 rfl rfl 21 rfl ?_
  refine gGetF X750 H hZ hown (hw _ wd11) Via.refl e750 q744 d10_21 24 rfl ?_
  intro T753 X753 e753
  refine gIloadN X753 H d10_24 rfl 25 rfl ?_
  refine gIloadN X753 H d10_25 rfl 26 rfl ?_
  refine gIastore X753 H hZ e753 q747 ⟨by decide, by decide⟩ (i := 1) rfl (Nat.le_of_ble_eq_true rfl) (vs' := [(.int vi5), (.int vi2), (.int vi7), (.int 0), (.int 0), (.int 0), (.int 0), (.int 0), (.int 0), (.int 0), (.int 0), (.int 0), (.int 0), (.int 0), (.int 0), (.int 0)]) rfl d10_26 27 rfl ?_
  intro T754 h754 X754 e754 W754 V754
  have O754 := extW O W754 q755
  have N754 := Fr.snoc X754 N0 q755
  have K_756 := (Keep.refl h [ro3]).wr W754 (Or.inl (List.mem_of_getElem? (i := 0) rfl))
  exact gRetV X754 H hlk hret d10_27 e754 ⟨rfl, N754, K_756, V754⟩
theorem rm801_10 (B : Bg Z a0 w_Trail_NO_ROOM k_w_Trail_NO_ROOM) (ro0 : Addr) (vi1 vi2 : Int32) (ro3 : Addr) (ck4 : ClassId) (vi5 vi6 vi7 : Int32) (h : Heap) (O : Ext Z.heap h) (q782 : Fld Z h ro0 cs0 "depth" "I" (.int 3)) (q784 : Fld Z h ro0 cs0 "entries" "[I" (.ref ro3)) (q787 : Arv Z h ro3 ck4 .int (16 : Int32) [(.int vi5), (.int vi6), (.int vi7), (.int 0), (.int 0), (.int 0), (.int 0), (.int 0), (.int 0), (.int 0), (.int 0), (.int 0), (.int 0), (.int 0), (.int 0), (.int 0)] (.int 0)) (q799 : Z.heap.size ≤ ro3) (hk788 : ¬ (vi5 = vi1)) (hk792 : ¬ (vi6 = vi1)) (hk796 : vi7 = vi1) :
    Con l Z yM10 prog_22_method_10_code 4 none ({ frames := 0, cells := 0, slots := 0, locals := 0 } : Room) #[(.ref ro0), (.int vi1), (.int vi2)] h (fun v h' L => v = none ∧ Fr Z.heap.size L ∧ Keep h h' [ro3] ∧ Arv Z h' ro3 ck4 .int (16 : Int32) [(.int vi5), (.int vi6), (.int vi2), (.int 0), (.int 0), (.int 0), (.int 0), (.int 0), (.int 0), (.int 0), (.int 0), (.int 0), (.int 0), (.int 0), (.int 0), (.int 0)] (.int 0)) := by
  have hw := B.1
  refine Con.of (plainFor_of_name pn10) (Ls := #[vR ro0, vI vi1, vI vi2, .unset]) (fun _ => rfl) ?_
  intro p e s m below meth c T0 X0 H hml hZ hown hnm hret hlk e0
  have N0 := Fr.nil Z.heap.size
  refine gIconst X0 H d10_0 (z := 0) rfl 1 rfl ?_
  refine gIstoreN X0 H d10_1 (Ls' := #[vR ro0, vI vi1, vI vi2, vI 0]) rfl 2 rfl ?_
  refine gIloadN X0 H d10_2 rfl 3 rfl ?_
  refine gAloadN X0 H d10_3 rfl rfl 4 rfl ?_
  refine gGetF X0 H hZ hown (hw _ wd18) Via.refl e0 q782 d10_4 7 rfl ?_
  intro T783 X783 e783
  refine gCmpN X783 H d10_7 (by decide) 10 rfl ?_
  refine gAloadN X783 H d10_10 rfl rfl 11 rfl ?_
  refine gGetF X783 H hZ hown (hw _ wd11) Via.refl e783 q784 d10_11 14 rfl ?_
  intro T785 X785 e785
  refine gIloadN X785 H d10_14 rfl 15 rfl ?_
  refine gIaload X785 H hZ e785 q787 ⟨by decide, by decide⟩ (v := (.int vi5)) rfl d10_15 16 rfl ?_
  refine gIloadN X785 H d10_16 rfl 17 rfl ?_
  refine gCmpY X785 H d10_17 (feq hk788).2 (by decide) 28 rfl ?_
  refine gIinc X785 H d10_28 rfl (Ls' := #[vR ro0, vI vi1, vI vi2, vI 1]) rfl 31 rfl ?_
  refine gGoto X785 H d10_31 (by decide) 2 rfl ?_
  refine gIloadN X785 H d10_2 rfl 3 rfl ?_
  refine gAloadN X785 H d10_3 rfl rfl 4 rfl ?_
  refine gGetF X785 H hZ hown (hw _ wd18) Via.refl e785 q782 d10_4 7 rfl ?_
  intro T789 X789 e789
  refine gCmpN X789 H d10_7 (by decide) 10 rfl ?_
  refine gAloadN X789 H d10_10 rfl rfl 11 rfl ?_
  refine gGetF X789 H hZ hown (hw _ wd11) Via.refl e789 q784 d10_11 14 rfl ?_
  intro T790 X790 e790
  refine gIloadN X790 H d10_14 rfl 15 rfl ?_
  refine gIaload X790 H hZ e790 q787 ⟨by decide, by decide⟩ (v := (.int vi6)) rfl d10_15 16 rfl ?_
  refine gIloadN X790 H d10_16 rfl 17 rfl ?_
  refine gCmpY X790 H d10_17 (feq hk792).2 (by decide) 28 rfl ?_
  refine gIinc X790 H d10_28 rfl (Ls' := #[vR ro0, vI vi1, vI vi2, vI 2]) rfl 31 rfl ?_
  refine gGoto X790 H d10_31 (by decide) 2 rfl ?_
  refine gIloadN X790 H d10_2 rfl 3 rfl ?_
  refine gAloadN X790 H d10_3 rfl rfl 4 rfl ?_
  refine gGetF X790 H hZ hown (hw _ wd18) Via.refl e790 q782 d10_4 7 rfl ?_
  intro T793 X793 e793
  refine gCmpN X793 H d10_7 (by decide) 10 rfl ?_
  refine gAloadN X793 H d10_10 rfl rfl 11 rfl ?_
  refine gGetF X793 H hZ hown (hw _ wd11) Via.refl e793 q784 d10_11 14 rfl ?_
  intro T794 X794 e794
  refine gIloadN X794 H d10_14 rfl 15 rfl ?_
  refine gIaload X794 H hZ e794 q787 ⟨by decide, by decide⟩ (v := (.int vi7)) rfl d10_15 16 rfl ?_
  refine gIloadN X794 H d10_16 rfl 17 rfl ?_
  refine gCmpN X794 H d10_17 (teq hk796).2 20 rfl ?_
  refine gAloadN X794 H d10_20 rfl rfl 21 rfl ?_
  refine gGetF X794 H hZ hown (hw _ wd11) Via.refl e794 q784 d10_21 24 rfl ?_
  intro T797 X797 e797
  refine gIloadN X797 H d10_24 rfl 25 rfl ?_
  refine gIloadN X797 H d10_25 rfl 26 rfl ?_
  refine gIastore X797 H hZ e797 q787 ⟨by decide, by decide⟩ (i := 2) rfl (Nat.le_of_ble_eq_true rfl) (vs' := [(.int vi5), (.int vi6), (.int vi2), (.int 0), (.int 0), (.int 0), (.int 0), (.int 0), (.int 0), (.int 0), (.int 0), (.int 0), (.int 0), (.int 0), (.int 0), (.int 0)]) rfl d10_26 27 rfl ?_
  intro T798 h798 X798 e798 W798 V798
  have O798 := extW O W798 q799
  have N798 := Fr.snoc X798 N0 q799
  have K_800 := (Keep.refl h [ro3]).wr W798 (Or.inl (List.mem_of_getElem? (i := 0) rfl))
  exact gRetV X798 H hlk hret d10_27 e798 ⟨rfl, N798, K_800, V798⟩
theorem rm827_10 (B : Bg Z a0 w_Trail_NO_ROOM k_w_Trail_NO_ROOM) (ro0 : Addr) (vi1 vi2 : Int32) (ro3 : Addr) (ck4 : ClassId) (vi5 vi6 vi7 : Int32) (h : Heap) (O : Ext Z.heap h) (q811 : Fld Z h ro0 cs0 "depth" "I" (.int 3)) (q813 : Fld Z h ro0 cs0 "entries" "[I" (.ref ro3)) (q816 : Arv Z h ro3 ck4 .int (16 : Int32) [(.int vi5), (.int vi6), (.int vi7), (.int 0), (.int 0), (.int 0), (.int 0), (.int 0), (.int 0), (.int 0), (.int 0), (.int 0), (.int 0), (.int 0), (.int 0), (.int 0)] (.int 0)) (hk817 : ¬ (vi5 = vi1)) (hk821 : ¬ (vi6 = vi1)) (hk825 : ¬ (vi7 = vi1)) :
    Con l Z yM10 prog_22_method_10_code 4 none ({ frames := 0, cells := 0, slots := 0, locals := 0 } : Room) #[(.ref ro0), (.int vi1), (.int vi2)] h (fun v h' L => v = none ∧ h' = h ∧ L = []) := by
  have hw := B.1
  refine Con.of (plainFor_of_name pn10) (Ls := #[vR ro0, vI vi1, vI vi2, .unset]) (fun _ => rfl) ?_
  intro p e s m below meth c T0 X0 H hml hZ hown hnm hret hlk e0
  refine gIconst X0 H d10_0 (z := 0) rfl 1 rfl ?_
  refine gIstoreN X0 H d10_1 (Ls' := #[vR ro0, vI vi1, vI vi2, vI 0]) rfl 2 rfl ?_
  refine gIloadN X0 H d10_2 rfl 3 rfl ?_
  refine gAloadN X0 H d10_3 rfl rfl 4 rfl ?_
  refine gGetF X0 H hZ hown (hw _ wd18) Via.refl e0 q811 d10_4 7 rfl ?_
  intro T812 X812 e812
  refine gCmpN X812 H d10_7 (by decide) 10 rfl ?_
  refine gAloadN X812 H d10_10 rfl rfl 11 rfl ?_
  refine gGetF X812 H hZ hown (hw _ wd11) Via.refl e812 q813 d10_11 14 rfl ?_
  intro T814 X814 e814
  refine gIloadN X814 H d10_14 rfl 15 rfl ?_
  refine gIaload X814 H hZ e814 q816 ⟨by decide, by decide⟩ (v := (.int vi5)) rfl d10_15 16 rfl ?_
  refine gIloadN X814 H d10_16 rfl 17 rfl ?_
  refine gCmpY X814 H d10_17 (feq hk817).2 (by decide) 28 rfl ?_
  refine gIinc X814 H d10_28 rfl (Ls' := #[vR ro0, vI vi1, vI vi2, vI 1]) rfl 31 rfl ?_
  refine gGoto X814 H d10_31 (by decide) 2 rfl ?_
  refine gIloadN X814 H d10_2 rfl 3 rfl ?_
  refine gAloadN X814 H d10_3 rfl rfl 4 rfl ?_
  refine gGetF X814 H hZ hown (hw _ wd18) Via.refl e814 q811 d10_4 7 rfl ?_
  intro T818 X818 e818
  refine gCmpN X818 H d10_7 (by decide) 10 rfl ?_
  refine gAloadN X818 H d10_10 rfl rfl 11 rfl ?_
  refine gGetF X818 H hZ hown (hw _ wd11) Via.refl e818 q813 d10_11 14 rfl ?_
  intro T819 X819 e819
  refine gIloadN X819 H d10_14 rfl 15 rfl ?_
  refine gIaload X819 H hZ e819 q816 ⟨by decide, by decide⟩ (v := (.int vi6)) rfl d10_15 16 rfl ?_
  refine gIloadN X819 H d10_16 rfl 17 rfl ?_
  refine gCmpY X819 H d10_17 (feq hk821).2 (by decide) 28 rfl ?_
  refine gIinc X819 H d10_28 rfl (Ls' := #[vR ro0, vI vi1, vI vi2, vI 2]) rfl 31 rfl ?_
  refine gGoto X819 H d10_31 (by decide) 2 rfl ?_
  refine gIloadN X819 H d10_2 rfl 3 rfl ?_
  refine gAloadN X819 H d10_3 rfl rfl 4 rfl ?_
  refine gGetF X819 H hZ hown (hw _ wd18) Via.refl e819 q811 d10_4 7 rfl ?_
  intro T822 X822 e822
  refine gCmpN X822 H d10_7 (by decide) 10 rfl ?_
  refine gAloadN X822 H d10_10 rfl rfl 11 rfl ?_
  refine gGetF X822 H hZ hown (hw _ wd11) Via.refl e822 q813 d10_11 14 rfl ?_
  intro T823 X823 e823
  refine gIloadN X823 H d10_14 rfl 15 rfl ?_
  refine gIaload X823 H hZ e823 q816 ⟨by decide, by decide⟩ (v := (.int vi7)) rfl d10_15 16 rfl ?_
  refine gIloadN X823 H d10_16 rfl 17 rfl ?_
  refine gCmpY X823 H d10_17 (feq hk825).2 (by decide) 28 rfl ?_
  refine gIinc X823 H d10_28 rfl (Ls' := #[vR ro0, vI vi1, vI vi2, vI 3]) rfl 31 rfl ?_
  refine gGoto X823 H d10_31 (by decide) 2 rfl ?_
  refine gIloadN X823 H d10_2 rfl 3 rfl ?_
  refine gAloadN X823 H d10_3 rfl rfl 4 rfl ?_
  refine gGetF X823 H hZ hown (hw _ wd18) Via.refl e823 q811 d10_4 7 rfl ?_
  intro T826 X826 e826
  refine gCmpY X826 H d10_7 (by decide) (by decide) 34 rfl ?_
  exact gRetV X826 H hlk hret d10_34 e826 ⟨rfl, rfl, rfl⟩
theorem cut681_79 (B : Bg Z a0 w_Trail_NO_ROOM k_w_Trail_NO_ROOM) (p0 : Int32) (p1 : Int32) (p2 : Int32) (p3 : Int32) (p4 : Int32) (p5 : Int32) (u8 : Int32) (u9 : Int32) {p : Program} {e : Env} {s : State} {m : MethodId} {below : List Frame} {meth : Method} {c : Code} {T0 : State} (X0 : Stand p l e room_1 s m #[(.int p0), (.int p1), (.int p2), (.int p3), (.int p4), (.int p5)] below meth c T0 [] 0 0) (H : p.tables.exec = Jvm.exec ∧ c.code = code) (hml : c.maxLocals = maxLocals) (hZ : Z.Warmed39 s.vm) (hown : s.vm.findClass x.cls = some m.cls) (hnm : meth.name = x.name) (hret : meth.sig.returnType = ret) (hlk : meth.locks = false) (e0 : T0.heap = Z.heap) :
    Go p e below (EndK s below (fun v h' L => v = some (.int 1) ∧ Fr Z.heap.size L) room_1.cells room_1.slots) (T0.setTop (mkF m 79 #[vI p0, vI p1, vI p2, vI p3, vI p4, vI p5, vI 3, vI 3, vI u8, vI u9, .unset, .unset, .unset] [])) := by
  have hw := B.1
  obtain ⟨S_w_Trail_NO_ROOM, V_w_Trail_NO_ROOM⟩ := B.2
  have O0 := extR Z.heap
  have M0 := Nat.le_refl Z.heap.size
  have N0 := Fr.nil Z.heap.size
  refine gNew X0 H hZ hown (hw _ wd0) (hw _ wd1) (hw _ wd2) e0 (by decide) (by decide) at_79 82 rfl ?_
  intro T682 h682 b682 X682 e682 z682 E682 A682 D682
  have G_b682 := Nat.le_trans O0.1 (Nat.le_of_eq z682)
  have sz_b682 := Nat.le_trans M0 (Nat.le_of_eq z682)
  have O682 := extT O0 E682
  have F682_entries : Fld Z h682 b682 cs0 "entries" "[I" .null := D682 (Or.inl (hw _ wd12)) (ty := (.array .int)) (by decide)
  have F682_depth : Fld Z h682 b682 cs0 "depth" "I" (.int 0) := D682 (Or.inl (hw _ wd19)) (ty := .int) (by decide)
  have F682_unchanged : Fld Z h682 b682 cs0 "unchanged" "B" (.int 0) := D682 (Or.inl (hw _ wd45)) (ty := .byte) (by decide)
  refine gDup X682 H at_82 rfl 83 rfl ?_
  refine gSpecial X682 H hZ hown rfl rfl (hw _ wd3) (hw _ wd4) (by decide) (hw _ wd5) (hw _ wd2) (rm17_1 B b682 _ O682 A682 F682_entries G_b682 F682_depth F682_unchanged) e682 hml rfl pd0 rfl (W := 1) (argsL := []) (rest := [(.ref b682)]) rfl rfl at_83 86 rfl ?_
  intro v683 T683 L683 hq683 X683
  obtain ⟨rfl, N683q, K683, f683_0, f683_1, f683_2, f683_3⟩ := hq683
  have O683 := extK O682 K683 (allS G_b682 all0)
  have N683 := Fr.app N0 N683q
  show Go _ _ _ _ (State.setTop _ (mkF _ 86 _ [(.ref b682)]))
  refine gAstore X683 H at_86 rfl (Ls' := #[vI p0, vI p1, vI p2, vI p3, vI p4, vI p5, vI 3, vI 3, vI u8, vI u9, vR b682, .unset, .unset]) rfl 88 rfl ?_
  refine gIload X683 H at_88 rfl 90 rfl ?_
  refine gIfN X683 H at_90 (by decide) 93 rfl ?_
  refine gAload X683 H at_93 rfl rfl 95 rfl ?_
  refine gIloadN X683 H at_95 rfl 96 rfl ?_
  refine gVirt X683 H hZ hown (hw _ wd13) (hw _ wd14) (hw _ wd16) (hw _ wd15) (by decide) f683_0 (hw _ wd17) (hw _ wd2) (rm105_3 B b682 p0 _ O683 f683_2 f683_1 f683_0 G_b682 f683_3) rfl hml rfl pd1 rfl (W := 0) (argsL := [(.int p0)]) (rest := []) rfl rfl at_96 99 rfl ?_
  intro v684 T684 L684 hq684 X684
  obtain ⟨b684_0, k684_0, rfl, N684q, K684, s684_0, f684_0, f684_1, f684_2, f684_3, f684_4⟩ := hq684
  have M685 := (Nat.le_trans (Nat.le_trans M0 E682.1) K683.1)
  have G_b684_0 := Nat.le_trans O683.1 s684_0
  have sz_b684_0 := Nat.le_trans M685 s684_0
  have ne_b682_b684_0 : b682 ≠ b684_0 := neB f683_0.lt s684_0
  have O684 := extK O683 K684 (allS G_b682 all0)
  have N684 := Fr.app N683 N684q
  show Go _ _ _ _ (State.setTop _ (mkF _ 99 _ []))
  refine gIload X684 H at_99 rfl 101 rfl ?_
  refine gIconst X684 H at_101 (z := 1) rfl 102 rfl ?_
  refine gCmpN X684 H at_102 (by decide) 105 rfl ?_
  refine gAload X684 H at_105 rfl rfl 107 rfl ?_
  refine gIloadN X684 H at_107 rfl 108 rfl ?_
  refine gVirt X684 H hZ hown (hw _ wd13) (hw _ wd14) (hw _ wd16) (hw _ wd15) (by decide) f684_2 (hw _ wd17) (hw _ wd2) (rm232_3 B b682 p1 b684_0 k684_0 p0 _ O684 f684_0 f684_1 (Arv.arl f684_4) f684_2 f684_3 f684_4 G_b684_0 ne_b682_b684_0 G_b682) rfl hml rfl pd1 rfl (W := 0) (argsL := [(.int p1)]) (rest := []) rfl rfl at_108 111 rfl ?_
  intro v686 T686 L686 hq686 X686
  obtain ⟨rfl, N686q, K686, f686_0, f686_1, f686_2, f686_3, f686_4⟩ := hq686
  have O686 := extK O684 K686 (allS G_b684_0 (allS G_b682 all0))
  have N686 := Fr.app N684 N686q
  show Go _ _ _ _ (State.setTop _ (mkF _ 111 _ []))
  refine gIload X686 H at_111 rfl 113 rfl ?_
  refine gIconst X686 H at_113 (z := 2) rfl 114 rfl ?_
  refine gCmpN X686 H at_114 (by decide) 117 rfl ?_
  refine gAload X686 H at_117 rfl rfl 119 rfl ?_
  refine gIloadN X686 H at_119 rfl 120 rfl ?_
  refine gVirt X686 H hZ hown (hw _ wd13) (hw _ wd14) (hw _ wd16) (hw _ wd15) (by decide) f686_2 (hw _ wd17) (hw _ wd2) (rm470_3 B b682 p2 b684_0 k684_0 p0 p1 _ O686 f686_0 f686_1 (Arv.arl f686_4) f686_2 f686_3 f686_4 G_b684_0 ne_b682_b684_0 G_b682) rfl hml rfl pd1 rfl (W := 0) (argsL := [(.int p2)]) (rest := []) rfl rfl at_120 123 rfl ?_
  intro v687 T687 L687 hq687 X687
  obtain ⟨rfl, N687q, K687, f687_0, f687_1, f687_2, f687_3, f687_4⟩ := hq687
  have O687 := extK O686 K687 (allS G_b684_0 (allS G_b682 all0))
  have N687 := Fr.app N686 N687q
  show Go _ _ _ _ (State.setTop _ (mkF _ 123 _ []))
  refine gAload X687 H at_123 rfl rfl 125 rfl ?_
  refine gIload X687 H at_125 rfl 127 rfl ?_
  refine gVirt X687 H hZ hown (hw _ wd46) (hw _ wd47) (hw _ wd49) (hw _ wd48) (by decide) f687_2 (hw _ wd50) (hw _ wd2) (rm698_9 B b682 b684_0 _ O687 f687_2 f687_0 G_b682 f687_1 f687_3) rfl hml rfl pd1 rfl (W := 0) (argsL := [(.int 3)]) (rest := []) rfl rfl at_127 130 rfl ?_
  intro v699 T699 L699 hq699 X699
  obtain ⟨rfl, N699q, K699, f699_0, f699_1, f699_2, f699_3⟩ := hq699
  have O699 := extK O687 K699 (allS G_b682 all0)
  have N699 := Fr.app N687 N699q
  show Go _ _ _ _ (State.setTop _ (mkF _ 130 _ []))
  refine gAload X699 H at_130 rfl rfl 132 rfl ?_
  refine gIload X699 H at_132 rfl 134 rfl ?_
  refine gIloadN X699 H at_134 rfl 135 rfl ?_
  by_cases hc706 : p0 = u9
  · have c719 := (f687_4.keep K699 (ninS (Ne.symm ne_b682_b684_0) nin0))
    refine gVirt X699 H hZ hown (hw _ wd51) (hw _ wd52) (hw _ wd54) (hw _ wd53) (by decide) f699_0 (hw _ wd55) (hw _ wd2) (rm718_10 B b682 u9 p3 b684_0 k684_0 p0 p1 p2 _ O699 f699_1 f699_2 c719 G_b684_0 hc706) rfl hml rfl pd2 rfl (W := 0) (argsL := [(.int u9), (.int p3)]) (rest := []) rfl rfl at_135 138 rfl ?_
    intro v720 T720 L720 hq720 X720
    obtain ⟨rfl, N720q, K720, f720_0⟩ := hq720
    have O720 := extK O699 K720 (allS G_b684_0 all0)
    have N720 := Fr.app N699 N720q
    show Go _ _ _ _ (State.setTop _ (mkF _ 138 _ []))
    refine gIload X720 H at_138 rfl 140 rfl ?_
    refine gIfN X720 H at_140 (by decide) 143 rfl ?_
    refine gIloadN X720 H at_143 rfl 144 rfl ?_
    refine gIload X720 H at_144 rfl 146 rfl ?_
    refine gCmpN X720 H at_146 (teq hc706).2 149 rfl ?_
    refine gIconst X720 H at_149 (z := 0) rfl 150 rfl ?_
    refine gIstore X720 H at_150 (Ls' := #[vI p0, vI p1, vI p2, vI p3, vI p4, vI p5, vI 3, vI 3, vI u8, vI u9, vR b682, vI 0, .unset]) rfl 152 rfl ?_
    refine gGoto X720 H at_152 (by decide) 194 rfl ?_
    refine gAload X720 H at_194 rfl rfl 196 rfl ?_
    have c721 := (f699_0.keep K720)
    have c725 := (f699_1.keep K720 (ninS ne_b682_b684_0 nin0))
    refine gVirt X720 H hZ hown (hw _ wd56) (hw _ wd57) (hw _ wd59) (hw _ wd58) (by decide) c721 (hw _ wd60) (hw _ wd2) (rm724_11 B b682 _ O720 c725) rfl hml rfl pd3 rfl (W := 0) (argsL := []) (rest := []) rfl rfl at_196 199 rfl ?_
    intro v726 T726 L726 hq726 X726
    obtain ⟨rfl, e726, rfl⟩ := hq726
    have N726 := Fr.app N720 (Fr.nil _)
    show Go _ _ _ _ (State.setTop _ (mkF _ 199 _ [(.int 3)]))
    refine gIload X726 H at_199 rfl 201 rfl ?_
    refine gCmpN X726 H at_201 (by decide) 204 rfl ?_
    refine gIconst X726 H at_204 (z := 1) rfl 205 rfl ?_
    refine gGoto X726 H at_205 (by decide) 209 rfl ?_
    refine gIstore X726 H at_209 (Ls' := #[vI p0, vI p1, vI p2, vI p3, vI p4, vI p5, vI 3, vI 3, vI u8, vI u9, vR b682, vI 0, vI 1]) rfl 211 rfl ?_
    refine gIload X726 H at_211 rfl 213 rfl ?_
    refine gIfN X726 H at_213 (by decide) 216 rfl ?_
    refine gIload X726 H at_216 rfl 218 rfl ?_
    refine gIfN X726 H at_218 (by decide) 221 rfl ?_
    refine gAload X726 H at_221 rfl rfl 223 rfl ?_
    refine gIconst X726 H at_223 (z := 0) rfl 224 rfl ?_
    have c727 := (f699_2.keep K720 (ninS ne_b682_b684_0 nin0))
    refine gVirt X726 H hZ hown (hw _ wd61) (hw _ wd62) (hw _ wd64) (hw _ wd63) (by decide) c721 (hw _ wd65) (hw _ wd2) (rm490_12 B b682 b684_0 k684_0 p3 p1 p2 _ O720 c727 f720_0) e726 hml rfl pd6 rfl (W := 0) (argsL := [(.int 0)]) (rest := []) rfl rfl at_224 227 rfl ?_
    intro v728 T728 L728 hq728 X728
    obtain ⟨rfl, e728, rfl⟩ := hq728
    have N728 := Fr.app N726 (Fr.nil _)
    show Go _ _ _ _ (State.setTop _ (mkF _ 227 _ [(.int p3)]))
    refine gIload X728 H at_227 rfl 229 rfl ?_
    refine gIfN X728 H at_229 (by decide) 232 rfl ?_
    refine gIloadN X728 H at_232 rfl 233 rfl ?_
    refine gGoto X728 H at_233 (by decide) 237 rfl ?_
    refine gCmpN X728 H at_237 (teq rfl).2 240 rfl ?_
    refine gIconst X728 H at_240 (z := 1) rfl 241 rfl ?_
    refine gGoto X728 H at_241 (by decide) 245 rfl ?_
    refine gIstore X728 H at_245 (Ls' := #[vI p0, vI p1, vI p2, vI p3, vI p4, vI p5, vI 3, vI 3, vI u8, vI u9, vR b682, vI 0, vI 1]) rfl 247 rfl ?_
    refine gIload X728 H at_247 rfl 249 rfl ?_
    refine gIconst X728 H at_249 (z := 1) rfl 250 rfl ?_
    refine gCmpN X728 H at_250 (by decide) 253 rfl ?_
    refine gIload X728 H at_253 rfl 255 rfl ?_
    refine gIfN X728 H at_255 (by decide) 258 rfl ?_
    refine gAload X728 H at_258 rfl rfl 260 rfl ?_
    refine gIconst X728 H at_260 (z := 1) rfl 261 rfl ?_
    refine gVirt X728 H hZ hown (hw _ wd61) (hw _ wd62) (hw _ wd64) (hw _ wd63) (by decide) c721 (hw _ wd65) (hw _ wd2) (rm497_12 B b682 b684_0 k684_0 p3 p1 p2 _ O720 c727 f720_0) e728 hml rfl pd6 rfl (W := 0) (argsL := [(.int 1)]) (rest := []) rfl rfl at_261 264 rfl ?_
    intro v729 T729 L729 hq729 X729
    obtain ⟨rfl, e729, rfl⟩ := hq729
    have N729 := Fr.app N728 (Fr.nil _)
    show Go _ _ _ _ (State.setTop _ (mkF _ 264 _ [(.int p1)]))
    refine gIload X729 H at_264 rfl 266 rfl ?_
    refine gIconst X729 H at_266 (z := 1) rfl 267 rfl ?_
    refine gCmpY X729 H at_267 (by decide) (by decide) 274 rfl ?_
    refine gIloadN X729 H at_274 rfl 275 rfl ?_
    refine gCmpN X729 H at_275 (teq rfl).2 278 rfl ?_
    refine gIconst X729 H at_278 (z := 1) rfl 279 rfl ?_
    refine gGoto X729 H at_279 (by decide) 283 rfl ?_
    refine gIstore X729 H at_283 (Ls' := #[vI p0, vI p1, vI p2, vI p3, vI p4, vI p5, vI 3, vI 3, vI u8, vI u9, vR b682, vI 0, vI 1]) rfl 285 rfl ?_
    refine gIload X729 H at_285 rfl 287 rfl ?_
    refine gIconst X729 H at_287 (z := 2) rfl 288 rfl ?_
    refine gCmpN X729 H at_288 (by decide) 291 rfl ?_
    refine gIload X729 H at_291 rfl 293 rfl ?_
    refine gIfN X729 H at_293 (by decide) 296 rfl ?_
    refine gAload X729 H at_296 rfl rfl 298 rfl ?_
    refine gIconst X729 H at_298 (z := 2) rfl 299 rfl ?_
    refine gVirt X729 H hZ hown (hw _ wd61) (hw _ wd62) (hw _ wd64) (hw _ wd63) (by decide) c721 (hw _ wd65) (hw _ wd2) (rm503_12 B b682 b684_0 k684_0 p3 p1 p2 _ O720 c727 f720_0) e729 hml rfl pd6 rfl (W := 0) (argsL := [(.int 2)]) (rest := []) rfl rfl at_299 302 rfl ?_
    intro v730 T730 L730 hq730 X730
    obtain ⟨rfl, e730, rfl⟩ := hq730
    have N730 := Fr.app N729 (Fr.nil _)
    show Go _ _ _ _ (State.setTop _ (mkF _ 302 _ [(.int p2)]))
    refine gIload X730 H at_302 rfl 304 rfl ?_
    refine gIconst X730 H at_304 (z := 2) rfl 305 rfl ?_
    refine gCmpY X730 H at_305 (by decide) (by decide) 312 rfl ?_
    refine gIloadN X730 H at_312 rfl 313 rfl ?_
    refine gCmpN X730 H at_313 (teq rfl).2 316 rfl ?_
    refine gIconst X730 H at_316 (z := 1) rfl 317 rfl ?_
    refine gGoto X730 H at_317 (by decide) 321 rfl ?_
    refine gIstore X730 H at_321 (Ls' := #[vI p0, vI p1, vI p2, vI p3, vI p4, vI p5, vI 3, vI 3, vI u8, vI u9, vR b682, vI 0, vI 1]) rfl 323 rfl ?_
    refine gIload X730 H at_323 rfl 325 rfl ?_
    exact gRetN X730 H hlk hret (t := .boolean) (by simp) at_325 e730 ⟨rfl, N730⟩
  · by_cases hc741 : p1 = u9
    · have c758 := (f687_4.keep K699 (ninS (Ne.symm ne_b682_b684_0) nin0))
      refine gVirt X699 H hZ hown (hw _ wd51) (hw _ wd52) (hw _ wd54) (hw _ wd53) (by decide) f699_0 (hw _ wd55) (hw _ wd2) (rm757_10 B b682 u9 p3 b684_0 k684_0 p0 p1 p2 _ O699 f699_1 f699_2 c758 G_b684_0 hc706 hc741) rfl hml rfl pd2 rfl (W := 0) (argsL := [(.int u9), (.int p3)]) (rest := []) rfl rfl at_135 138 rfl ?_
      intro v759 T759 L759 hq759 X759
      obtain ⟨rfl, N759q, K759, f759_0⟩ := hq759
      have O759 := extK O699 K759 (allS G_b684_0 all0)
      have N759 := Fr.app N699 N759q
      show Go _ _ _ _ (State.setTop _ (mkF _ 138 _ []))
      refine gIload X759 H at_138 rfl 140 rfl ?_
      refine gIfN X759 H at_140 (by decide) 143 rfl ?_
      refine gIloadN X759 H at_143 rfl 144 rfl ?_
      refine gIload X759 H at_144 rfl 146 rfl ?_
      refine gCmpY X759 H at_146 (feq hc706).2 (by decide) 155 rfl ?_
      refine gIload X759 H at_155 rfl 157 rfl ?_
      refine gIconst X759 H at_157 (z := 1) rfl 158 rfl ?_
      refine gCmpN X759 H at_158 (by decide) 161 rfl ?_
      refine gIloadN X759 H at_161 rfl 162 rfl ?_
      refine gIload X759 H at_162 rfl 164 rfl ?_
      refine gCmpN X759 H at_164 (teq hc741).2 167 rfl ?_
      refine gIconst X759 H at_167 (z := 1) rfl 168 rfl ?_
      refine gIstore X759 H at_168 (Ls' := #[vI p0, vI p1, vI p2, vI p3, vI p4, vI p5, vI 3, vI 3, vI u8, vI u9, vR b682, vI 1, .unset]) rfl 170 rfl ?_
      refine gGoto X759 H at_170 (by decide) 194 rfl ?_
      refine gAload X759 H at_194 rfl rfl 196 rfl ?_
      have c760 := (f699_0.keep K759)
      have c761 := (f699_1.keep K759 (ninS ne_b682_b684_0 nin0))
      refine gVirt X759 H hZ hown (hw _ wd56) (hw _ wd57) (hw _ wd59) (hw _ wd58) (by decide) c760 (hw _ wd60) (hw _ wd2) (rm724_11 B b682 _ O759 c761) rfl hml rfl pd3 rfl (W := 0) (argsL := []) (rest := []) rfl rfl at_196 199 rfl ?_
      intro v762 T762 L762 hq762 X762
      obtain ⟨rfl, e762, rfl⟩ := hq762
      have N762 := Fr.app N759 (Fr.nil _)
      show Go _ _ _ _ (State.setTop _ (mkF _ 199 _ [(.int 3)]))
      refine gIload X762 H at_199 rfl 201 rfl ?_
      refine gCmpN X762 H at_201 (by decide) 204 rfl ?_
      refine gIconst X762 H at_204 (z := 1) rfl 205 rfl ?_
      refine gGoto X762 H at_205 (by decide) 209 rfl ?_
      refine gIstore X762 H at_209 (Ls' := #[vI p0, vI p1, vI p2, vI p3, vI p4, vI p5, vI 3, vI 3, vI u8, vI u9, vR b682, vI 1, vI 1]) rfl 211 rfl ?_
      refine gIload X762 H at_211 rfl 213 rfl ?_
      refine gIfN X762 H at_213 (by decide) 216 rfl ?_
      refine gIload X762 H at_216 rfl 218 rfl ?_
      refine gIfN X762 H at_218 (by decide) 221 rfl ?_
      refine gAload X762 H at_221 rfl rfl 223 rfl ?_
      refine gIconst X762 H at_223 (z := 0) rfl 224 rfl ?_
      have c763 := (f699_2.keep K759 (ninS ne_b682_b684_0 nin0))
      refine gVirt X762 H hZ hown (hw _ wd61) (hw _ wd62) (hw _ wd64) (hw _ wd63) (by decide) c760 (hw _ wd65) (hw _ wd2) (rm490_12 B b682 b684_0 k684_0 p0 p3 p2 _ O759 c763 f759_0) e762 hml rfl pd6 rfl (W := 0) (argsL := [(.int 0)]) (rest := []) rfl rfl at_224 227 rfl ?_
      intro v764 T764 L764 hq764 X764
      obtain ⟨rfl, e764, rfl⟩ := hq764
      have N764 := Fr.app N762 (Fr.nil _)
      show Go _ _ _ _ (State.setTop _ (mkF _ 227 _ [(.int p0)]))
      refine gIload X764 H at_227 rfl 229 rfl ?_
      refine gIfY X764 H at_229 (by decide) (by decide) 236 rfl ?_
      refine gIloadN X764 H at_236 rfl 237 rfl ?_
      refine gCmpN X764 H at_237 (teq rfl).2 240 rfl ?_
      refine gIconst X764 H at_240 (z := 1) rfl 241 rfl ?_
      refine gGoto X764 H at_241 (by decide) 245 rfl ?_
      refine gIstore X764 H at_245 (Ls' := #[vI p0, vI p1, vI p2, vI p3, vI p4, vI p5, vI 3, vI 3, vI u8, vI u9, vR b682, vI 1, vI 1]) rfl 247 rfl ?_
      refine gIload X764 H at_247 rfl 249 rfl ?_
      refine gIconst X764 H at_249 (z := 1) rfl 250 rfl ?_
      refine gCmpN X764 H at_250 (by decide) 253 rfl ?_
      refine gIload X764 H at_253 rfl 255 rfl ?_
      refine gIfN X764 H at_255 (by decide) 258 rfl ?_
      refine gAload X764 H at_258 rfl rfl 260 rfl ?_
      refine gIconst X764 H at_260 (z := 1) rfl 261 rfl ?_
      refine gVirt X764 H hZ hown (hw _ wd61) (hw _ wd62) (hw _ wd64) (hw _ wd63) (by decide) c760 (hw _ wd65) (hw _ wd2) (rm497_12 B b682 b684_0 k684_0 p0 p3 p2 _ O759 c763 f759_0) e764 hml rfl pd6 rfl (W := 0) (argsL := [(.int 1)]) (rest := []) rfl rfl at_261 264 rfl ?_
      intro v765 T765 L765 hq765 X765
      obtain ⟨rfl, e765, rfl⟩ := hq765
      have N765 := Fr.app N764 (Fr.nil _)
      show Go _ _ _ _ (State.setTop _ (mkF _ 264 _ [(.int p3)]))
      refine gIload X765 H at_264 rfl 266 rfl ?_
      refine gIconst X765 H at_266 (z := 1) rfl 267 rfl ?_
      refine gCmpN X765 H at_267 (by decide) 270 rfl ?_
      refine gIloadN X765 H at_270 rfl 271 rfl ?_
      refine gGoto X765 H at_271 (by decide) 275 rfl ?_
      refine gCmpN X765 H at_275 (teq rfl).2 278 rfl ?_
      refine gIconst X765 H at_278 (z := 1) rfl 279 rfl ?_
      refine gGoto X765 H at_279 (by decide) 283 rfl ?_
      refine gIstore X765 H at_283 (Ls' := #[vI p0, vI p1, vI p2, vI p3, vI p4, vI p5, vI 3, vI 3, vI u8, vI u9, vR b682, vI 1, vI 1]) rfl 285 rfl ?_
      refine gIload X765 H at_285 rfl 287 rfl ?_
      refine gIconst X765 H at_287 (z := 2) rfl 288 rfl ?_
      refine gCmpN X765 H at_288 (by decide) 291 rfl ?_
      refine gIload X765 H at_291 rfl 293 rfl ?_
      refine gIfN X765 H at_293 (by decide) 296 rfl ?_
      refine gAload X765 H at_296 rfl rfl 298 rfl ?_
      refine gIconst X765 H at_298 (z := 2) rfl 299 rfl ?_
      refine gVirt X765 H hZ hown (hw _ wd61) (hw _ wd62) (hw _ wd64) (hw _ wd63) (by decide) c760 (hw _ wd65) (hw _ wd2) (rm503_12 B b682 b684_0 k684_0 p0 p3 p2 _ O759 c763 f759_0) e765 hml rfl pd6 rfl (W := 0) (argsL := [(.int 2)]) (rest := []) rfl rfl at_299 302 rfl ?_
      intro v766 T766 L766 hq766 X766
      obtain ⟨rfl, e766, rfl⟩ := hq766
      have N766 := Fr.app N765 (Fr.nil _)
      show Go _ _ _ _ (State.setTop _ (mkF _ 302 _ [(.int p2)]))
      refine gIload X766 H at_302 rfl 304 rfl ?_
      refine gIconst X766 H at_304 (z := 2) rfl 305 rfl ?_
      refine gCmpY X766 H at_305 (by decide) (by decide) 312 rfl ?_
      refine gIloadN X766 H at_312 rfl 313 rfl ?_
      refine gCmpN X766 H at_313 (teq rfl).2 316 rfl ?_
      refine gIconst X766 H at_316 (z := 1) rfl 317 rfl ?_
      refine gGoto X766 H at_317 (by decide) 321 rfl ?_
      refine gIstore X766 H at_321 (Ls' := #[vI p0, vI p1, vI p2, vI p3, vI p4, vI p5, vI 3, vI 3, vI u8, vI u9, vR b682, vI 1, vI 1]) rfl 323 rfl ?_
      refine gIload X766 H at_323 rfl 325 rfl ?_
      exact gRetN X766 H hlk hret (t := .boolean) (by simp) at_325 e766 ⟨rfl, N766⟩
    · by_cases hc781 : p2 = u9
      · have c802 := (f687_4.keep K699 (ninS (Ne.symm ne_b682_b684_0) nin0))
        refine gVirt X699 H hZ hown (hw _ wd51) (hw _ wd52) (hw _ wd54) (hw _ wd53) (by decide) f699_0 (hw _ wd55) (hw _ wd2) (rm801_10 B b682 u9 p3 b684_0 k684_0 p0 p1 p2 _ O699 f699_1 f699_2 c802 G_b684_0 hc706 hc741 hc781) rfl hml rfl pd2 rfl (W := 0) (argsL := [(.int u9), (.int p3)]) (rest := []) rfl rfl at_135 138 rfl ?_
        intro v803 T803 L803 hq803 X803
        obtain ⟨rfl, N803q, K803, f803_0⟩ := hq803
        have O803 := extK O699 K803 (allS G_b684_0 all0)
        have N803 := Fr.app N699 N803q
        show Go _ _ _ _ (State.setTop _ (mkF _ 138 _ []))
        refine gIload X803 H at_138 rfl 140 rfl ?_
        refine gIfN X803 H at_140 (by decide) 143 rfl ?_
        refine gIloadN X803 H at_143 rfl 144 rfl ?_
        refine gIload X803 H at_144 rfl 146 rfl ?_
        refine gCmpY X803 H at_146 (feq hc706).2 (by decide) 155 rfl ?_
        refine gIload X803 H at_155 rfl 157 rfl ?_
        refine gIconst X803 H at_157 (z := 1) rfl 158 rfl ?_
        refine gCmpN X803 H at_158 (by decide) 161 rfl ?_
        refine gIloadN X803 H at_161 rfl 162 rfl ?_
        refine gIload X803 H at_162 rfl 164 rfl ?_
        refine gCmpY X803 H at_164 (feq hc741).2 (by decide) 173 rfl ?_
        refine gIload X803 H at_173 rfl 175 rfl ?_
        refine gIconst X803 H at_175 (z := 2) rfl 176 rfl ?_
        refine gCmpN X803 H at_176 (by decide) 179 rfl ?_
        refine gIloadN X803 H at_179 rfl 180 rfl ?_
        refine gIload X803 H at_180 rfl 182 rfl ?_
        refine gCmpN X803 H at_182 (teq hc781).2 185 rfl ?_
        refine gIconst X803 H at_185 (z := 2) rfl 186 rfl ?_
        refine gIstore X803 H at_186 (Ls' := #[vI p0, vI p1, vI p2, vI p3, vI p4, vI p5, vI 3, vI 3, vI u8, vI u9, vR b682, vI 2, .unset]) rfl 188 rfl ?_
        refine gGoto X803 H at_188 (by decide) 194 rfl ?_
        refine gAload X803 H at_194 rfl rfl 196 rfl ?_
        have c804 := (f699_0.keep K803)
        have c805 := (f699_1.keep K803 (ninS ne_b682_b684_0 nin0))
        refine gVirt X803 H hZ hown (hw _ wd56) (hw _ wd57) (hw _ wd59) (hw _ wd58) (by decide) c804 (hw _ wd60) (hw _ wd2) (rm724_11 B b682 _ O803 c805) rfl hml rfl pd3 rfl (W := 0) (argsL := []) (rest := []) rfl rfl at_196 199 rfl ?_
        intro v806 T806 L806 hq806 X806
        obtain ⟨rfl, e806, rfl⟩ := hq806
        have N806 := Fr.app N803 (Fr.nil _)
        show Go _ _ _ _ (State.setTop _ (mkF _ 199 _ [(.int 3)]))
        refine gIload X806 H at_199 rfl 201 rfl ?_
        refine gCmpN X806 H at_201 (by decide) 204 rfl ?_
        refine gIconst X806 H at_204 (z := 1) rfl 205 rfl ?_
        refine gGoto X806 H at_205 (by decide) 209 rfl ?_
        refine gIstore X806 H at_209 (Ls' := #[vI p0, vI p1, vI p2, vI p3, vI p4, vI p5, vI 3, vI 3, vI u8, vI u9, vR b682, vI 2, vI 1]) rfl 211 rfl ?_
        refine gIload X806 H at_211 rfl 213 rfl ?_
        refine gIfN X806 H at_213 (by decide) 216 rfl ?_
        refine gIload X806 H at_216 rfl 218 rfl ?_
        refine gIfN X806 H at_218 (by decide) 221 rfl ?_
        refine gAload X806 H at_221 rfl rfl 223 rfl ?_
        refine gIconst X806 H at_223 (z := 0) rfl 224 rfl ?_
        have c807 := (f699_2.keep K803 (ninS ne_b682_b684_0 nin0))
        refine gVirt X806 H hZ hown (hw _ wd61) (hw _ wd62) (hw _ wd64) (hw _ wd63) (by decide) c804 (hw _ wd65) (hw _ wd2) (rm490_12 B b682 b684_0 k684_0 p0 p1 p3 _ O803 c807 f803_0) e806 hml rfl pd6 rfl (W := 0) (argsL := [(.int 0)]) (rest := []) rfl rfl at_224 227 rfl ?_
        intro v808 T808 L808 hq808 X808
        obtain ⟨rfl, e808, rfl⟩ := hq808
        have N808 := Fr.app N806 (Fr.nil _)
        show Go _ _ _ _ (State.setTop _ (mkF _ 227 _ [(.int p0)]))
        refine gIload X808 H at_227 rfl 229 rfl ?_
        refine gIfY X808 H at_229 (by decide) (by decide) 236 rfl ?_
        refine gIloadN X808 H at_236 rfl 237 rfl ?_
        refine gCmpN X808 H at_237 (teq rfl).2 240 rfl ?_
        refine gIconst X808 H at_240 (z := 1) rfl 241 rfl ?_
        refine gGoto X808 H at_241 (by decide) 245 rfl ?_
        refine gIstore X808 H at_245 (Ls' := #[vI p0, vI p1, vI p2, vI p3, vI p4, vI p5, vI 3, vI 3, vI u8, vI u9, vR b682, vI 2, vI 1]) rfl 247 rfl ?_
        refine gIload X808 H at_247 rfl 249 rfl ?_
        refine gIconst X808 H at_249 (z := 1) rfl 250 rfl ?_
        refine gCmpN X808 H at_250 (by decide) 253 rfl ?_
        refine gIload X808 H at_253 rfl 255 rfl ?_
        refine gIfN X808 H at_255 (by decide) 258 rfl ?_
        refine gAload X808 H at_258 rfl rfl 260 rfl ?_
        refine gIconst X808 H at_260 (z := 1) rfl 261 rfl ?_
        refine gVirt X808 H hZ hown (hw _ wd61) (hw _ wd62) (hw _ wd64) (hw _ wd63) (by decide) c804 (hw _ wd65) (hw _ wd2) (rm497_12 B b682 b684_0 k684_0 p0 p1 p3 _ O803 c807 f803_0) e808 hml rfl pd6 rfl (W := 0) (argsL := [(.int 1)]) (rest := []) rfl rfl at_261 264 rfl ?_
        intro v809 T809 L809 hq809 X809
        obtain ⟨rfl, e809, rfl⟩ := hq809
        have N809 := Fr.app N808 (Fr.nil _)
        show Go _ _ _ _ (State.setTop _ (mkF _ 264 _ [(.int p1)]))
        refine gIload X809 H at_264 rfl 266 rfl ?_
        refine gIconst X809 H at_266 (z := 1) rfl 267 rfl ?_
        refine gCmpY X809 H at_267 (by decide) (by decide) 274 rfl ?_
        refine gIloadN X809 H at_274 rfl 275 rfl ?_
        refine gCmpN X809 H at_275 (teq rfl).2 278 rfl ?_
        refine gIconst X809 H at_278 (z := 1) rfl 279 rfl ?_
        refine gGoto X809 H at_279 (by decide) 283 rfl ?_
        refine gIstore X809 H at_283 (Ls' := #[vI p0, vI p1, vI p2, vI p3, vI p4, vI p5, vI 3, vI 3, vI u8, vI u9, vR b682, vI 2, vI 1]) rfl 285 rfl ?_
        refine gIload X809 H at_285 rfl 287 rfl ?_
        refine gIconst X809 H at_287 (z := 2) rfl 288 rfl ?_
        refine gCmpN X809 H at_288 (by decide) 291 rfl ?_
        refine gIload X809 H at_291 rfl 293 rfl ?_
        refine gIfN X809 H at_293 (by decide) 296 rfl ?_
        refine gAload X809 H at_296 rfl rfl 298 rfl ?_
        refine gIconst X809 H at_298 (z := 2) rfl 299 rfl ?_
        refine gVirt X809 H hZ hown (hw _ wd61) (hw _ wd62) (hw _ wd64) (hw _ wd63) (by decide) c804 (hw _ wd65) (hw _ wd2) (rm503_12 B b682 b684_0 k684_0 p0 p1 p3 _ O803 c807 f803_0) e809 hml rfl pd6 rfl (W := 0) (argsL := [(.int 2)]) (rest := []) rfl rfl at_299 302 rfl ?_
        intro v810 T810 L810 hq810 X810
        obtain ⟨rfl, e810, rfl⟩ := hq810
        have N810 := Fr.app N809 (Fr.nil _)
        show Go _ _ _ _ (State.setTop _ (mkF _ 302 _ [(.int p3)]))
        refine gIload X810 H at_302 rfl 304 rfl ?_
        refine gIconst X810 H at_304 (z := 2) rfl 305 rfl ?_
        refine gCmpN X810 H at_305 (by decide) 308 rfl ?_
        refine gIloadN X810 H at_308 rfl 309 rfl ?_
        refine gGoto X810 H at_309 (by decide) 313 rfl ?_
        refine gCmpN X810 H at_313 (teq rfl).2 316 rfl ?_
        refine gIconst X810 H at_316 (z := 1) rfl 317 rfl ?_
        refine gGoto X810 H at_317 (by decide) 321 rfl ?_
        refine gIstore X810 H at_321 (Ls' := #[vI p0, vI p1, vI p2, vI p3, vI p4, vI p5, vI 3, vI 3, vI u8, vI u9, vR b682, vI 2, vI 1]) rfl 323 rfl ?_
        refine gIload X810 H at_323 rfl 325 rfl ?_
        exact gRetN X810 H hlk hret (t := .boolean) (by simp) at_325 e810 ⟨rfl, N810⟩
      · have c828 := (f687_4.keep K699 (ninS (Ne.symm ne_b682_b684_0) nin0))
        refine gVirt X699 H hZ hown (hw _ wd51) (hw _ wd52) (hw _ wd54) (hw _ wd53) (by decide) f699_0 (hw _ wd55) (hw _ wd2) (rm827_10 B b682 u9 p3 b684_0 k684_0 p0 p1 p2 _ O699 f699_1 f699_2 c828 hc706 hc741 hc781) rfl hml rfl pd2 rfl (W := 0) (argsL := [(.int u9), (.int p3)]) (rest := []) rfl rfl at_135 138 rfl ?_
        intro v829 T829 L829 hq829 X829
        obtain ⟨rfl, e829, rfl⟩ := hq829
        have N829 := Fr.app N699 (Fr.nil _)
        show Go _ _ _ _ (State.setTop _ (mkF _ 138 _ []))
        refine gIload X829 H at_138 rfl 140 rfl ?_
        refine gIfN X829 H at_140 (by decide) 143 rfl ?_
        refine gIloadN X829 H at_143 rfl 144 rfl ?_
        refine gIload X829 H at_144 rfl 146 rfl ?_
        refine gCmpY X829 H at_146 (feq hc706).2 (by decide) 155 rfl ?_
        refine gIload X829 H at_155 rfl 157 rfl ?_
        refine gIconst X829 H at_157 (z := 1) rfl 158 rfl ?_
        refine gCmpN X829 H at_158 (by decide) 161 rfl ?_
        refine gIloadN X829 H at_161 rfl 162 rfl ?_
        refine gIload X829 H at_162 rfl 164 rfl ?_
        refine gCmpY X829 H at_164 (feq hc741).2 (by decide) 173 rfl ?_
        refine gIload X829 H at_173 rfl 175 rfl ?_
        refine gIconst X829 H at_175 (z := 2) rfl 176 rfl ?_
        refine gCmpN X829 H at_176 (by decide) 179 rfl ?_
        refine gIloadN X829 H at_179 rfl 180 rfl ?_
        refine gIload X829 H at_180 rfl 182 rfl ?_
        refine gCmpY X829 H at_182 (feq hc781).2 (by decide) 191 rfl ?_
        refine gIconst X829 H at_191 (z := (-1)) rfl 192 rfl ?_
        refine gIstore X829 H at_192 (Ls' := #[vI p0, vI p1, vI p2, vI p3, vI p4, vI p5, vI 3, vI 3, vI u8, vI u9, vR b682, vI (-1), .unset]) rfl 194 rfl ?_
        refine gAload X829 H at_194 rfl rfl 196 rfl ?_
        refine gVirt X829 H hZ hown (hw _ wd56) (hw _ wd57) (hw _ wd59) (hw _ wd58) (by decide) f699_0 (hw _ wd60) (hw _ wd2) (rm724_11 B b682 _ O699 f699_1) e829 hml rfl pd3 rfl (W := 0) (argsL := []) (rest := []) rfl rfl at_196 199 rfl ?_
        intro v830 T830 L830 hq830 X830
        obtain ⟨rfl, e830, rfl⟩ := hq830
        have N830 := Fr.app N829 (Fr.nil _)
        show Go _ _ _ _ (State.setTop _ (mkF _ 199 _ [(.int 3)]))
        refine gIload X830 H at_199 rfl 201 rfl ?_
        refine gCmpN X830 H at_201 (by decide) 204 rfl ?_
        refine gIconst X830 H at_204 (z := 1) rfl 205 rfl ?_
        refine gGoto X830 H at_205 (by decide) 209 rfl ?_
        refine gIstore X830 H at_209 (Ls' := #[vI p0, vI p1, vI p2, vI p3, vI p4, vI p5, vI 3, vI 3, vI u8, vI u9, vR b682, vI (-1), vI 1]) rfl 211 rfl ?_
        refine gIload X830 H at_211 rfl 213 rfl ?_
        refine gIfN X830 H at_213 (by decide) 216 rfl ?_
        refine gIload X830 H at_216 rfl 218 rfl ?_
        refine gIfN X830 H at_218 (by decide) 221 rfl ?_
        refine gAload X830 H at_221 rfl rfl 223 rfl ?_
        refine gIconst X830 H at_223 (z := 0) rfl 224 rfl ?_
        refine gVirt X830 H hZ hown (hw _ wd61) (hw _ wd62) (hw _ wd64) (hw _ wd63) (by decide) f699_0 (hw _ wd65) (hw _ wd2) (rm490_12 B b682 b684_0 k684_0 p0 p1 p2 _ O699 f699_2 c828) e830 hml rfl pd6 rfl (W := 0) (argsL := [(.int 0)]) (rest := []) rfl rfl at_224 227 rfl ?_
        intro v831 T831 L831 hq831 X831
        obtain ⟨rfl, e831, rfl⟩ := hq831
        have N831 := Fr.app N830 (Fr.nil _)
        show Go _ _ _ _ (State.setTop _ (mkF _ 227 _ [(.int p0)]))
        refine gIload X831 H at_227 rfl 229 rfl ?_
        refine gIfY X831 H at_229 (by decide) (by decide) 236 rfl ?_
        refine gIloadN X831 H at_236 rfl 237 rfl ?_
        refine gCmpN X831 H at_237 (teq rfl).2 240 rfl ?_
        refine gIconst X831 H at_240 (z := 1) rfl 241 rfl ?_
        refine gGoto X831 H at_241 (by decide) 245 rfl ?_
        refine gIstore X831 H at_245 (Ls' := #[vI p0, vI p1, vI p2, vI p3, vI p4, vI p5, vI 3, vI 3, vI u8, vI u9, vR b682, vI (-1), vI 1]) rfl 247 rfl ?_
        refine gIload X831 H at_247 rfl 249 rfl ?_
        refine gIconst X831 H at_249 (z := 1) rfl 250 rfl ?_
        refine gCmpN X831 H at_250 (by decide) 253 rfl ?_
        refine gIload X831 H at_253 rfl 255 rfl ?_
        refine gIfN X831 H at_255 (by decide) 258 rfl ?_
        refine gAload X831 H at_258 rfl rfl 260 rfl ?_
        refine gIconst X831 H at_260 (z := 1) rfl 261 rfl ?_
        refine gVirt X831 H hZ hown (hw _ wd61) (hw _ wd62) (hw _ wd64) (hw _ wd63) (by decide) f699_0 (hw _ wd65) (hw _ wd2) (rm497_12 B b682 b684_0 k684_0 p0 p1 p2 _ O699 f699_2 c828) e831 hml rfl pd6 rfl (W := 0) (argsL := [(.int 1)]) (rest := []) rfl rfl at_261 264 rfl ?_
        intro v832 T832 L832 hq832 X832
        obtain ⟨rfl, e832, rfl⟩ := hq832
        have N832 := Fr.app N831 (Fr.nil _)
        show Go _ _ _ _ (State.setTop _ (mkF _ 264 _ [(.int p1)]))
        refine gIload X832 H at_264 rfl 266 rfl ?_
        refine gIconst X832 H at_266 (z := 1) rfl 267 rfl ?_
        refine gCmpY X832 H at_267 (by decide) (by decide) 274 rfl ?_
        refine gIloadN X832 H at_274 rfl 275 rfl ?_
        refine gCmpN X832 H at_275 (teq rfl).2 278 rfl ?_
        refine gIconst X832 H at_278 (z := 1) rfl 279 rfl ?_
        refine gGoto X832 H at_279 (by decide) 283 rfl ?_
        refine gIstore X832 H at_283 (Ls' := #[vI p0, vI p1, vI p2, vI p3, vI p4, vI p5, vI 3, vI 3, vI u8, vI u9, vR b682, vI (-1), vI 1]) rfl 285 rfl ?_
        refine gIload X832 H at_285 rfl 287 rfl ?_
        refine gIconst X832 H at_287 (z := 2) rfl 288 rfl ?_
        refine gCmpN X832 H at_288 (by decide) 291 rfl ?_
        refine gIload X832 H at_291 rfl 293 rfl ?_
        refine gIfN X832 H at_293 (by decide) 296 rfl ?_
        refine gAload X832 H at_296 rfl rfl 298 rfl ?_
        refine gIconst X832 H at_298 (z := 2) rfl 299 rfl ?_
        refine gVirt X832 H hZ hown (hw _ wd61) (hw _ wd62) (hw _ wd64) (hw _ wd63) (by decide) f699_0 (hw _ wd65) (hw _ wd2) (rm503_12 B b682 b684_0 k684_0 p0 p1 p2 _ O699 f699_2 c828) e832 hml rfl pd6 rfl (W := 0) (argsL := [(.int 2)]) (rest := []) rfl rfl at_299 302 rfl ?_
        intro v833 T833 L833 hq833 X833
        obtain ⟨rfl, e833, rfl⟩ := hq833
        have N833 := Fr.app N832 (Fr.nil _)
        show Go _ _ _ _ (State.setTop _ (mkF _ 302 _ [(.int p2)]))
        refine gIload X833 H at_302 rfl 304 rfl ?_
        refine gIconst X833 H at_304 (z := 2) rfl 305 rfl ?_
        refine gCmpY X833 H at_305 (by decide) (by decide) 312 rfl ?_
        refine gIloadN X833 H at_312 rfl 313 rfl ?_
        refine gCmpN X833 H at_313 (teq rfl).2 316 rfl ?_
        refine gIconst X833 H at_316 (z := 1) rfl 317 rfl ?_
        refine gGoto X833 H at_317 (by decide) 321 rfl ?_
        refine gIstore X833 H at_321 (Ls' := #[vI p0, vI p1, vI p2, vI p3, vI p4, vI p5, vI 3, vI 3, vI u8, vI u9, vR b682, vI (-1), vI 1]) rfl 323 rfl ?_
        refine gIload X833 H at_323 rfl 325 rfl ?_
        exact gRetN X833 H hlk hret (t := .boolean) (by simp) at_325 e833 ⟨rfl, N833⟩
theorem lawAll_3 (B : Bg Z a0 w_Trail_NO_ROOM k_w_Trail_NO_ROOM) (p0 : Int32) (p1 : Int32) (p2 : Int32) (p3 : Int32) (p4 : Int32) (p5 : Int32) (ha0 : (p5 &&& (3 : Int32)) = (3 : Int32)) :
    Con l Z x code maxLocals ret room_1 #[(.int p0), (.int p1), (.int p2), (.int p3), (.int p4), (.int p5)] Z.heap (fun v h' L => v = some (.int 1) ∧ Fr Z.heap.size L) := by
  have hw := B.1
  obtain ⟨S_w_Trail_NO_ROOM, V_w_Trail_NO_ROOM⟩ := B.2
  refine Con.of (plainFor_of_name pn0) (Ls := #[vI p0, vI p1, vI p2, vI p3, vI p4, vI p5, .unset, .unset, .unset, .unset, .unset, .unset, .unset]) (fun _ => rfl) ?_
  intro p e s m below meth c T0 X0 H hml hZ hown hnm hret hlk e0
  have O0 := extR Z.heap
  have M0 := Nat.le_refl Z.heap.size
  have N0 := Fr.nil Z.heap.size
  refine gIload X0 H at_0 rfl 2 rfl ?_
  refine gIconst X0 H at_2 (z := 3) rfl 3 rfl ?_
  refine g_iand X0 H at_3 (z := 3) ha0 4 rfl ?_
  refine gIstore X0 H at_4 (Ls' := #[vI p0, vI p1, vI p2, vI p3, vI p4, vI p5, vI 3, .unset, .unset, .unset, .unset, .unset, .unset]) rfl 6 rfl ?_
  refine gIload X0 H at_6 rfl 8 rfl ?_
  refine gIconst X0 H at_8 (z := 2) rfl 9 rfl ?_
  refine g_iushr X0 H at_9 (z := ((p5.toUInt32 >>> ((2 : Int32) &&& 31).toUInt32).toInt32)) rfl 10 rfl ?_
  refine gIconst X0 H at_10 (z := 3) rfl 11 rfl ?_
  refine g_iand X0 H at_11 (z := (((p5.toUInt32 >>> ((2 : Int32) &&& 31).toUInt32).toInt32) &&& (3 : Int32))) rfl 12 rfl ?_
  refine gIload X0 H at_12 rfl 14 rfl ?_
  refine gIconst X0 H at_14 (z := 1) rfl 15 rfl ?_
  refine g_iadd X0 H at_15 (z := 4) (by decide) 16 rfl ?_
  rcases mm3_4 ((p5.toUInt32 >>> ((2 : Int32) &&& 31).toUInt32).toInt32) with hn432 | hn432 | hn432 | hn432
  · refine g_irem X0 H at_16 (by decide) (z := 0) hn432 17 rfl ?_
    refine gIstore X0 H at_17 (Ls' := #[vI p0, vI p1, vI p2, vI p3, vI p4, vI p5, vI 3, vI 0, .unset, .unset, .unset, .unset, .unset]) rfl 19 rfl ?_
    refine gIload X0 H at_19 rfl 21 rfl ?_
    refine gIconst X0 H at_21 (z := 4) rfl 22 rfl ?_
    refine g_iushr X0 H at_22 (z := ((p5.toUInt32 >>> ((4 : Int32) &&& 31).toUInt32).toInt32)) rfl 23 rfl ?_
    refine gBipush X0 H at_23 (z := 7) rfl 25 rfl ?_
    refine g_iand X0 H at_25 (z := (((p5.toUInt32 >>> ((4 : Int32) &&& 31).toUInt32).toInt32) &&& (7 : Int32))) rfl 26 rfl ?_
    refine gIstore X0 H at_26 (Ls' := #[vI p0, vI p1, vI p2, vI p3, vI p4, vI p5, vI 3, vI 0, vI (((p5.toUInt32 >>> ((4 : Int32) &&& 31).toUInt32).toInt32) &&& (7 : Int32)), .unset, .unset, .unset, .unset]) rfl 28 rfl ?_
    refine gIload X0 H at_28 rfl 30 rfl ?_
    by_cases hc433 : (((p5.toUInt32 >>> ((4 : Int32) &&& 31).toUInt32).toInt32) &&& (7 : Int32)) = (0 : Int32)
    · refine gIfN X0 H at_30 ((if0 _ _).trans (teq hc433).2) 33 rfl ?_
      refine gIloadN X0 H at_33 rfl 34 rfl ?_
      refine gIstore X0 H at_34 (Ls' := #[vI p0, vI p1, vI p2, vI p3, vI p4, vI p5, vI 3, vI 0, vI (((p5.toUInt32 >>> ((4 : Int32) &&& 31).toUInt32).toInt32) &&& (7 : Int32)), vI p0, .unset, .unset, .unset]) rfl 36 rfl ?_
      refine gGoto X0 H at_36 (by decide) 79 rfl ?_
      exact cut434_79 B p0 p1 p2 p3 p4 p5 ((((p5.toUInt32 >>> ((4 : Int32) &&& 31).toUInt32).toInt32) &&& (7 : Int32))) p0 X0 H hml hZ hown hnm hret hlk e0
    · refine gIfY X0 H at_30 ((if0 _ _).trans (feq hc433).2) (by decide) 39 rfl ?_
      refine gIload X0 H at_39 rfl 41 rfl ?_
      refine gIconst X0 H at_41 (z := 1) rfl 42 rfl ?_
      by_cases hc505 : (((p5.toUInt32 >>> ((4 : Int32) &&& 31).toUInt32).toInt32) &&& (7 : Int32)) = (1 : Int32)
      · refine gCmpN X0 H at_42 (teq hc505).2 45 rfl ?_
        refine gIloadN X0 H at_45 rfl 46 rfl ?_
        refine gIstore X0 H at_46 (Ls' := #[vI p0, vI p1, vI p2, vI p3, vI p4, vI p5, vI 3, vI 0, vI (((p5.toUInt32 >>> ((4 : Int32) &&& 31).toUInt32).toInt32) &&& (7 : Int32)), vI p1, .unset, .unset, .unset]) rfl 48 rfl ?_
        refine gGoto X0 H at_48 (by decide) 79 rfl ?_
        exact cut434_79 B p0 p1 p2 p3 p4 p5 ((((p5.toUInt32 >>> ((4 : Int32) &&& 31).toUInt32).toInt32) &&& (7 : Int32))) p1 X0 H hml hZ hown hnm hret hlk e0
      · refine gCmpY X0 H at_42 (feq hc505).2 (by decide) 51 rfl ?_
        refine gIload X0 H at_51 rfl 53 rfl ?_
        refine gIconst X0 H at_53 (z := 2) rfl 54 rfl ?_
        by_cases hc506 : (((p5.toUInt32 >>> ((4 : Int32) &&& 31).toUInt32).toInt32) &&& (7 : Int32)) = (2 : Int32)
        · refine gCmpN X0 H at_54 (teq hc506).2 57 rfl ?_
          refine gIloadN X0 H at_57 rfl 58 rfl ?_
          refine gIstore X0 H at_58 (Ls' := #[vI p0, vI p1, vI p2, vI p3, vI p4, vI p5, vI 3, vI 0, vI (((p5.toUInt32 >>> ((4 : Int32) &&& 31).toUInt32).toInt32) &&& (7 : Int32)), vI p2, .unset, .unset, .unset]) rfl 60 rfl ?_
          refine gGoto X0 H at_60 (by decide) 79 rfl ?_
          exact cut434_79 B p0 p1 p2 p3 p4 p5 ((((p5.toUInt32 >>> ((4 : Int32) &&& 31).toUInt32).toInt32) &&& (7 : Int32))) p2 X0 H hml hZ hown hnm hret hlk e0
        · refine gCmpY X0 H at_54 (feq hc506).2 (by decide) 63 rfl ?_
          refine gIload X0 H at_63 rfl 65 rfl ?_
          refine gIconst X0 H at_65 (z := 3) rfl 66 rfl ?_
          by_cases hc507 : (((p5.toUInt32 >>> ((4 : Int32) &&& 31).toUInt32).toInt32) &&& (7 : Int32)) = (3 : Int32)
          · refine gCmpN X0 H at_66 (teq hc507).2 69 rfl ?_
            refine gIloadN X0 H at_69 rfl 70 rfl ?_
            refine gIstore X0 H at_70 (Ls' := #[vI p0, vI p1, vI p2, vI p3, vI p4, vI p5, vI 3, vI 0, vI (((p5.toUInt32 >>> ((4 : Int32) &&& 31).toUInt32).toInt32) &&& (7 : Int32)), vI p3, .unset, .unset, .unset]) rfl 72 rfl ?_
            refine gGoto X0 H at_72 (by decide) 79 rfl ?_
            exact cut434_79 B p0 p1 p2 p3 p4 p5 ((((p5.toUInt32 >>> ((4 : Int32) &&& 31).toUInt32).toInt32) &&& (7 : Int32))) p3 X0 H hml hZ hown hnm hret hlk e0
          · refine gCmpY X0 H at_66 (feq hc507).2 (by decide) 75 rfl ?_
            refine gIload X0 H at_75 rfl 77 rfl ?_
            refine gIstore X0 H at_77 (Ls' := #[vI p0, vI p1, vI p2, vI p3, vI p4, vI p5, vI 3, vI 0, vI (((p5.toUInt32 >>> ((4 : Int32) &&& 31).toUInt32).toInt32) &&& (7 : Int32)), vI p4, .unset, .unset, .unset]) rfl 79 rfl ?_
            exact cut434_79 B p0 p1 p2 p3 p4 p5 ((((p5.toUInt32 >>> ((4 : Int32) &&& 31).toUInt32).toInt32) &&& (7 : Int32))) p4 X0 H hml hZ hown hnm hret hlk e0
  · refine g_irem X0 H at_16 (by decide) (z := 1) hn432 17 rfl ?_
    refine gIstore X0 H at_17 (Ls' := #[vI p0, vI p1, vI p2, vI p3, vI p4, vI p5, vI 3, vI 1, .unset, .unset, .unset, .unset, .unset]) rfl 19 rfl ?_
    refine gIload X0 H at_19 rfl 21 rfl ?_
    refine gIconst X0 H at_21 (z := 4) rfl 22 rfl ?_
    refine g_iushr X0 H at_22 (z := ((p5.toUInt32 >>> ((4 : Int32) &&& 31).toUInt32).toInt32)) rfl 23 rfl ?_
    refine gBipush X0 H at_23 (z := 7) rfl 25 rfl ?_
    refine g_iand X0 H at_25 (z := (((p5.toUInt32 >>> ((4 : Int32) &&& 31).toUInt32).toInt32) &&& (7 : Int32))) rfl 26 rfl ?_
    refine gIstore X0 H at_26 (Ls' := #[vI p0, vI p1, vI p2, vI p3, vI p4, vI p5, vI 3, vI 1, vI (((p5.toUInt32 >>> ((4 : Int32) &&& 31).toUInt32).toInt32) &&& (7 : Int32)), .unset, .unset, .unset, .unset]) rfl 28 rfl ?_
    refine gIload X0 H at_28 rfl 30 rfl ?_
    by_cases hc508 : (((p5.toUInt32 >>> ((4 : Int32) &&& 31).toUInt32).toInt32) &&& (7 : Int32)) = (0 : Int32)
    · refine gIfN X0 H at_30 ((if0 _ _).trans (teq hc508).2) 33 rfl ?_
      refine gIloadN X0 H at_33 rfl 34 rfl ?_
      refine gIstore X0 H at_34 (Ls' := #[vI p0, vI p1, vI p2, vI p3, vI p4, vI p5, vI 3, vI 1, vI (((p5.toUInt32 >>> ((4 : Int32) &&& 31).toUInt32).toInt32) &&& (7 : Int32)), vI p0, .unset, .unset, .unset]) rfl 36 rfl ?_
      refine gGoto X0 H at_36 (by decide) 79 rfl ?_
      exact cut509_79 B p0 p1 p2 p3 p4 p5 ((((p5.toUInt32 >>> ((4 : Int32) &&& 31).toUInt32).toInt32) &&& (7 : Int32))) p0 X0 H hml hZ hown hnm hret hlk e0
    · refine gIfY X0 H at_30 ((if0 _ _).trans (feq hc508).2) (by decide) 39 rfl ?_
      refine gIload X0 H at_39 rfl 41 rfl ?_
      refine gIconst X0 H at_41 (z := 1) rfl 42 rfl ?_
      by_cases hc571 : (((p5.toUInt32 >>> ((4 : Int32) &&& 31).toUInt32).toInt32) &&& (7 : Int32)) = (1 : Int32)
      · refine gCmpN X0 H at_42 (teq hc571).2 45 rfl ?_
        refine gIloadN X0 H at_45 rfl 46 rfl ?_
        refine gIstore X0 H at_46 (Ls' := #[vI p0, vI p1, vI p2, vI p3, vI p4, vI p5, vI 3, vI 1, vI (((p5.toUInt32 >>> ((4 : Int32) &&& 31).toUInt32).toInt32) &&& (7 : Int32)), vI p1, .unset, .unset, .unset]) rfl 48 rfl ?_
        refine gGoto X0 H at_48 (by decide) 79 rfl ?_
        exact cut509_79 B p0 p1 p2 p3 p4 p5 ((((p5.toUInt32 >>> ((4 : Int32) &&& 31).toUInt32).toInt32) &&& (7 : Int32))) p1 X0 H hml hZ hown hnm hret hlk e0
      · refine gCmpY X0 H at_42 (feq hc571).2 (by decide) 51 rfl ?_
        refine gIload X0 H at_51 rfl 53 rfl ?_
        refine gIconst X0 H at_53 (z := 2) rfl 54 rfl ?_
        by_cases hc572 : (((p5.toUInt32 >>> ((4 : Int32) &&& 31).toUInt32).toInt32) &&& (7 : Int32)) = (2 : Int32)
        · refine gCmpN X0 H at_54 (teq hc572).2 57 rfl ?_
          refine gIloadN X0 H at_57 rfl 58 rfl ?_
          refine gIstore X0 H at_58 (Ls' := #[vI p0, vI p1, vI p2, vI p3, vI p4, vI p5, vI 3, vI 1, vI (((p5.toUInt32 >>> ((4 : Int32) &&& 31).toUInt32).toInt32) &&& (7 : Int32)), vI p2, .unset, .unset, .unset]) rfl 60 rfl ?_
          refine gGoto X0 H at_60 (by decide) 79 rfl ?_
          exact cut509_79 B p0 p1 p2 p3 p4 p5 ((((p5.toUInt32 >>> ((4 : Int32) &&& 31).toUInt32).toInt32) &&& (7 : Int32))) p2 X0 H hml hZ hown hnm hret hlk e0
        · refine gCmpY X0 H at_54 (feq hc572).2 (by decide) 63 rfl ?_
          refine gIload X0 H at_63 rfl 65 rfl ?_
          refine gIconst X0 H at_65 (z := 3) rfl 66 rfl ?_
          by_cases hc573 : (((p5.toUInt32 >>> ((4 : Int32) &&& 31).toUInt32).toInt32) &&& (7 : Int32)) = (3 : Int32)
          · refine gCmpN X0 H at_66 (teq hc573).2 69 rfl ?_
            refine gIloadN X0 H at_69 rfl 70 rfl ?_
            refine gIstore X0 H at_70 (Ls' := #[vI p0, vI p1, vI p2, vI p3, vI p4, vI p5, vI 3, vI 1, vI (((p5.toUInt32 >>> ((4 : Int32) &&& 31).toUInt32).toInt32) &&& (7 : Int32)), vI p3, .unset, .unset, .unset]) rfl 72 rfl ?_
            refine gGoto X0 H at_72 (by decide) 79 rfl ?_
            exact cut509_79 B p0 p1 p2 p3 p4 p5 ((((p5.toUInt32 >>> ((4 : Int32) &&& 31).toUInt32).toInt32) &&& (7 : Int32))) p3 X0 H hml hZ hown hnm hret hlk e0
          · refine gCmpY X0 H at_66 (feq hc573).2 (by decide) 75 rfl ?_
            refine gIload X0 H at_75 rfl 77 rfl ?_
            refine gIstore X0 H at_77 (Ls' := #[vI p0, vI p1, vI p2, vI p3, vI p4, vI p5, vI 3, vI 1, vI (((p5.toUInt32 >>> ((4 : Int32) &&& 31).toUInt32).toInt32) &&& (7 : Int32)), vI p4, .unset, .unset, .unset]) rfl 79 rfl ?_
            exact cut509_79 B p0 p1 p2 p3 p4 p5 ((((p5.toUInt32 >>> ((4 : Int32) &&& 31).toUInt32).toInt32) &&& (7 : Int32))) p4 X0 H hml hZ hown hnm hret hlk e0
  · refine g_irem X0 H at_16 (by decide) (z := 2) hn432 17 rfl ?_
    refine gIstore X0 H at_17 (Ls' := #[vI p0, vI p1, vI p2, vI p3, vI p4, vI p5, vI 3, vI 2, .unset, .unset, .unset, .unset, .unset]) rfl 19 rfl ?_
    refine gIload X0 H at_19 rfl 21 rfl ?_
    refine gIconst X0 H at_21 (z := 4) rfl 22 rfl ?_
    refine g_iushr X0 H at_22 (z := ((p5.toUInt32 >>> ((4 : Int32) &&& 31).toUInt32).toInt32)) rfl 23 rfl ?_
    refine gBipush X0 H at_23 (z := 7) rfl 25 rfl ?_
    refine g_iand X0 H at_25 (z := (((p5.toUInt32 >>> ((4 : Int32) &&& 31).toUInt32).toInt32) &&& (7 : Int32))) rfl 26 rfl ?_
    refine gIstore X0 H at_26 (Ls' := #[vI p0, vI p1, vI p2, vI p3, vI p4, vI p5, vI 3, vI 2, vI (((p5.toUInt32 >>> ((4 : Int32) &&& 31).toUInt32).toInt32) &&& (7 : Int32)), .unset, .unset, .unset, .unset]) rfl 28 rfl ?_
    refine gIload X0 H at_28 rfl 30 rfl ?_
    by_cases hc574 : (((p5.toUInt32 >>> ((4 : Int32) &&& 31).toUInt32).toInt32) &&& (7 : Int32)) = (0 : Int32)
    · refine gIfN X0 H at_30 ((if0 _ _).trans (teq hc574).2) 33 rfl ?_
      refine gIloadN X0 H at_33 rfl 34 rfl ?_
      refine gIstore X0 H at_34 (Ls' := #[vI p0, vI p1, vI p2, vI p3, vI p4, vI p5, vI 3, vI 2, vI (((p5.toUInt32 >>> ((4 : Int32) &&& 31).toUInt32).toInt32) &&& (7 : Int32)), vI p0, .unset, .unset, .unset]) rfl 36 rfl ?_
      refine gGoto X0 H at_36 (by decide) 79 rfl ?_
      exact cut575_79 B p0 p1 p2 p3 p4 p5 ((((p5.toUInt32 >>> ((4 : Int32) &&& 31).toUInt32).toInt32) &&& (7 : Int32))) p0 X0 H hml hZ hown hnm hret hlk e0
    · refine gIfY X0 H at_30 ((if0 _ _).trans (feq hc574).2) (by decide) 39 rfl ?_
      refine gIload X0 H at_39 rfl 41 rfl ?_
      refine gIconst X0 H at_41 (z := 1) rfl 42 rfl ?_
      by_cases hc677 : (((p5.toUInt32 >>> ((4 : Int32) &&& 31).toUInt32).toInt32) &&& (7 : Int32)) = (1 : Int32)
      · refine gCmpN X0 H at_42 (teq hc677).2 45 rfl ?_
        refine gIloadN X0 H at_45 rfl 46 rfl ?_
        refine gIstore X0 H at_46 (Ls' := #[vI p0, vI p1, vI p2, vI p3, vI p4, vI p5, vI 3, vI 2, vI (((p5.toUInt32 >>> ((4 : Int32) &&& 31).toUInt32).toInt32) &&& (7 : Int32)), vI p1, .unset, .unset, .unset]) rfl 48 rfl ?_
        refine gGoto X0 H at_48 (by decide) 79 rfl ?_
        exact cut575_79 B p0 p1 p2 p3 p4 p5 ((((p5.toUInt32 >>> ((4 : Int32) &&& 31).toUInt32).toInt32) &&& (7 : Int32))) p1 X0 H hml hZ hown hnm hret hlk e0
      · refine gCmpY X0 H at_42 (feq hc677).2 (by decide) 51 rfl ?_
        refine gIload X0 H at_51 rfl 53 rfl ?_
        refine gIconst X0 H at_53 (z := 2) rfl 54 rfl ?_
        by_cases hc678 : (((p5.toUInt32 >>> ((4 : Int32) &&& 31).toUInt32).toInt32) &&& (7 : Int32)) = (2 : Int32)
        · refine gCmpN X0 H at_54 (teq hc678).2 57 rfl ?_
          refine gIloadN X0 H at_57 rfl 58 rfl ?_
          refine gIstore X0 H at_58 (Ls' := #[vI p0, vI p1, vI p2, vI p3, vI p4, vI p5, vI 3, vI 2, vI (((p5.toUInt32 >>> ((4 : Int32) &&& 31).toUInt32).toInt32) &&& (7 : Int32)), vI p2, .unset, .unset, .unset]) rfl 60 rfl ?_
          refine gGoto X0 H at_60 (by decide) 79 rfl ?_
          exact cut575_79 B p0 p1 p2 p3 p4 p5 ((((p5.toUInt32 >>> ((4 : Int32) &&& 31).toUInt32).toInt32) &&& (7 : Int32))) p2 X0 H hml hZ hown hnm hret hlk e0
        · refine gCmpY X0 H at_54 (feq hc678).2 (by decide) 63 rfl ?_
          refine gIload X0 H at_63 rfl 65 rfl ?_
          refine gIconst X0 H at_65 (z := 3) rfl 66 rfl ?_
          by_cases hc679 : (((p5.toUInt32 >>> ((4 : Int32) &&& 31).toUInt32).toInt32) &&& (7 : Int32)) = (3 : Int32)
          · refine gCmpN X0 H at_66 (teq hc679).2 69 rfl ?_
            refine gIloadN X0 H at_69 rfl 70 rfl ?_
            refine gIstore X0 H at_70 (Ls' := #[vI p0, vI p1, vI p2, vI p3, vI p4, vI p5, vI 3, vI 2, vI (((p5.toUInt32 >>> ((4 : Int32) &&& 31).toUInt32).toInt32) &&& (7 : Int32)), vI p3, .unset, .unset, .unset]) rfl 72 rfl ?_
            refine gGoto X0 H at_72 (by decide) 79 rfl ?_
            exact cut575_79 B p0 p1 p2 p3 p4 p5 ((((p5.toUInt32 >>> ((4 : Int32) &&& 31).toUInt32).toInt32) &&& (7 : Int32))) p3 X0 H hml hZ hown hnm hret hlk e0
          · refine gCmpY X0 H at_66 (feq hc679).2 (by decide) 75 rfl ?_
            refine gIload X0 H at_75 rfl 77 rfl ?_
            refine gIstore X0 H at_77 (Ls' := #[vI p0, vI p1, vI p2, vI p3, vI p4, vI p5, vI 3, vI 2, vI (((p5.toUInt32 >>> ((4 : Int32) &&& 31).toUInt32).toInt32) &&& (7 : Int32)), vI p4, .unset, .unset, .unset]) rfl 79 rfl ?_
            exact cut575_79 B p0 p1 p2 p3 p4 p5 ((((p5.toUInt32 >>> ((4 : Int32) &&& 31).toUInt32).toInt32) &&& (7 : Int32))) p4 X0 H hml hZ hown hnm hret hlk e0
  · refine g_irem X0 H at_16 (by decide) (z := 3) hn432 17 rfl ?_
    refine gIstore X0 H at_17 (Ls' := #[vI p0, vI p1, vI p2, vI p3, vI p4, vI p5, vI 3, vI 3, .unset, .unset, .unset, .unset, .unset]) rfl 19 rfl ?_
    refine gIload X0 H at_19 rfl 21 rfl ?_
    refine gIconst X0 H at_21 (z := 4) rfl 22 rfl ?_
    refine g_iushr X0 H at_22 (z := ((p5.toUInt32 >>> ((4 : Int32) &&& 31).toUInt32).toInt32)) rfl 23 rfl ?_
    refine gBipush X0 H at_23 (z := 7) rfl 25 rfl ?_
    refine g_iand X0 H at_25 (z := (((p5.toUInt32 >>> ((4 : Int32) &&& 31).toUInt32).toInt32) &&& (7 : Int32))) rfl 26 rfl ?_
    refine gIstore X0 H at_26 (Ls' := #[vI p0, vI p1, vI p2, vI p3, vI p4, vI p5, vI 3, vI 3, vI (((p5.toUInt32 >>> ((4 : Int32) &&& 31).toUInt32).toInt32) &&& (7 : Int32)), .unset, .unset, .unset, .unset]) rfl 28 rfl ?_
    refine gIload X0 H at_28 rfl 30 rfl ?_
    by_cases hc680 : (((p5.toUInt32 >>> ((4 : Int32) &&& 31).toUInt32).toInt32) &&& (7 : Int32)) = (0 : Int32)
    · refine gIfN X0 H at_30 ((if0 _ _).trans (teq hc680).2) 33 rfl ?_
      refine gIloadN X0 H at_33 rfl 34 rfl ?_
      refine gIstore X0 H at_34 (Ls' := #[vI p0, vI p1, vI p2, vI p3, vI p4, vI p5, vI 3, vI 3, vI (((p5.toUInt32 >>> ((4 : Int32) &&& 31).toUInt32).toInt32) &&& (7 : Int32)), vI p0, .unset, .unset, .unset]) rfl 36 rfl ?_
      refine gGoto X0 H at_36 (by decide) 79 rfl ?_
      exact cut681_79 B p0 p1 p2 p3 p4 p5 ((((p5.toUInt32 >>> ((4 : Int32) &&& 31).toUInt32).toInt32) &&& (7 : Int32))) p0 X0 H hml hZ hown hnm hret hlk e0
    · refine gIfY X0 H at_30 ((if0 _ _).trans (feq hc680).2) (by decide) 39 rfl ?_
      refine gIload X0 H at_39 rfl 41 rfl ?_
      refine gIconst X0 H at_41 (z := 1) rfl 42 rfl ?_
      by_cases hc834 : (((p5.toUInt32 >>> ((4 : Int32) &&& 31).toUInt32).toInt32) &&& (7 : Int32)) = (1 : Int32)
      · refine gCmpN X0 H at_42 (teq hc834).2 45 rfl ?_
        refine gIloadN X0 H at_45 rfl 46 rfl ?_
        refine gIstore X0 H at_46 (Ls' := #[vI p0, vI p1, vI p2, vI p3, vI p4, vI p5, vI 3, vI 3, vI (((p5.toUInt32 >>> ((4 : Int32) &&& 31).toUInt32).toInt32) &&& (7 : Int32)), vI p1, .unset, .unset, .unset]) rfl 48 rfl ?_
        refine gGoto X0 H at_48 (by decide) 79 rfl ?_
        exact cut681_79 B p0 p1 p2 p3 p4 p5 ((((p5.toUInt32 >>> ((4 : Int32) &&& 31).toUInt32).toInt32) &&& (7 : Int32))) p1 X0 H hml hZ hown hnm hret hlk e0
      · refine gCmpY X0 H at_42 (feq hc834).2 (by decide) 51 rfl ?_
        refine gIload X0 H at_51 rfl 53 rfl ?_
        refine gIconst X0 H at_53 (z := 2) rfl 54 rfl ?_
        by_cases hc835 : (((p5.toUInt32 >>> ((4 : Int32) &&& 31).toUInt32).toInt32) &&& (7 : Int32)) = (2 : Int32)
        · refine gCmpN X0 H at_54 (teq hc835).2 57 rfl ?_
          refine gIloadN X0 H at_57 rfl 58 rfl ?_
          refine gIstore X0 H at_58 (Ls' := #[vI p0, vI p1, vI p2, vI p3, vI p4, vI p5, vI 3, vI 3, vI (((p5.toUInt32 >>> ((4 : Int32) &&& 31).toUInt32).toInt32) &&& (7 : Int32)), vI p2, .unset, .unset, .unset]) rfl 60 rfl ?_
          refine gGoto X0 H at_60 (by decide) 79 rfl ?_
          exact cut681_79 B p0 p1 p2 p3 p4 p5 ((((p5.toUInt32 >>> ((4 : Int32) &&& 31).toUInt32).toInt32) &&& (7 : Int32))) p2 X0 H hml hZ hown hnm hret hlk e0
        · refine gCmpY X0 H at_54 (feq hc835).2 (by decide) 63 rfl ?_
          refine gIload X0 H at_63 rfl 65 rfl ?_
          refine gIconst X0 H at_65 (z := 3) rfl 66 rfl ?_
          by_cases hc836 : (((p5.toUInt32 >>> ((4 : Int32) &&& 31).toUInt32).toInt32) &&& (7 : Int32)) = (3 : Int32)
          · refine gCmpN X0 H at_66 (teq hc836).2 69 rfl ?_
            refine gIloadN X0 H at_69 rfl 70 rfl ?_
            refine gIstore X0 H at_70 (Ls' := #[vI p0, vI p1, vI p2, vI p3, vI p4, vI p5, vI 3, vI 3, vI (((p5.toUInt32 >>> ((4 : Int32) &&& 31).toUInt32).toInt32) &&& (7 : Int32)), vI p3, .unset, .unset, .unset]) rfl 72 rfl ?_
            refine gGoto X0 H at_72 (by decide) 79 rfl ?_
            exact cut681_79 B p0 p1 p2 p3 p4 p5 ((((p5.toUInt32 >>> ((4 : Int32) &&& 31).toUInt32).toInt32) &&& (7 : Int32))) p3 X0 H hml hZ hown hnm hret hlk e0
          · refine gCmpY X0 H at_66 (feq hc836).2 (by decide) 75 rfl ?_
            refine gIload X0 H at_75 rfl 77 rfl ?_
            refine gIstore X0 H at_77 (Ls' := #[vI p0, vI p1, vI p2, vI p3, vI p4, vI p5, vI 3, vI 3, vI (((p5.toUInt32 >>> ((4 : Int32) &&& 31).toUInt32).toInt32) &&& (7 : Int32)), vI p4, .unset, .unset, .unset]) rfl 79 rfl ?_
            exact cut681_79 B p0 p1 p2 p3 p4 p5 ((((p5.toUInt32 >>> ((4 : Int32) &&& 31).toUInt32).toInt32) &&& (7 : Int32))) p4 X0 H hml hZ hown hnm hret hlk e0
theorem lawAll (B : Bg Z a0 w_Trail_NO_ROOM k_w_Trail_NO_ROOM) (p0 : Int32) (p1 : Int32) (p2 : Int32) (p3 : Int32) (p4 : Int32) (p5 : Int32) :
    Con l Z x code maxLocals ret room_1 #[(.int p0), (.int p1), (.int p2), (.int p3), (.int p4), (.int p5)] Z.heap (fun v h' L => v = some (.int 1) ∧ Fr Z.heap.size L) := by
  rcases m3 p5 with ha0 | ha0 | ha0 | ha0
  · exact lawAll_0 B p0 p1 p2 p3 p4 p5 ha0
  · exact lawAll_1 B p0 p1 p2 p3 p4 p5 ha0
  · exact lawAll_2 B p0 p1 p2 p3 p4 p5 ha0
  · exact lawAll_3 B p0 p1 p2 p3 p4 p5 ha0
end Walk
set_option maxHeartbeats 4000000 in
theorem comes_1 {Post : Tables → Env → Array Value → State → Outcome → State → Prop} (hpost : ∀ tb e args s v u, (limb_1_1.after args s (.returned v) u = true ∧ limb_1_2.after args s (.returned v) u = true ∧ True) → FrameEnd s (.returned v) u (Jvm.fieldLocs frame_1_writes args s ++ Jvm.arrayLocs frame_1_arrays args s ++ Jvm.staticLocs frame_1_statics s) 16 128 → Post tb e args s (.returned v) u) :
    ArmFor flags0 classFile x code maxLocals ret World_1 tables_1 room_1 Calls_1 rest_1 Pre_1 Post := by
  intro l hfl _ _ p e ha hc hk s m args below hf hA hF happ hP
  obtain ⟨hcalls, hrest, hpre⟩ := hP
  obtain ⟨-, -, -, hnamed, -, -, -, hat⟩ := (Spec.applies_iff hf).mp happ
  obtain ⟨hg, hn⟩ := and_e (Cond.before_iff.mp (show (Jvm.Cond.and given_1 narrow_1).before args s = true from hpre))
  obtain ⟨n1, n2⟩ := and_e hg
  obtain ⟨n3, n4⟩ := and_e n2
  obtain ⟨n5, n6⟩ := and_e n4
  obtain ⟨n7, n8⟩ := and_e n6
  obtain ⟨n9, n10⟩ := and_e n8
  obtain ⟨n11, n12⟩ := and_e n10
  obtain ⟨w0, w1, w2, w3, w4, w5, rfl⟩ : ∃ w0 w1 w2 w3 w4 w5 : Value, args = #[w0, w1, w2, w3, w4, w5] := by
    have hs : args.size = 6 := by simpa [Cond.value, given_1] using n1
    obtain ⟨L⟩ := args
    match L, hs with
    | [w0, w1, w2, w3, w4, w5], _ => exact ⟨w0, w1, w2, w3, w4, w5, rfl⟩
  have hfit : Fit s := fun {y c} hc i hi => by
    obtain ⟨ha, rfl⟩ := Array.getElem?_eq_some_iff.mp hc
    have q := List.all_eq_true.mp ((Array.all_eq_true_iff_forall_mem.mp hF) _ (Array.getElem_mem ha)) i (List.mem_range.mpr hi)
    simpa [Array.getElem?_eq_getElem hi] using q
  have hw := fun d (hd : d ∈ tables_1) => atoms_spec (ws := Jvm.Cond.code x code maxLocals ret :: tables_1) hat d (List.mem_cons_of_mem _ hd)
  obtain ⟨i0, ei0⟩ := is_v n3
  obtain rfl : w0 = (.int i0) := Option.some.inj ei0
  obtain ⟨i1, ei1⟩ := is_v n5
  obtain rfl : w1 = (.int i1) := Option.some.inj ei1
  obtain ⟨i2, ei2⟩ := is_v n7
  obtain rfl : w2 = (.int i2) := Option.some.inj ei2
  obtain ⟨i3, ei3⟩ := is_v n9
  obtain rfl : w3 = (.int i3) := Option.some.inj ei3
  obtain ⟨i4, ei4⟩ := is_v n11
  obtain rfl : w4 = (.int i4) := Option.some.inj ei4
  obtain ⟨i5, ei5⟩ := is_v n12
  obtain rfl : w5 = (.int i5) := Option.some.inj ei5
  obtain ⟨n13, n14⟩ := and_e hn
  obtain ⟨n15, n16⟩ := and_e n14
  obtain ⟨w_Trail_NO_ROOM, ev_w_Trail_NO_ROOM⟩ := arr_v n13
  obtain ⟨cl_w_Trail_NO_ROOM, Ar_w_Trail_NO_ROOM⟩ := Arr.start ev_w_Trail_NO_ROOM n13
  obtain ⟨ln_w_Trail_NO_ROOM, le_w_Trail_NO_ROOM⟩ := Jvm.Free.IntBox.length_fwd (Cond.before_iff.mpr n16) ev_w_Trail_NO_ROOM Ar_w_Trail_NO_ROOM.1 Ar_w_Trail_NO_ROOM.2.1 Ar_w_Trail_NO_ROOM.2.2
  obtain ⟨k_w_Trail_NO_ROOM, ek_w_Trail_NO_ROOM⟩ : ∃ k, k = cl_w_Trail_NO_ROOM.cls := ⟨_, rfl⟩
  have W : World s w_Trail_NO_ROOM k_w_Trail_NO_ROOM := ⟨Sta.start ev_w_Trail_NO_ROOM (Or.inr ⟨(hw _ wd2), (hw _ wd10)⟩), (ek_w_Trail_NO_ROOM ▸ Arv.start hfit Ar_w_Trail_NO_ROOM ln_w_Trail_NO_ROOM le_w_Trail_NO_ROOM (by decide) rfl trivial)⟩
  have B : Bg s _ w_Trail_NO_ROOM k_w_Trail_NO_ROOM := ⟨hw, W⟩
  obtain ⟨n, o, h1, h2, h3, _, L, rfl, ⟨rfl, N⟩, hq⟩ := (lawAll (l := l) B i0 i1 i2 i3 i4 i5) tables_1 p e ha hc hk s m _ below hf ((Spec.applies_iff_loose hf).mp happ).1 ⟨rfl, State.Warmed39.refl s, rfl⟩ trivial
  refine ⟨n, _, h1, h2, h3, hpost _ _ _ _ _ _ ⟨Cond.after_iff.mpr rfl, Cond.after_iff.mpr (eq_i res_at (Term.int_eval (1)) rfl), trivial⟩ ⟨hq.1, hq.2.1, (hq.2.2.sift fun y hy => Or.inr (N y hy)).mono (by decide) (by decide)⟩⟩
theorem main_1_1 : Claimed_1_1 := comes_1 fun _ _ _ _ _ _ h hF => ⟨h.1, hF⟩
theorem main_1_2 : Claimed_1_2 := comes_1 fun _ _ _ _ _ _ h hF => ⟨h.2.1, hF⟩
end Jvm.Pilot.@@N@@
namespace Jvm.Pilot.@@N@@
open Jvm Jvm.ClassFile Sem Op Lib Jvm.Free Jvm.Stand Jvm.Pilot.@@N@@.Jvm.D
/-! MADE BY PROGRAM (witnessworld.py) out of the Statement's table words and the real class files: 12 classes; the members and pool entries that the words name. The judged class is class 1, her method 1. -/
namespace start1
open Jvm.ClassFile
def u (s : String) : CpInfo := .utf8 (stringToUtf16 s)
/-- a pool by its gaps: so many unusable entries, then the entry; so many at the end -/
def gap : Nat → List CpInfo → List CpInfo
  | 0, r => r
  | n + 1, r => .unusable :: gap n r
def poolList (es : List (Nat × CpInfo)) (last : Nat) : List CpInfo := es.foldr (fun e r => gap e.1 (e.2 :: r)) (gap last [])
def pool (es : List (Nat × CpInfo)) (last : Nat) : Array CpInfo := ⟨poolList es last⟩
def fileOf (pool : Array CpInfo) (this : Nat) (attrs : Array Attribute := #[]) (ms : Array MethodInfo := #[]) (fl : Nat := 33) (sup : Nat := 0) (ifs : Array Nat := #[]) (fds : Array FieldInfo := #[]) : ClassFile where
  minorVersion := 0
  majorVersion := 65
  constantPool := pool
  accessFlags := fl
  thisClass := this
  superClass := sup
  interfaces := ifs
  fields := fds
  methods := ms
  attributes := attrs
def plain (name : String) (sup : Option ClassId) : Class where
  name := name
  kind := .ordinary
  loader := none
  accessFlags := 33
  super := sup
  interfaces := #[]
  cf := none
  fields := #[]
  methods := #[]
  instanceTypes := #[]
  staticTypes := #[]
  resolved := #[]
  callSites := []
  init := .initialized
  statics := none
  mirror := none

def pool0 : Array CpInfo := pool [(5, u "<init>"), (0, u "()V"), (1, .class_ 10), (1, u "java/lang/Object")] 113

def k0c0 : Code := { maxStack := 0, maxLocals := 1, code := object_method_1_code, exceptionTable := #[], attributes := #[] }
def k0m0 : Method := { name := "<init>", desc := "()V", sig := { parameters := [], returnType := none }, accessFlags := 1, code := some k0c0 }
/-- java/lang/Object -/
def k0 : Class := { plain "java/lang/Object" none with
  accessFlags := 33
  interfaces := #[]
  cf := some (fileOf pool0 8 #[] #[{ accessFlags := 1, nameIndex := 5, descriptorIndex := 6, attributes := #[] }] 33 0 #[] #[])
  fields := #[]
  methods := #[k0m0]
  instanceTypes := #[]
  staticTypes := #[]
  resolved := Array.replicate 124 none
  statics := none }

def pool1 : Array CpInfo := pool [(2, .class_ 4), (0, .nameAndType 5 6), (0, u "java/lang/Object"), (0, u "<init>"), (0, u "()V"), (0, .class_ 8), (0, u "com/example/blackheight/blackheight/node/Trail"), (0, .methodref 7 3), (0, .methodref 7 11), (0, .nameAndType 12 13), (0, u "push"), (0, u "(I)V"), (0, .methodref 7 15), (0, .nameAndType 16 13), (0, u "keep"), (0, .methodref 7 18), (0, .nameAndType 19 20), (0, u "replace"), (0, u "(II)V"), (0, .methodref 7 22), (0, .nameAndType 23 24), (0, u "depth"), (0, u "()I"), (0, .methodref 7 26), (0, .nameAndType 27 28), (0, u "entry"), (0, u "(I)I"), (0, .class_ 30), (0, u "com/example/blackheight/blackheight/node/TrailReplacePinLaw"), (2, u "law"), (0, u "(IIIIII)Z")] 3

def k1m0 : Method := { name := "<init>", desc := "()V", sig := { parameters := [], returnType := none }, accessFlags := 1, code := none }
def k1c1 : Code := { maxStack := 3, maxLocals := 13, code := code, exceptionTable := #[], attributes := #[] }
def k1m1 : Method := { name := "law", desc := "(IIIIII)Z", sig := { parameters := [.int, .int, .int, .int, .int, .int], returnType := some .boolean }, accessFlags := 9, code := some k1c1 }
/-- com/example/blackheight/blackheight/node/TrailReplacePinLaw -/
def k1 : Class := { plain "com/example/blackheight/blackheight/node/TrailReplacePinLaw" (some 0) with
  accessFlags := 49
  interfaces := #[]
  cf := some (fileOf pool1 29 #[] #[{ accessFlags := 1, nameIndex := 5, descriptorIndex := 6, attributes := #[] }, { accessFlags := 9, nameIndex := 33, descriptorIndex := 34, attributes := #[] }] 49 2 #[] #[])
  fields := #[]
  methods := #[k1m0, k1m1]
  instanceTypes := #[]
  staticTypes := #[]
  resolved := Array.replicate 38 none
  statics := none }

def pool2 : Array CpInfo := pool [(1, .methodref 2 3), (0, .class_ 4), (0, .nameAndType 5 6), (0, u "java/lang/Object"), (0, u "<init>"), (0, u "()V"), (0, .fieldref 8 9), (0, .class_ 10), (0, .nameAndType 11 12), (0, u "com/example/blackheight/blackheight/node/Trail"), (0, u "NO_ROOM"), (0, u "[I"), (0, .fieldref 8 14), (0, .nameAndType 15 12), (0, u "entries"), (0, .fieldref 8 17), (0, .nameAndType 18 19), (0, u "depth"), (0, u "I"), (2, .methodref 8 23), (0, .nameAndType 24 25), (0, u "changeAt"), (0, u "(I)V"), (0, .methodref 8 27), (0, .nameAndType 28 6), (0, u "grow"), (2, u "reachedRight"), (0, u "Z"), (9, .fieldref 8 43), (0, .nameAndType 44 45), (0, u "unchanged"), (0, u "B"), (1, .class_ 49), (1, u "java/lang/Math"), (1, u "(II)I"), (0, .methodref 53 54), (0, .class_ 55), (0, .nameAndType 56 57), (0, u "java/util/Arrays"), (0, u "copyOf"), (0, u "([II)[I"), (0, .methodref 47 59), (0, .nameAndType 60 51), (0, u "max"), (0, u "FIRST_ROOM"), (4, u "()I"), (0, u "entry"), (0, u "(I)I"), (3, u "(II)V"), (0, u "push"), (1, u "keep"), (1, u "replace")] 7

def k2c0 : Code := { maxStack := 2, maxLocals := 1, code := prog_22_method_1_code, exceptionTable := #[], attributes := #[] }
def k2m0 : Method := { name := "<init>", desc := "()V", sig := { parameters := [], returnType := none }, accessFlags := 1, code := some k2c0 }
def k2c1 : Code := { maxStack := 1, maxLocals := 1, code := prog_22_method_2_code, exceptionTable := #[], attributes := #[] }
def k2m1 : Method := { name := "depth", desc := "()I", sig := { parameters := [], returnType := some .int }, accessFlags := 1, code := some k2c1 }
def k2c2 : Code := { maxStack := 2, maxLocals := 2, code := prog_22_method_3_code, exceptionTable := #[], attributes := #[] }
def k2m2 : Method := { name := "entry", desc := "(I)I", sig := { parameters := [.int], returnType := some .int }, accessFlags := 1, code := some k2c2 }
def k2c3 : Code := { maxStack := 3, maxLocals := 2, code := prog_22_method_6_code, exceptionTable := #[], attributes := #[] }
def k2m3 : Method := { name := "push", desc := "(I)V", sig := { parameters := [.int], returnType := none }, accessFlags := 1, code := some k2c3 }
def k2c4 : Code := { maxStack := 2, maxLocals := 2, code := prog_22_method_8_code, exceptionTable := #[], attributes := #[] }
def k2m4 : Method := { name := "keep", desc := "(I)V", sig := { parameters := [.int], returnType := none }, accessFlags := 1, code := some k2c4 }
def k2c5 : Code := { maxStack := 3, maxLocals := 4, code := prog_22_method_10_code, exceptionTable := #[], attributes := #[] }
def k2m5 : Method := { name := "replace", desc := "(II)V", sig := { parameters := [.int, .int], returnType := none }, accessFlags := 1, code := some k2c5 }
def k2c6 : Code := { maxStack := 2, maxLocals := 2, code := prog_22_method_15_code, exceptionTable := #[], attributes := #[] }
def k2m6 : Method := { name := "changeAt", desc := "(I)V", sig := { parameters := [.int], returnType := none }, accessFlags := 2, code := some k2c6 }
def k2c7 : Code := { maxStack := 5, maxLocals := 1, code := prog_22_method_16_code, exceptionTable := #[], attributes := #[] }
def k2m7 : Method := { name := "grow", desc := "()V", sig := { parameters := [], returnType := none }, accessFlags := 2, code := some k2c7 }
/-- com/example/blackheight/blackheight/node/Trail -/
def k2 : Class := { plain "com/example/blackheight/blackheight/node/Trail" (some 0) with
  accessFlags := 49
  interfaces := #[]
  cf := some (fileOf pool2 8 #[] #[{ accessFlags := 1, nameIndex := 5, descriptorIndex := 6, attributes := #[] }, { accessFlags := 1, nameIndex := 18, descriptorIndex := 66, attributes := #[] }, { accessFlags := 1, nameIndex := 67, descriptorIndex := 68, attributes := #[] }, { accessFlags := 1, nameIndex := 73, descriptorIndex := 25, attributes := #[] }, { accessFlags := 1, nameIndex := 75, descriptorIndex := 25, attributes := #[] }, { accessFlags := 1, nameIndex := 77, descriptorIndex := 72, attributes := #[] }, { accessFlags := 2, nameIndex := 24, descriptorIndex := 25, attributes := #[] }, { accessFlags := 2, nameIndex := 28, descriptorIndex := 6, attributes := #[] }] 49 2 #[] #[{ accessFlags := 26, nameIndex := 61, descriptorIndex := 19, attributes := #[] }, { accessFlags := 26, nameIndex := 11, descriptorIndex := 12, attributes := #[] }, { accessFlags := 0, nameIndex := 15, descriptorIndex := 12, attributes := #[] }, { accessFlags := 0, nameIndex := 18, descriptorIndex := 19, attributes := #[] }, { accessFlags := 0, nameIndex := 31, descriptorIndex := 32, attributes := #[] }, { accessFlags := 2, nameIndex := 44, descriptorIndex := 45, attributes := #[] }])
  fields := #[{ name := "FIRST_ROOM", type := .int, accessFlags := 26, slot := 0, constantValue := 0 }, { name := "NO_ROOM", type := (.array .int), accessFlags := 26, slot := 1, constantValue := 0 }, { name := "entries", type := (.array .int), accessFlags := 0, slot := 0, constantValue := 0 }, { name := "depth", type := .int, accessFlags := 0, slot := 1, constantValue := 0 }, { name := "reachedRight", type := .boolean, accessFlags := 0, slot := 2, constantValue := 0 }, { name := "unchanged", type := .byte, accessFlags := 2, slot := 3, constantValue := 0 }]
  methods := #[k2m0, k2m1, k2m2, k2m3, k2m4, k2m5, k2m6, k2m7]
  instanceTypes := #[(.array .int), .int, .boolean, .byte]
  staticTypes := #[.int, (.array .int)]
  resolved := Array.replicate 85 none
  statics := some 0 }

def pool3 : Array CpInfo := pool [(1, .class_ 2), (0, u "java/lang/Math"), (1, .class_ 6), (1, u "java/lang/Object"), (0, u "<init>"), (0, u "()V"), (89, .class_ 100), (1, u "java/lang/Math$RandomNumberGeneratorHolder"), (71, u "negativeZeroFloatBits"), (0, u "J"), (2, u "negativeZeroDoubleBits"), (21, u "max"), (2, u "min"), (43, u "$assertionsDisabled"), (0, u "Z"), (88, u "(II)I"), (2, u "twoToTheDoubleScaleDown"), (0, u "D"), (4, u "twoToTheDoubleScaleUp"), (9, u "E"), (3, u "PI"), (2, u "TAU"), (2, u "DEGREES_TO_RADIANS"), (0, u "RADIANS_TO_DEGREES")] 94

def k3m0 : Method := { name := "<init>", desc := "()V", sig := { parameters := [], returnType := none }, accessFlags := 2, code := none }
def k3c1 : Code := { maxStack := 2, maxLocals := 2, code := jdk_29_method_65_code, exceptionTable := #[], attributes := #[] }
def k3m1 : Method := { name := "max", desc := "(II)I", sig := { parameters := [.int, .int], returnType := some .int }, accessFlags := 9, code := some k3c1 }
def k3c2 : Code := { maxStack := 2, maxLocals := 2, code := jdk_29_method_69_code, exceptionTable := #[], attributes := #[] }
def k3m2 : Method := { name := "min", desc := "(II)I", sig := { parameters := [.int, .int], returnType := some .int }, accessFlags := 9, code := some k3c2 }
/-- java/lang/Math -/
def k3 : Class := { plain "java/lang/Math" (some 0) with
  accessFlags := 49
  interfaces := #[]
  cf := some (fileOf pool3 1 #[.nestMembers #[98]] #[{ accessFlags := 2, nameIndex := 7, descriptorIndex := 8, attributes := #[] }, { accessFlags := 9, nameIndex := 198, descriptorIndex := 335, attributes := #[] }, { accessFlags := 9, nameIndex := 201, descriptorIndex := 335, attributes := #[] }] 49 4 #[] #[{ accessFlags := 25, nameIndex := 354, descriptorIndex := 339, attributes := #[] }, { accessFlags := 25, nameIndex := 358, descriptorIndex := 339, attributes := #[] }, { accessFlags := 25, nameIndex := 361, descriptorIndex := 339, attributes := #[] }, { accessFlags := 26, nameIndex := 364, descriptorIndex := 339, attributes := #[] }, { accessFlags := 26, nameIndex := 365, descriptorIndex := 339, attributes := #[] }, { accessFlags := 26, nameIndex := 172, descriptorIndex := 173, attributes := #[] }, { accessFlags := 26, nameIndex := 176, descriptorIndex := 173, attributes := #[] }, { accessFlags := 8, nameIndex := 344, descriptorIndex := 339, attributes := #[] }, { accessFlags := 8, nameIndex := 338, descriptorIndex := 339, attributes := #[] }, { accessFlags := 4120, nameIndex := 245, descriptorIndex := 246, attributes := #[] }])
  fields := #[{ name := "E", type := .double, accessFlags := 25, slot := 0, constantValue := 0 }, { name := "PI", type := .double, accessFlags := 25, slot := 1, constantValue := 0 }, { name := "TAU", type := .double, accessFlags := 25, slot := 2, constantValue := 0 }, { name := "DEGREES_TO_RADIANS", type := .double, accessFlags := 26, slot := 3, constantValue := 0 }, { name := "RADIANS_TO_DEGREES", type := .double, accessFlags := 26, slot := 4, constantValue := 0 }, { name := "negativeZeroFloatBits", type := .long, accessFlags := 26, slot := 5, constantValue := 0 }, { name := "negativeZeroDoubleBits", type := .long, accessFlags := 26, slot := 6, constantValue := 0 }, { name := "twoToTheDoubleScaleUp", type := .double, accessFlags := 8, slot := 7, constantValue := 0 }, { name := "twoToTheDoubleScaleDown", type := .double, accessFlags := 8, slot := 8, constantValue := 0 }, { name := "$assertionsDisabled", type := .boolean, accessFlags := 4120, slot := 9, constantValue := 0 }]
  methods := #[k3m0, k3m1, k3m2]
  instanceTypes := #[]
  staticTypes := #[.double, .double, .double, .double, .double, .long, .long, .double, .double, .boolean]
  resolved := Array.replicate 460 none
  statics := none }

def pool4 : Array CpInfo := pool [(2, .class_ 4), (1, u "java/lang/Object"), (0, u "<init>"), (0, u "()V"), (7, .class_ 16), (1, u "java/util/Arrays"), (57, .class_ 76), (1, u "java/util/Arrays$NaturalOrder"), (36, .class_ 115), (1, u "java/util/Arrays$LegacyMergeSort"), (1, u "Z"), (32, .methodref 151 152), (0, .class_ 153), (0, .nameAndType 154 155), (0, u "java/lang/System"), (0, u "arraycopy"), (0, u "(Ljava/lang/Object;ILjava/lang/Object;II)V"), (146, u "copyOf"), (1, .methodref 305 306), (0, .class_ 307), (0, .nameAndType 308 309), (0, u "java/lang/Math"), (0, u "min"), (0, u "(II)I"), (65, .class_ 376), (0, u "java/util/Arrays$ArrayList"), (68, u "$assertionsDisabled"), (269, u "MIN_ARRAY_SORT_GRAN"), (0, u "I"), (2, u "INSERTIONSORT_THRESHOLD"), (151, u "([II)[I"), (103, .class_ 976), (0, u "java/util/Arrays$ArrayItr")] 52

def k4m0 : Method := { name := "<init>", desc := "()V", sig := { parameters := [], returnType := none }, accessFlags := 2, code := none }
def k4c1 : Code := { maxStack := 6, maxLocals := 3, code := jdk_65_method_123_code, exceptionTable := #[], attributes := #[] }
def k4m1 : Method := { name := "copyOf", desc := "([II)[I", sig := { parameters := [(.array .int), .int], returnType := some (.array .int) }, accessFlags := 9, code := some k4c1 }
/-- java/util/Arrays -/
def k4 : Class := { plain "java/util/Arrays" (some 0) with
  accessFlags := 49
  interfaces := #[]
  cf := some (fileOf pool4 14 #[.nestMembers #[975, 375, 113, 74]] #[{ accessFlags := 2, nameIndex := 5, descriptorIndex := 6, attributes := #[] }, { accessFlags := 9, nameIndex := 302, descriptorIndex := 871, attributes := #[] }] 49 2 #[] #[{ accessFlags := 26, nameIndex := 715, descriptorIndex := 716, attributes := #[] }, { accessFlags := 26, nameIndex := 719, descriptorIndex := 716, attributes := #[] }, { accessFlags := 4120, nameIndex := 445, descriptorIndex := 117, attributes := #[] }])
  fields := #[{ name := "MIN_ARRAY_SORT_GRAN", type := .int, accessFlags := 26, slot := 0, constantValue := 0 }, { name := "INSERTIONSORT_THRESHOLD", type := .int, accessFlags := 26, slot := 1, constantValue := 0 }, { name := "$assertionsDisabled", type := .boolean, accessFlags := 4120, slot := 2, constantValue := 0 }]
  methods := #[k4m0, k4m1]
  instanceTypes := #[]
  staticTypes := #[.int, .int, .boolean]
  resolved := Array.replicate 1029 none
  statics := none }

def pool5 : Array CpInfo := pool [(2, .class_ 4), (1, u "java/lang/Object"), (0, u "<init>"), (0, u "()V"), (1, .class_ 10), (1, u "java/lang/System"), (0, u "allowSecurityManager"), (0, u "I"), (16, u "cons"), (0, u "Ljava/io/Console;"), (77, .class_ 110), (1, u "java/lang/System$CallersHolder"), (43, u "initialErrStream"), (0, u "Ljava/io/PrintStream;"), (19, u "security"), (0, u "Ljava/lang/SecurityManager;"), (31, .class_ 209), (0, u "java/lang/System$1"), (7, u "props"), (0, u "Ljava/util/Properties;"), (2, u "lineSeparator"), (0, u "Ljava/lang/String;"), (96, .class_ 321), (1, u "java/lang/System$LoggerFinder"), (5, .class_ 328), (0, u "java/lang/System$Logger"), (67, u "err"), (2, u "out"), (91, u "notSupportedJnuEncoding"), (15, u "in"), (17, u "initialIn"), (0, u "Ljava/io/InputStream;"), (35, u "bootLayer"), (0, u "Ljava/lang/ModuleLayer;"), (99, .class_ 664), (0, u "java/lang/System$2"), (9, u "NEVER"), (2, u "MAYBE"), (49, u "arraycopy"), (0, u "(Ljava/lang/Object;ILjava/lang/Object;II)V"), (72, .class_ 802), (0, u "java/lang/System$Logger$Level")] 31

def k5m0 : Method := { name := "<init>", desc := "()V", sig := { parameters := [], returnType := none }, accessFlags := 2, code := none }
def k5m1 : Method := { name := "arraycopy", desc := "(Ljava/lang/Object;ILjava/lang/Object;II)V", sig := { parameters := [(.object "java/lang/Object"), .int, (.object "java/lang/Object"), .int, .int], returnType := none }, accessFlags := 265, code := none }
/-- java/lang/System -/
def k5 : Class := { plain "java/lang/System" (some 0) with
  accessFlags := 49
  interfaces := #[]
  cf := some (fileOf pool5 8 #[.nestMembers #[319, 327, 801, 108, 663, 208]] #[{ accessFlags := 2, nameIndex := 5, descriptorIndex := 6, attributes := #[] }, { accessFlags := 265, nameIndex := 727, descriptorIndex := 728, attributes := #[] }] 49 2 #[] #[{ accessFlags := 25, nameIndex := 507, descriptorIndex := 526, attributes := #[] }, { accessFlags := 25, nameIndex := 399, descriptorIndex := 155, attributes := #[] }, { accessFlags := 25, nameIndex := 396, descriptorIndex := 155, attributes := #[] }, { accessFlags := 10, nameIndex := 525, descriptorIndex := 526, attributes := #[] }, { accessFlags := 26, nameIndex := 674, descriptorIndex := 12, attributes := #[] }, { accessFlags := 26, nameIndex := 677, descriptorIndex := 12, attributes := #[] }, { accessFlags := 10, nameIndex := 11, descriptorIndex := 12, attributes := #[] }, { accessFlags := 74, nameIndex := 175, descriptorIndex := 176, attributes := #[] }, { accessFlags := 10, nameIndex := 491, descriptorIndex := 222, attributes := #[] }, { accessFlags := 74, nameIndex := 29, descriptorIndex := 30, attributes := #[] }, { accessFlags := 74, nameIndex := 154, descriptorIndex := 155, attributes := #[] }, { accessFlags := 10, nameIndex := 217, descriptorIndex := 218, attributes := #[] }, { accessFlags := 10, nameIndex := 221, descriptorIndex := 222, attributes := #[] }, { accessFlags := 8, nameIndex := 562, descriptorIndex := 563, attributes := #[] }])
  fields := #[{ name := "in", type := (.object "java/io/InputStream"), accessFlags := 25, slot := 0, constantValue := 0 }, { name := "out", type := (.object "java/io/PrintStream"), accessFlags := 25, slot := 1, constantValue := 0 }, { name := "err", type := (.object "java/io/PrintStream"), accessFlags := 25, slot := 2, constantValue := 0 }, { name := "initialIn", type := (.object "java/io/InputStream"), accessFlags := 10, slot := 3, constantValue := 0 }, { name := "NEVER", type := .int, accessFlags := 26, slot := 4, constantValue := 0 }, { name := "MAYBE", type := .int, accessFlags := 26, slot := 5, constantValue := 0 }, { name := "allowSecurityManager", type := .int, accessFlags := 10, slot := 6, constantValue := 0 }, { name := "security", type := (.object "java/lang/SecurityManager"), accessFlags := 74, slot := 7, constantValue := 0 }, { name := "notSupportedJnuEncoding", type := (.object "java/lang/String"), accessFlags := 10, slot := 8, constantValue := 0 }, { name := "cons", type := (.object "java/io/Console"), accessFlags := 74, slot := 9, constantValue := 0 }, { name := "initialErrStream", type := (.object "java/io/PrintStream"), accessFlags := 74, slot := 10, constantValue := 0 }, { name := "props", type := (.object "java/util/Properties"), accessFlags := 10, slot := 11, constantValue := 0 }, { name := "lineSeparator", type := (.object "java/lang/String"), accessFlags := 10, slot := 12, constantValue := 0 }, { name := "bootLayer", type := (.object "java/lang/ModuleLayer"), accessFlags := 8, slot := 13, constantValue := 0 }]
  methods := #[k5m0, k5m1]
  instanceTypes := #[]
  staticTypes := #[(.object "java/io/InputStream"), (.object "java/io/PrintStream"), (.object "java/io/PrintStream"), (.object "java/io/InputStream"), .int, .int, .int, (.object "java/lang/SecurityManager"), (.object "java/lang/String"), (.object "java/io/Console"), (.object "java/io/PrintStream"), (.object "java/util/Properties"), (.object "java/lang/String"), (.object "java/lang/ModuleLayer")]
  resolved := Array.replicate 834 none
  statics := none }

def pool6 : Array CpInfo := pool [(1, u "java/lang/Cloneable"), (0, .class_ 1), (0, u "java/lang/Object"), (0, .class_ 3)] 3

/-- java/lang/Cloneable -/
def k6 : Class := { plain "java/lang/Cloneable" (some 0) with
  accessFlags := 1537
  interfaces := #[]
  cf := some (fileOf pool6 2 #[] #[] 1537 4 #[] #[])
  fields := #[]
  methods := #[]
  instanceTypes := #[]
  staticTypes := #[]
  resolved := Array.replicate 8 none
  statics := none }

def pool7 : Array CpInfo := pool [(1, u "java/io/Serializable"), (0, .class_ 1), (0, u "java/lang/Object"), (0, .class_ 3)] 3

/-- java/io/Serializable -/
def k7 : Class := { plain "java/io/Serializable" (some 0) with
  accessFlags := 1537
  interfaces := #[]
  cf := some (fileOf pool7 2 #[] #[] 1537 4 #[] #[])
  fields := #[]
  methods := #[]
  instanceTypes := #[]
  staticTypes := #[]
  resolved := Array.replicate 8 none
  statics := none }

/-- the primitive byte -/
def k8 : Class := { plain "byte" none with kind := .primitive 'B', accessFlags := 0x411 }
/-- [B -/
def k9 : Class := { plain "[B" (some 0) with kind := .array 8 .byte, interfaces := #[6, 7], accessFlags := 1041 }

/-- the primitive int -/
def k10 : Class := { plain "int" none with kind := .primitive 'I', accessFlags := 0x411 }
/-- [I -/
def k11 : Class := { plain "[I" (some 0) with kind := .array 10 .int, interfaces := #[6, 7], accessFlags := 1041 }

def heap : Heap := #[{ cls := 2, slots := #[.int 0, .ref 1], vm := .statics 2 },
  { cls := 11, slots := #[], vm := .none }]
def classes : Array Class := #[k0, k1, k2, k3, k4, k5, k6, k7, k8, k9, k10, k11]
def interned : List (Array UInt16 × Addr) := []
def slotsUsed : Nat := 2
def theMethod : MethodId := ⟨1, 1⟩
def args0 : Array Value := #[.int 5, .int 5, .int 5, .int 5, .int 5, .int 5]
def aboutOver (below : List Frame) : State where
  vm := { classes := classes, interned := interned.toArray }
  heap := heap
  slotsUsed := slotsUsed
  threads := #[{ frames := .invoking theMethod args0 :: below }]
def below0 : List Frame := [.native { method := ⟨0, 0⟩, args := #[] }]
def about1 : State := aboutOver below0
def p0 : Program := .bare "" "" ""
def e0 : Env := launch0.env 0 0 0
theorem w_frames : about1.frames = Frame.invoking theMethod args0 :: below0 := rfl
set_option maxRecDepth 65536 in
theorem w_args : argsFit about1.vm theMethod args0 = true := by decide +kernel
set_option maxRecDepth 65536 in
theorem w_heap : heapFits about1 = true := by decide +kernel
set_option maxRecDepth 65536 in
theorem w_runnable : about1.curStatus? = some .runnable := by decide +kernel
set_option maxRecDepth 65536 in
theorem w_alone : about1.alone = true := by decide +kernel
set_option maxRecDepth 65536 in
theorem w_named : about1.methodNamed? x = some theMethod := by decide +kernel
set_option maxRecDepth 65536 in
theorem w_hears : about1.hears theMethod below0 = true := by decide +kernel
set_option maxRecDepth 65536 in
theorem w_ripe : about1.ripe theMethod args0 below0 = true := by decide +kernel
theorem w_running : about1.status = .running := rfl
set_option maxRecDepth 65536 in
theorem w_room : about1.hasRoom e0.platform room_1 = true :=
  launch0.hasRoom_least _ room_1 (by decide +kernel) (by decide +kernel) (by decide +kernel) (by decide +kernel) (by decide +kernel) (by decide +kernel)
theorem allAtoms_all (ts : List Jvm.Cond) (a : Array Jvm.Value) (st : Jvm.State) : (allAtoms ts).before a st = ts.all (fun c => c.before a st) := by
  induction ts with
  | nil => rfl
  | cons c t ih =>
    show (Jvm.Cond.and c (allAtoms t)).before a st = _
    rw [Jvm.Cond.before_and, ih, List.all_cons]
def words1 : List Jvm.Cond := Jvm.Cond.code x code maxLocals ret :: tables_1
/-- a 'code' word, met by the world's own term for the bytes: nothing is compared byte by byte -/
theorem code_word {y : MethodName} {bytes : ByteArray} {mx : Nat} {rt : Option FieldType} {a : Array Value} {s : State} {m : MethodId} {meth : Method} {c : Code} (h1 : s.methodNamed? y = some m) (h2 : s.vm.method? m = some meth) (h3 : meth.code = some c) (h4 : c.code = bytes)
    (h5 : (c.maxLocals == mx && c.exceptionTable.isEmpty && decide (c.maxStack ≤ mostOperands) && decide (meth.sig.returnType = rt) && !meth.locks && decide (parseMethodDescriptor y.desc = some meth.sig)) = true) : (Jvm.Cond.code y bytes mx rt).before a s = true := by
  simp only [Bool.and_eq_true, beq_iff_eq, Bool.not_eq_true', decide_eq_true_eq] at h5
  obtain ⟨⟨⟨⟨⟨g1, g2⟩, g3⟩, g4⟩, g5⟩, g6⟩ := h5
  simp [Cond.before, Cond.holds, Cond.value, h1, h2, h3, h4, g1, g2, g3, g4, g5, g6]
def isCode : Jvm.Cond → Bool
  | .code _ _ _ _ => true
  | _ => false
theorem all_split {L : List Jvm.Cond} {P : Jvm.Cond → Bool} (h1 : L.all (fun c => isCode c || P c) = true) (h2 : ∀ c ∈ L.filter isCode, P c = true) : L.all P = true := by
  refine List.all_eq_true.mpr fun c hc => ?_
  have h := List.all_eq_true.mp h1 c hc
  rcases Bool.eq_false_or_eq_true (isCode c) with hi | hi
  · exact h2 c (List.mem_filter.mpr ⟨hc, hi⟩)
  · simpa [hi] using h
set_option maxRecDepth 65536 in
theorem w_c0 : (Jvm.Cond.code x code maxLocals ret).before args0 about1 = true := code_word (m := ⟨1, 1⟩) (meth := k1m1) (c := k1c1) (by decide +kernel) rfl rfl rfl (by decide +kernel)
set_option maxRecDepth 65536 in
theorem w_c1 : (Jvm.Cond.code ({ cls := "com/example/blackheight/blackheight/node/Trail", name := "<init>", desc := "()V" } : Jvm.MethodName) prog_22_method_1_code (1 : Nat) (Option.none : Option Jvm.ClassFile.FieldType)).before args0 about1 = true := code_word (m := ⟨2, 0⟩) (meth := k2m0) (c := k2c0) (by decide +kernel) rfl rfl rfl (by decide +kernel)
set_option maxRecDepth 65536 in
theorem w_c2 : (Jvm.Cond.code ({ cls := "java/lang/Object", name := "<init>", desc := "()V" } : Jvm.MethodName) object_method_1_code (1 : Nat) (Option.none : Option Jvm.ClassFile.FieldType)).before args0 about1 = true := code_word (m := ⟨0, 0⟩) (meth := k0m0) (c := k0c0) (by decide +kernel) rfl rfl rfl (by decide +kernel)
set_option maxRecDepth 65536 in
theorem w_c3 : (Jvm.Cond.code ({ cls := "com/example/blackheight/blackheight/node/Trail", name := "push", desc := "(I)V" } : Jvm.MethodName) prog_22_method_6_code (2 : Nat) (Option.none : Option Jvm.ClassFile.FieldType)).before args0 about1 = true := code_word (m := ⟨2, 3⟩) (meth := k2m3) (c := k2c3) (by decide +kernel) rfl rfl rfl (by decide +kernel)
set_option maxRecDepth 65536 in
theorem w_c4 : (Jvm.Cond.code ({ cls := "com/example/blackheight/blackheight/node/Trail", name := "grow", desc := "()V" } : Jvm.MethodName) prog_22_method_16_code (1 : Nat) (Option.none : Option Jvm.ClassFile.FieldType)).before args0 about1 = true := code_word (m := ⟨2, 7⟩) (meth := k2m7) (c := k2c7) (by decide +kernel) rfl rfl rfl (by decide +kernel)
set_option maxRecDepth 65536 in
theorem w_c5 : (Jvm.Cond.code ({ cls := "java/lang/Math", name := "max", desc := "(II)I" } : Jvm.MethodName) jdk_29_method_65_code (2 : Nat) (Option.some Jvm.ClassFile.FieldType.int)).before args0 about1 = true := code_word (m := ⟨3, 1⟩) (meth := k3m1) (c := k3c1) (by decide +kernel) rfl rfl rfl (by decide +kernel)
set_option maxRecDepth 65536 in
theorem w_c6 : (Jvm.Cond.code ({ cls := "java/util/Arrays", name := "copyOf", desc := "([II)[I" } : Jvm.MethodName) jdk_65_method_123_code (3 : Nat) (Option.some (Jvm.ClassFile.FieldType.array Jvm.ClassFile.FieldType.int))).before args0 about1 = true := code_word (m := ⟨4, 1⟩) (meth := k4m1) (c := k4c1) (by decide +kernel) rfl rfl rfl (by decide +kernel)
set_option maxRecDepth 65536 in
theorem w_c7 : (Jvm.Cond.code ({ cls := "java/lang/Math", name := "min", desc := "(II)I" } : Jvm.MethodName) jdk_29_method_69_code (2 : Nat) (Option.some Jvm.ClassFile.FieldType.int)).before args0 about1 = true := code_word (m := ⟨3, 2⟩) (meth := k3m2) (c := k3c2) (by decide +kernel) rfl rfl rfl (by decide +kernel)
set_option maxRecDepth 65536 in
theorem w_c8 : (Jvm.Cond.code ({ cls := "com/example/blackheight/blackheight/node/Trail", name := "changeAt", desc := "(I)V" } : Jvm.MethodName) prog_22_method_15_code (2 : Nat) (Option.none : Option Jvm.ClassFile.FieldType)).before args0 about1 = true := code_word (m := ⟨2, 6⟩) (meth := k2m6) (c := k2c6) (by decide +kernel) rfl rfl rfl (by decide +kernel)
set_option maxRecDepth 65536 in
theorem w_c9 : (Jvm.Cond.code ({ cls := "com/example/blackheight/blackheight/node/Trail", name := "keep", desc := "(I)V" } : Jvm.MethodName) prog_22_method_8_code (2 : Nat) (Option.none : Option Jvm.ClassFile.FieldType)).before args0 about1 = true := code_word (m := ⟨2, 4⟩) (meth := k2m4) (c := k2c4) (by decide +kernel) rfl rfl rfl (by decide +kernel)
set_option maxRecDepth 65536 in
theorem w_c10 : (Jvm.Cond.code ({ cls := "com/example/blackheight/blackheight/node/Trail", name := "replace", desc := "(II)V" } : Jvm.MethodName) prog_22_method_10_code (4 : Nat) (Option.none : Option Jvm.ClassFile.FieldType)).before args0 about1 = true := code_word (m := ⟨2, 5⟩) (meth := k2m5) (c := k2c5) (by decide +kernel) rfl rfl rfl (by decide +kernel)
set_option maxRecDepth 65536 in
theorem w_c11 : (Jvm.Cond.code ({ cls := "com/example/blackheight/blackheight/node/Trail", name := "depth", desc := "()I" } : Jvm.MethodName) prog_22_method_2_code (1 : Nat) (Option.some Jvm.ClassFile.FieldType.int)).before args0 about1 = true := code_word (m := ⟨2, 1⟩) (meth := k2m1) (c := k2c1) (by decide +kernel) rfl rfl rfl (by decide +kernel)
set_option maxRecDepth 65536 in
theorem w_c12 : (Jvm.Cond.code ({ cls := "com/example/blackheight/blackheight/node/Trail", name := "entry", desc := "(I)I" } : Jvm.MethodName) prog_22_method_3_code (2 : Nat) (Option.some Jvm.ClassFile.FieldType.int)).before args0 about1 = true := code_word (m := ⟨2, 2⟩) (meth := k2m2) (c := k2c2) (by decide +kernel) rfl rfl rfl (by decide +kernel)
def codes1 : List Jvm.Cond := [Jvm.Cond.code x code maxLocals ret, Jvm.Cond.code ({ cls := "com/example/blackheight/blackheight/node/Trail", name := "<init>", desc := "()V" } : Jvm.MethodName) prog_22_method_1_code (1 : Nat) (Option.none : Option Jvm.ClassFile.FieldType), Jvm.Cond.code ({ cls := "java/lang/Object", name := "<init>", desc := "()V" } : Jvm.MethodName) object_method_1_code (1 : Nat) (Option.none : Option Jvm.ClassFile.FieldType), Jvm.Cond.code ({ cls := "com/example/blackheight/blackheight/node/Trail", name := "push", desc := "(I)V" } : Jvm.MethodName) prog_22_method_6_code (2 : Nat) (Option.none : Option Jvm.ClassFile.FieldType), Jvm.Cond.code ({ cls := "com/example/blackheight/blackheight/node/Trail", name := "grow", desc := "()V" } : Jvm.MethodName) prog_22_method_16_code (1 : Nat) (Option.none : Option Jvm.ClassFile.FieldType), Jvm.Cond.code ({ cls := "java/lang/Math", name := "max", desc := "(II)I" } : Jvm.MethodName) jdk_29_method_65_code (2 : Nat) (Option.some Jvm.ClassFile.FieldType.int), Jvm.Cond.code ({ cls := "java/util/Arrays", name := "copyOf", desc := "([II)[I" } : Jvm.MethodName) jdk_65_method_123_code (3 : Nat) (Option.some (Jvm.ClassFile.FieldType.array Jvm.ClassFile.FieldType.int)), Jvm.Cond.code ({ cls := "java/lang/Math", name := "min", desc := "(II)I" } : Jvm.MethodName) jdk_29_method_69_code (2 : Nat) (Option.some Jvm.ClassFile.FieldType.int), Jvm.Cond.code ({ cls := "com/example/blackheight/blackheight/node/Trail", name := "changeAt", desc := "(I)V" } : Jvm.MethodName) prog_22_method_15_code (2 : Nat) (Option.none : Option Jvm.ClassFile.FieldType), Jvm.Cond.code ({ cls := "com/example/blackheight/blackheight/node/Trail", name := "keep", desc := "(I)V" } : Jvm.MethodName) prog_22_method_8_code (2 : Nat) (Option.none : Option Jvm.ClassFile.FieldType), Jvm.Cond.code ({ cls := "com/example/blackheight/blackheight/node/Trail", name := "replace", desc := "(II)V" } : Jvm.MethodName) prog_22_method_10_code (4 : Nat) (Option.none : Option Jvm.ClassFile.FieldType), Jvm.Cond.code ({ cls := "com/example/blackheight/blackheight/node/Trail", name := "depth", desc := "()I" } : Jvm.MethodName) prog_22_method_2_code (1 : Nat) (Option.some Jvm.ClassFile.FieldType.int), Jvm.Cond.code ({ cls := "com/example/blackheight/blackheight/node/Trail", name := "entry", desc := "(I)I" } : Jvm.MethodName) prog_22_method_3_code (2 : Nat) (Option.some Jvm.ClassFile.FieldType.int)]
set_option maxRecDepth 65536 in
theorem codes_eq : words1.filter isCode = codes1 := rfl
theorem w_codes : ∀ c ∈ words1.filter isCode, c.before args0 about1 = true := by
  rw [codes_eq]
  intro c hc
  simp only [codes1, List.mem_cons, List.not_mem_nil, or_false] at hc
  rcases hc with rfl | rfl | rfl | rfl | rfl | rfl | rfl | rfl | rfl | rfl | rfl | rfl | rfl
  · exact w_c0
  · exact w_c1
  · exact w_c2
  · exact w_c3
  · exact w_c4
  · exact w_c5
  · exact w_c6
  · exact w_c7
  · exact w_c8
  · exact w_c9
  · exact w_c10
  · exact w_c11
  · exact w_c12
set_option maxRecDepth 65536 in
theorem w_t1 : (words1.take 24).all (fun c => isCode c || c.before args0 about1) = true := by decide +kernel
set_option maxRecDepth 65536 in
theorem w_t2 : ((words1.drop 24).take 24).all (fun c => isCode c || c.before args0 about1) = true := by decide +kernel
set_option maxRecDepth 65536 in
theorem w_t3 : ((words1.drop 24).drop 24).all (fun c => isCode c || c.before args0 about1) = true := by decide +kernel
theorem w_tables : (allAtoms (Jvm.Cond.code x code maxLocals ret :: tables_1)).before args0 about1 = true := by
  rw [allAtoms_all]
  show words1.all (fun c => c.before args0 about1) = true
  refine all_split ?_ w_codes
  rw [← List.take_append_drop 24 words1, List.all_append, w_t1, ← List.take_append_drop 24 (words1.drop 24), List.all_append, w_t2, w_t3]
  rfl
set_option maxRecDepth 65536 in
theorem w_case : (Jvm.Cond.and given_1 narrow_1).before args0 about1 = true := by decide +kernel
theorem w_applies : (headSpec (Jvm.Cond.code x code maxLocals ret :: tables_1) room_1).applies x e0.platform about1 = true :=
  (Spec.applies_iff w_frames).mpr ⟨w_running, w_runnable, w_alone, w_named, w_hears, w_ripe, w_room, w_tables⟩
theorem atStart : AtStart classFile x code maxLocals ret World_1 tables_1 room_1 Calls_1 rest_1 Pre_1 launch0 p0 e0 about1 theMethod args0 below0 :=
  ⟨lists_1, trivial, launch0.admits_env _ _ _, launch0.least_env, fairChoices_fair.cas, fairChoices_fair.clock, w_frames, w_args, w_heap, w_applies, trivial, trivial, w_case⟩
end start1
theorem witness_1 : WitnessClaimed_1 := ⟨start1.p0, start1.e0, start1.about1, start1.theMethod, start1.args0, start1.below0, start1.atStart⟩
end Jvm.Pilot.@@N@@
