import JvmDerived
import JvmDerived.Pilot.@@N@@Statement
import JvmDerived.Pilot.@@N@@Code
set_option linter.unusedVariables false
set_option linter.unusedSimpArgs false
set_option maxRecDepth 65536
set_option maxHeartbeats 8000000
namespace Jvm.Pilot.@@N@@
open Jvm Jvm.ClassFile Sem Op Lib Jvm.Free Jvm.Stand Jvm.LawKit Jvm.RoadKit Bundle Jvm.Pilot.@@N@@.Jvm.D
abbrev vI (x : Int32) : Slot := .val (.int x)
abbrev vJ (x : Int64) : Slot := .val (.long x)
abbrev vR (x : Addr) : Slot := .val (.ref x)
abbrev vN : Slot := .val .null
/-- the run from S comes to an end at which K holds -/
def Go (p : Program) (e : Env) (below : List Frame) (K : State → Outcome → Prop) (S : State) : Prop := ∃ t o, Steps p.tables e below S t ∧ K t o
theorem Go.via {p : Program} {e : Env} {below : List Frame} {K : State → Outcome → Prop} {A B : State} (h : ∀ t, Steps p.tables e below B t → Steps p.tables e below A t) (g : Go p e below K B) : Go p e below K A := by
  obtain ⟨t, o, h1, h2⟩ := g; exact ⟨t, o, h t h1, h2⟩
/-- a method's end: what it returned, the heap and the places written answer Q -/
def EndK (s : State) (below : List Frame) (Q : Option Value → Heap → List Loc → Prop) (C S : Nat) (t : State) (o : Outcome) : Prop := t.status = .running ∧ Ended t below o ∧ ∃ v L, o = .returned v ∧ Q v t.heap L ∧ FrameEnd s o t L C S
/-- a method's contract -/
def Con (l : Launch) (Z : State) (y : MethodName) (bytes : ByteArray) (maxL : Nat) (ret : Option FieldType) (rm : Room) (as : Array Value) (h : Heap) (Q : Option Value → Heap → List Loc → Prop) : Prop :=
  ∀ ws, MetFree l y (head1 (Jvm.Cond.code y bytes maxL ret :: ws) rm) (fun a U => a = as ∧ Z.Warmed39 U.vm ∧ U.heap = h) (fun _ _ _ _ _ => True) (fun _ U o U' => ∃ v L, o = .returned v ∧ Q v U'.heap L ∧ FrameEnd U o U' L rm.cells rm.slots)
theorem Con.of {l : Launch} {Z : State} {y : MethodName} {bytes : ByteArray} {maxL : Nat} {ret : Option FieldType} {rm : Room} {as : Array Value} {h : Heap} {Q : Option Value → Heap → List Loc → Prop} {Ls : Array Slot} (hp : plainFor y = true) (hfr : ∀ m, entryFrame m as maxL = mkF m 0 Ls [])
    (body : ∀ (p : Program) (e : Env) (s : State) (m : MethodId) (below : List Frame) (meth : Method) (c : Code) (T : State), Stand p l e rm s m as below meth c T [] 0 0 → p.tables.exec = Jvm.exec ∧ c.code = bytes → c.maxLocals = maxL → Z.Warmed39 s.vm → s.vm.findClass y.cls = some m.cls → meth.name = y.name → meth.sig.returnType = ret → meth.locks = false → T.heap = h → Go p e below (EndK s below Q rm.cells rm.slots) (T.setTop (mkF m 0 Ls []))) :
    Con l Z y bytes maxL ret rm as h Q := by
  intro ws
  refine MetFree.of_bodySF hp hisR ?_
  intro p e s m args below meth c s₁ Bd hml hP hK
  obtain ⟨rfl, hZ, hh⟩ := hP
  have e0 : s₁.heap = h := by rw [← hh, Bd.state]; rfl
  obtain ⟨t, o, h1, h2⟩ := body p e s m below meth c s₁ (Stand.of_body Bd) ⟨Bd.exec, Bd.bytes⟩ hml hZ (findClass_of_methodNamed Bd.named) (name_of_methodNamed Bd.named Bd.method).1 Bd.returns Bd.notSynchronized e0
  exact ⟨t, o, castTop (hfr m) h1, h2⟩
theorem selPriv {Z : State} {a0 : Array Value} {y : MethodName} {kk : Nat} (wp : (Cond.privateMethod y).before a0 Z = true) (wi : (Cond.instanceMethod y).before a0 Z = true) (wk : (Cond.instantiable y.cls kk).before a0 Z = true) (hy : y.cls ≠ "java/lang/invoke/MethodHandle" ∧ y.cls ≠ "java/lang/invoke/VarHandle") : (Cond.selects y.cls y y).before a0 Z = true := by
  obtain ⟨mk, methM, hnamed, hmethM, hst, hab⟩ := Cond.instanceMethod_spec wi
  have hp := Cond.privateMethod_at wp mk methM hnamed hmethM
  have hf := State.methodFound?_of_named hnamed hy
  have hc := findClass_of_methodNamed hnamed
  obtain ⟨c, k, h1, h2, h3, h4, -⟩ := Cond.instantiable_spec wk
  cases h1.symm.trans hc
  have h5 : k.isInterface = false := (Bool.or_eq_false_iff.mp h4).1
  simp [Cond.before, Cond.holds, Cond.value, hc, hf, hnamed, selectMethod, hmethM, hp, h2, h5]
/-- an array of that length -/
def Arl (Z : State) (h : Heap) (a : Addr) (n : Int32) : Prop := ∃ k ty vs d, Arv Z h a k ty n vs d
theorem Arv.arl {Z : State} {h : Heap} {a : Addr} {k : ClassId} {ty : FieldType} {n : Int32} {vs : List Value} {d : Value} (A : Arv Z h a k ty n vs d) : Arl Z h a n := ⟨k, ty, vs, d, A⟩
theorem Arl.lt {Z : State} {h : Heap} {a : Addr} {n : Int32} (A : Arl Z h a n) : a < h.size := by obtain ⟨k, ty, vs, d, A⟩ := A; exact A.lt
theorem Arl.ext {Z : State} {h h' : Heap} {a : Addr} {n : Int32} (A : Arl Z h a n) (E : Ext h h') : Arl Z h' a n := by obtain ⟨k, ty, vs, d, A⟩ := A; exact ⟨k, ty, vs, d, A.ext E⟩
theorem Arl.other {Z : State} {h h' : Heap} {a b : Addr} {n : Int32} {sl : Nat} {v : Value} (A : Arl Z h b n) (W : Wr h h' a sl v) (q : b ≠ a) : Arl Z h' b n := by obtain ⟨k, ty, vs, d, A⟩ := A; exact ⟨k, ty, vs, d, A.other W q⟩
theorem Arl.keep {Z : State} {h h' : Heap} {a : Addr} {n : Int32} {ws : List Addr} (A : Arl Z h a n) (K : Keep h h' ws) (q : a ∉ ws) : Arl Z h' a n := by obtain ⟨k, ty, vs, d, A⟩ := A; exact ⟨k, ty, vs, d, A.keep K q⟩
section Steps
variable {p : Program} {l : Launch} {e : Env} {R : Room} {s : State} {m : MethodId} {args : Array Value} {below : List Frame} {meth : Method} {c : Code} {T : State} {locs : List Loc} {cells slots : Nat} {K : State → Outcome → Prop} {Z : State} {a0 : Array Value} {h : Heap} {bs : ByteArray} {Ls Ls' : Array Slot} {st : List Value} {pc pc' : Nat}
theorem gIloadN (X : Stand p l e R s m args below meth c T locs cells slots) (H : p.tables.exec = Jvm.exec ∧ c.code = bs) {k : Fin 4} {v : Int32} (hd : decode bs pc = .ok (.iload_n k, 1)) (hl : Ls[k.val]? = some (.val (.int v))) (pc' : Nat) (hp : pc + 1 = pc') (g : Go p e below K (T.setTop (mkF m pc' Ls (.int v :: st)))) : Go p e below K (T.setTop (mkF m pc Ls (st))) := by
  subst hp
  exact Go.via (fun t k => XS.iloadN (g := mkF m pc Ls (st)) X.here H.1 rfl (hb H.2 hd) hl k) g
theorem gAloadN (X : Stand p l e R s m args below meth c T locs cells slots) (H : p.tables.exec = Jvm.exec ∧ c.code = bs) {k : Fin 4} {v : Value} (hd : decode bs pc = .ok (.aload_n k, 1)) (hl : Ls[k.val]? = some (.val v)) (hv : v.isRef = true) (pc' : Nat) (hp : pc + 1 = pc') (g : Go p e below K (T.setTop (mkF m pc' Ls (v :: st)))) : Go p e below K (T.setTop (mkF m pc Ls (st))) := by
  subst hp
  exact Go.via (fun t k => XS.aloadN (g := mkF m pc Ls (st)) X.here H.1 rfl (hb H.2 hd) hl hv k) g
theorem gIstoreN (X : Stand p l e R s m args below meth c T locs cells slots) (H : p.tables.exec = Jvm.exec ∧ c.code = bs) {k : Fin 4} {v : Int32} (hd : decode bs pc = .ok (.istore_n k, 1)) (hl : storeLocals Ls k.val (.int v) = some Ls') (pc' : Nat) (hp : pc + 1 = pc') (g : Go p e below K (T.setTop (mkF m pc' Ls' (st)))) : Go p e below K (T.setTop (mkF m pc Ls (.int v :: st))) := by
  subst hp
  exact Go.via (fun t k => XS.istoreN (g := mkF m pc Ls (.int v :: st)) X.here H.1 rfl (hb H.2 hd) rfl hl k) g
theorem gAstoreN (X : Stand p l e R s m args below meth c T locs cells slots) (H : p.tables.exec = Jvm.exec ∧ c.code = bs) {k : Fin 4} {v : Value} (hd : decode bs pc = .ok (.astore_n k, 1)) (hv : v.isRef = true) (hl : storeLocals Ls k.val v = some Ls') (pc' : Nat) (hp : pc + 1 = pc') (g : Go p e below K (T.setTop (mkF m pc' Ls' (st)))) : Go p e below K (T.setTop (mkF m pc Ls (v :: st))) := by
  subst hp
  exact Go.via (fun t k => XS.astoreN (g := mkF m pc Ls (v :: st)) X.here H.1 rfl (hb H.2 hd) rfl hv hl k) g
theorem gIload (X : Stand p l e R s m args below meth c T locs cells slots) (H : p.tables.exec = Jvm.exec ∧ c.code = bs) {k : Nat} {v : Int32} (hd : decode bs pc = .ok (.iload k, 2)) (hl : Ls[k]? = some (.val (.int v))) (pc' : Nat) (hp : pc + 2 = pc') (g : Go p e below K (T.setTop (mkF m pc' Ls (.int v :: st)))) : Go p e below K (T.setTop (mkF m pc Ls (st))) := by
  subst hp
  exact Go.via (fun t k => XS.iload (g := mkF m pc Ls (st)) X.here H.1 rfl (hb H.2 hd) hl k) g
theorem gAload (X : Stand p l e R s m args below meth c T locs cells slots) (H : p.tables.exec = Jvm.exec ∧ c.code = bs) {k : Nat} {v : Value} (hd : decode bs pc = .ok (.aload k, 2)) (hl : Ls[k]? = some (.val v)) (hv : v.isRef = true) (pc' : Nat) (hp : pc + 2 = pc') (g : Go p e below K (T.setTop (mkF m pc' Ls (v :: st)))) : Go p e below K (T.setTop (mkF m pc Ls (st))) := by
  subst hp
  exact Go.via (fun t k => XS.aload (g := mkF m pc Ls (st)) X.here H.1 rfl (hb H.2 hd) hl hv k) g
theorem gIstore (X : Stand p l e R s m args below meth c T locs cells slots) (H : p.tables.exec = Jvm.exec ∧ c.code = bs) {k : Nat} {v : Int32} (hd : decode bs pc = .ok (.istore k, 2)) (hl : storeLocals Ls k (.int v) = some Ls') (pc' : Nat) (hp : pc + 2 = pc') (g : Go p e below K (T.setTop (mkF m pc' Ls' (st)))) : Go p e below K (T.setTop (mkF m pc Ls (.int v :: st))) := by
  subst hp
  exact Go.via (fun t k => XS.istore (g := mkF m pc Ls (.int v :: st)) X.here H.1 rfl (hb H.2 hd) rfl hl k) g
theorem gAstore (X : Stand p l e R s m args below meth c T locs cells slots) (H : p.tables.exec = Jvm.exec ∧ c.code = bs) {k : Nat} {v : Value} (hd : decode bs pc = .ok (.astore k, 2)) (hv : v.isRef = true) (hl : storeLocals Ls k v = some Ls') (pc' : Nat) (hp : pc + 2 = pc') (g : Go p e below K (T.setTop (mkF m pc' Ls' (st)))) : Go p e below K (T.setTop (mkF m pc Ls (v :: st))) := by
  subst hp
  exact Go.via (fun t k => XS.astore (g := mkF m pc Ls (v :: st)) X.here H.1 rfl (hb H.2 hd) rfl hv hl k) g
theorem gIconst (X : Stand p l e R s m args below meth c T locs cells slots) (H : p.tables.exec = Jvm.exec ∧ c.code = bs) {i : Int} {z : Int32} (hd : decode bs pc = .ok (.iconst i, 1)) (hz : Int32.ofInt i = z) (pc' : Nat) (hp : pc + 1 = pc') (g : Go p e below K (T.setTop (mkF m pc' Ls (.int z :: st)))) : Go p e below K (T.setTop (mkF m pc Ls (st))) := by
  subst hp hz
  exact Go.via (fun t k => XS.iconst (g := mkF m pc Ls (st)) X.here H.1 rfl (hb H.2 hd) k) g
theorem gBipush (X : Stand p l e R s m args below meth c T locs cells slots) (H : p.tables.exec = Jvm.exec ∧ c.code = bs) {i : Int} {z : Int32} (hd : decode bs pc = .ok (.bipush i, 2)) (hz : (Int8.ofInt i).toInt32 = z) (pc' : Nat) (hp : pc + 2 = pc') (g : Go p e below K (T.setTop (mkF m pc' Ls (.int z :: st)))) : Go p e below K (T.setTop (mkF m pc Ls (st))) := by
  subst hp hz
  exact Go.via (fun t k => XS.bipush (g := mkF m pc Ls (st)) X.here H.1 rfl (hb H.2 hd) k) g
theorem g_iadd (X : Stand p l e R s m args below meth c T locs cells slots) (H : p.tables.exec = Jvm.exec ∧ c.code = bs) {x y z : Int32} (hd : decode bs pc = .ok (.iadd, 1)) (hz : x + y = z) (pc' : Nat) (hp : pc + 1 = pc') (g : Go p e below K (T.setTop (mkF m pc' Ls (.int z :: st)))) : Go p e below K (T.setTop (mkF m pc Ls (.int y :: .int x :: st))) := by
  subst hp hz
  exact Go.via (fun t k => XS.iadd (g := mkF m pc Ls (.int y :: .int x :: st)) X.here H.1 rfl (hb H.2 hd) rfl k) g
theorem g_isub (X : Stand p l e R s m args below meth c T locs cells slots) (H : p.tables.exec = Jvm.exec ∧ c.code = bs) {x y z : Int32} (hd : decode bs pc = .ok (.isub, 1)) (hz : x - y = z) (pc' : Nat) (hp : pc + 1 = pc') (g : Go p e below K (T.setTop (mkF m pc' Ls (.int z :: st)))) : Go p e below K (T.setTop (mkF m pc Ls (.int y :: .int x :: st))) := by
  subst hp hz
  exact Go.via (fun t k => XS.isub (g := mkF m pc Ls (.int y :: .int x :: st)) X.here H.1 rfl (hb H.2 hd) rfl k) g
theorem g_imul (X : Stand p l e R s m args below meth c T locs cells slots) (H : p.tables.exec = Jvm.exec ∧ c.code = bs) {x y z : Int32} (hd : decode bs pc = .ok (.imul, 1)) (hz : x * y = z) (pc' : Nat) (hp : pc + 1 = pc') (g : Go p e below K (T.setTop (mkF m pc' Ls (.int z :: st)))) : Go p e below K (T.setTop (mkF m pc Ls (.int y :: .int x :: st))) := by
  subst hp hz
  exact Go.via (fun t k => XS.imul (g := mkF m pc Ls (.int y :: .int x :: st)) X.here H.1 rfl (hb H.2 hd) rfl k) g
theorem g_iand (X : Stand p l e R s m args below meth c T locs cells slots) (H : p.tables.exec = Jvm.exec ∧ c.code = bs) {x y z : Int32} (hd : decode bs pc = .ok (.iand, 1)) (hz : x &&& y = z) (pc' : Nat) (hp : pc + 1 = pc') (g : Go p e below K (T.setTop (mkF m pc' Ls (.int z :: st)))) : Go p e below K (T.setTop (mkF m pc Ls (.int y :: .int x :: st))) := by
  subst hp hz
  exact Go.via (fun t k => XS.iand (g := mkF m pc Ls (.int y :: .int x :: st)) X.here H.1 rfl (hb H.2 hd) rfl k) g
theorem g_irem (X : Stand p l e R s m args below meth c T locs cells slots) (H : p.tables.exec = Jvm.exec ∧ c.code = bs) {x y z : Int32} (hd : decode bs pc = .ok (.irem, 1)) (hy : y ≠ 0) (hz : x % y = z) (pc' : Nat) (hp : pc + 1 = pc') (g : Go p e below K (T.setTop (mkF m pc' Ls (.int z :: st)))) : Go p e below K (T.setTop (mkF m pc Ls (.int y :: .int x :: st))) := by
  subst hp hz
  exact Go.via (fun t k => iremM (g := mkF m pc Ls (.int y :: .int x :: st)) X H.1 rfl (hb H.2 hd) rfl hy k) g
theorem gDup (X : Stand p l e R s m args below meth c T locs cells slots) (H : p.tables.exec = Jvm.exec ∧ c.code = bs) {v : Value} (hd : decode bs pc = .ok (.dup, 1)) (hc : v.category = 1) (pc' : Nat) (hp : pc + 1 = pc') (g : Go p e below K (T.setTop (mkF m pc' Ls (v :: v :: st)))) : Go p e below K (T.setTop (mkF m pc Ls (v :: st))) := by
  subst hp
  exact Go.via (fun t k => XS.dup (g := mkF m pc Ls (v :: st)) X.here H.1 rfl (hb H.2 hd) rfl hc k) g
theorem gIinc (X : Stand p l e R s m args below meth c T locs cells slots) (H : p.tables.exec = Jvm.exec ∧ c.code = bs) {k : Nat} {i : Int} {v : Int32} (hd : decode bs pc = .ok (.iinc k i, 3)) (hl : Ls[k]? = some (.val (.int v))) (hl' : storeLocals Ls k (.int (v + Int32.ofInt i)) = some Ls') (pc' : Nat) (hp : pc + 3 = pc') (g : Go p e below K (T.setTop (mkF m pc' Ls' (st)))) : Go p e below K (T.setTop (mkF m pc Ls (st))) := by
  subst hp
  exact Go.via (fun t k => XS.iinc (g := mkF m pc Ls (st)) X.here H.1 rfl (hb H.2 hd) hl hl' k) g
theorem gGoto (X : Stand p l e R s m args below meth c T locs cells slots) (H : p.tables.exec = Jvm.exec ∧ c.code = bs)  {o : Int} (hd : decode bs pc = .ok (.goto o, 3)) (ho : 0 ≤ (pc : Int) + o) (pc' : Nat) (hp : ((pc : Int) + o).toNat = pc') (g : Go p e below K (T.setTop (mkF m pc' Ls (st)))) : Go p e below K (T.setTop (mkF m pc Ls (st))) :=
  Go.via (fun t k => XS.goto (g := mkF m pc Ls (st)) X.here H.1 rfl rfl (hb H.2 hd) ho hp k) g
theorem gCmpY (X : Stand p l e R s m args below meth c T locs cells slots) (H : p.tables.exec = Jvm.exec ∧ c.code = bs) {cd : ClassFile.Cond} {x y : Int32} {o : Int} (hd : decode bs pc = .ok (.if_icmp cd o, 3)) (hc : if_icmp.holds cd x y = true) (ho : 0 ≤ (pc : Int) + o) (pc' : Nat) (hp : ((pc : Int) + o).toNat = pc') (g : Go p e below K (T.setTop (mkF m pc' Ls (st)))) : Go p e below K (T.setTop (mkF m pc Ls (.int y :: .int x :: st))) :=
  Go.via (fun t k => XS.icmpYes (g := mkF m pc Ls (.int y :: .int x :: st)) X.here H.1 rfl rfl (hb H.2 hd) rfl hc ho hp k) g
theorem gCmpN (X : Stand p l e R s m args below meth c T locs cells slots) (H : p.tables.exec = Jvm.exec ∧ c.code = bs) {o : Int} {cd : ClassFile.Cond} {x y : Int32} (hd : decode bs pc = .ok (.if_icmp cd o, 3)) (hc : if_icmp.holds cd x y = false) (pc' : Nat) (hp : pc + 3 = pc') (g : Go p e below K (T.setTop (mkF m pc' Ls (st)))) : Go p e below K (T.setTop (mkF m pc Ls (.int y :: .int x :: st))) := by
  subst hp
  exact Go.via (fun t k => XS.icmpNo (g := mkF m pc Ls (.int y :: .int x :: st)) X.here H.1 rfl (hb H.2 hd) rfl hc k) g
theorem gLdc (X : Stand p l e R s m args below meth c T locs cells slots) (H : p.tables.exec = Jvm.exec ∧ c.code = bs) (hZ : Z.Warmed39 s.vm) {own : String} {index : Nat} (hown : s.vm.findClass own = some m.cls) {v : Int32} (w : (Cond.constant own index v).before a0 Z = true) (hd : decode bs pc = .ok (.ldc index, 2)) (pc' : Nat) (hp : pc + 2 = pc') (g : Go p e below K (T.setTop (mkF m pc' Ls (.int v :: st)))) : Go p e below K (T.setTop (mkF m pc Ls (st))) := by
  subst hp
  exact Go.via (X.ldcInt H.1 hown (mvT hZ w) (g := mkF m pc Ls st) rfl (hb H.2 hd)) g
theorem gGetS (X : Stand p l e R s m args below meth c T locs cells slots) (H : p.tables.exec = Jvm.exec ∧ c.code = bs) (hZ : Z.Warmed39 s.vm) {own : String} {index : Nat} (hown : s.vm.findClass own = some m.cls) {O n d : String} {v : Value} (w : (Cond.fieldLink own index O n d).before a0 Z = true) (eT : T.heap = h) (F : Sta Z h O n d v) (hd : decode bs pc = .ok (.getstatic index, 3)) (pc' : Nat) (hp : pc + 3 = pc') (g : ∀ T', Stand p l e R s m args below meth c T' locs cells slots → T'.heap = h → Go p e below K (T'.setTop (mkF m pc' Ls (v :: st)))) : Go p e below K (T.setTop (mkF m pc Ls (st))) := by
  subst hp
  obtain ⟨T', X', e', k⟩ := getS2 X H.1 hZ hown (host := "") (Or.inl w) Via.refl eT F (g := mkF m pc Ls st) rfl (hb H.2 hd)
  exact Go.via k (g T' X' e')
theorem gGetF (X : Stand p l e R s m args below meth c T locs cells slots) (H : p.tables.exec = Jvm.exec ∧ c.code = bs) (hZ : Z.Warmed39 s.vm) {own : String} {index : Nat} (hown : s.vm.findClass own = some m.cls) {R0 O n d : String} {a : Addr} {v : Value} (w : (Cond.fieldLink own index R0 n d).before a0 Z = true) (via : Via Z R0 O n d) (eT : T.heap = h) (F : Fld Z h a O n d v) (hd : decode bs pc = .ok (.getfield index, 3)) (pc' : Nat) (hp : pc + 3 = pc') (g : ∀ T', Stand p l e R s m args below meth c T' locs cells slots → T'.heap = h → Go p e below K (T'.setTop (mkF m pc' Ls (v :: st)))) : Go p e below K (T.setTop (mkF m pc Ls (.ref a :: st))) := by
  subst hp
  obtain ⟨T', X', e', k⟩ := getF X H.1 hZ hown (host := "") (Or.inl w) via eT F (g := mkF m pc Ls (.ref a :: st)) rfl rfl (hb H.2 hd)
  exact Go.via k (g T' X' e')
theorem gStatic (X : Stand p l e R s m args below meth c T locs cells slots) (H : p.tables.exec = Jvm.exec ∧ c.code = bs) (hZ : Z.Warmed39 s.vm) {own : String} {index : Nat} (hown : s.vm.findClass own = some m.cls) {y : MethodName} {bytes : ByteArray} {maxL : Nat} {ret : Option FieldType} {rm : Room} {as : Array Value} {Q : Option Value → Heap → List Loc → Prop} {W maxO : Nat} {argsL rest : List Value} {ps : List FieldType} {r : Option FieldType} (wl : (Cond.methodLink own index y).before a0 Z = true) (wst : (Cond.static y).before a0 Z = true) (hy : y.cls ≠ "java/lang/invoke/MethodHandle" ∧ y.cls ≠ "java/lang/invoke/VarHandle") (wc : (Cond.code y bytes maxL ret).before a0 Z = true) (wz : (Cond.initialized (y).cls).before a0 Z = true) (M : Con l Z y bytes maxL ret rm as h Q) (eT : T.heap = h) (hml : c.maxLocals = maxO) (hs : Ls.size = maxO) (hpd : parseMethodDescriptor y.desc = some ⟨ps, r⟩) (hlen : argsL.length = ps.length) (hstack : st = argsL.reverse ++ rest) (has : argsL.toArray = as) (hd : decode bs pc = .ok (.invokestatic index, 3)) (pc' : Nat) (hp : pc + 3 = pc')
    (g : ∀ v T' L, Q v T'.heap L → Stand p l e R s m args below meth c T' (locs ++ L) (cells + rm.cells) (slots + rm.slots) → Go p e below K (T'.setTop (mkF m pc' Ls (v.toList ++ rest)))) (hW : (rest.map fun v => v.category).sum ≤ W := by exact Nat.le_of_eq rfl) (hf : rm.frames + 1 ≤ R.frames := by decide) (hl : W + (maxL + 11) + rm.locals ≤ R.locals := by decide) (hc : cells + rm.cells ≤ R.cells := by decide) (hsl : slots + rm.slots ≤ R.slots := by decide) : Go p e below K (T.setTop (mkF m pc Ls (st))) := by
  subst hp has
  obtain ⟨v, _, ⟨T', L', k', n'⟩, -, X', ⟨L, hQ, l', y', z'⟩, k⟩ := Jvm.LawKit.callS X H.1 (y := y) hown (mvT hZ wl) (mvT hZ wst) (mvT hZ wz) (mvT hZ wc) hy (backOf (W := W) (M []) hZ wc wz hf hl) (g := mkF m pc Ls st) rfl (hs.trans hml.symm) (argsL := argsL) (rest := rest) (lenOf hpd hlen) hstack (by show 2 * 0 + _ ≤ _; omega) (hb H.2 hd) (fun _ _ => ⟨rfl, eT, hc, hsl⟩)
  dsimp only [Pt.U, Pt.locs, Pt.cells, Pt.slots] at X' l' y' z' k hQ
  subst l' y' z'
  exact Go.via k (g v T' L hQ X')
theorem gSpecial (X : Stand p l e R s m args below meth c T locs cells slots) (H : p.tables.exec = Jvm.exec ∧ c.code = bs) (hZ : Z.Warmed39 s.vm) {own : String} {index : Nat} (hown : s.vm.findClass own = some m.cls) {y : MethodName} {bytes : ByteArray} {maxL : Nat} {ret : Option FieldType} {rm : Room} {as : Array Value} {Q : Option Value → Heap → List Loc → Prop} {W maxO : Nat} {argsL rest : List Value} {ps : List FieldType} {r : Option FieldType} (hin : y.name = "<init>") (hrn : ret = none) (wl : (Cond.methodLink own index y).before a0 Z = true) (wi : (Cond.instanceMethod y).before a0 Z = true) (hy : y.cls ≠ "java/lang/invoke/MethodHandle" ∧ y.cls ≠ "java/lang/invoke/VarHandle") {b : Addr} (wc : (Cond.code y bytes maxL ret).before a0 Z = true) (wz : (Cond.initialized (y).cls).before a0 Z = true) (M : Con l Z y bytes maxL ret rm as h Q) (eT : T.heap = h) (hml : c.maxLocals = maxO) (hs : Ls.size = maxO) (hpd : parseMethodDescriptor y.desc = some ⟨ps, r⟩) (hlen : argsL.length = ps.length) (hstack : st = argsL.reverse ++ .ref b :: rest) (has : (.ref b :: argsL).toArray = as) (hd : decode bs pc = .ok (.invokespecial index, 3)) (pc' : Nat) (hp : pc + 3 = pc')
    (g : ∀ v T' L, Q v T'.heap L → Stand p l e R s m args below meth c T' (locs ++ L) (cells + rm.cells) (slots + rm.slots) → Go p e below K (T'.setTop (mkF m pc' Ls (v.toList ++ rest)))) (hW : (rest.map fun v => v.category).sum ≤ W := by exact Nat.le_of_eq rfl) (hf : rm.frames + 1 ≤ R.frames := by decide) (hl : W + (maxL + 11) + rm.locals ≤ R.locals := by decide) (hc : cells + rm.cells ≤ R.cells := by decide) (hsl : slots + rm.slots ≤ R.slots := by decide) : Go p e below K (T.setTop (mkF m pc Ls (st))) := by
  subst hp has
  subst hrn
  obtain ⟨v, _, ⟨T', L', k', n'⟩, -, X', ⟨L, hQ, l', y', z'⟩, k⟩ := X.specialBack H.1 (y := y) hin hown (mvT hZ wl) (mvT hZ wi) (mvT hZ wc) hy (backOf (W := W) (M []) hZ wc wz hf hl) (g := mkF m pc Ls st) rfl (hs.trans hml.symm) (Steps.refl _) (a := b) (argsL := argsL) (rest := rest) (lenOf hpd hlen) hstack (by show 2 * 0 + _ ≤ _; omega) (hb H.2 hd) (fun _ _ => ⟨rfl, eT, hc, hsl⟩)
  dsimp only [Pt.U, Pt.locs, Pt.cells, Pt.slots] at X' l' y' z' k hQ
  subst l' y' z'
  exact Go.via (fun t q => k.trans q) (g v T' L hQ X')
theorem gRetN (X : Stand p l e R s m args below meth c T locs cells slots) (H : p.tables.exec = Jvm.exec ∧ c.code = bs) (hlk : meth.locks = false) {Q : Option Value → Heap → List Loc → Prop} {C S : Nat} {t : FieldType} {z : Int32} (hret : meth.sig.returnType = some t) (ht : t = .boolean ∨ t = .byte ∨ t = .char ∨ t = .short) (hd : decode bs pc = .ok (.ireturn, 1)) (eT : T.heap = h) (q : Q (some (.int (nar t z))) h locs) (hC : cells ≤ C := by decide) (hS : slots ≤ S := by decide) : Go p e below (EndK s below Q C S) (T.setTop (mkF m pc Ls (.int z :: st))) := by
  subst eT
  obtain ⟨fs, hr, hrun, hended, hW, hsame⟩ := X.leave (v := (some (.int (nar t z)))) (fun h => by rw [hret] at h; cases h) hlk
  exact ⟨_, _, retN X H.1 hret ht (hb H.2 hd) hr, hrun, hended, _, _, rfl, q, ⟨_, rfl⟩, hW, hsame.mono hC hS⟩
theorem gRetI (X : Stand p l e R s m args below meth c T locs cells slots) (H : p.tables.exec = Jvm.exec ∧ c.code = bs) (hlk : meth.locks = false) {Q : Option Value → Heap → List Loc → Prop} {C S : Nat} {z : Int32} (hret : meth.sig.returnType = some .int) (hd : decode bs pc = .ok (.ireturn, 1)) (eT : T.heap = h) (q : Q (some (.int z)) h locs) (hC : cells ≤ C := by decide) (hS : slots ≤ S := by decide) : Go p e below (EndK s below Q C S) (T.setTop (mkF m pc Ls (.int z :: st))) := by
  subst eT
  obtain ⟨fs, hr, hrun, hended, hW, hsame⟩ := X.leave (v := (some (.int z))) (fun h => by rw [hret] at h; cases h) hlk
  exact ⟨_, _, retOut X H.1 hret rfl (Or.inl ⟨rfl, Or.inl rfl, z, rfl⟩) (hb H.2 hd) hr, hrun, hended, _, _, rfl, q, ⟨_, rfl⟩, hW, hsame.mono hC hS⟩
theorem gRetA (X : Stand p l e R s m args below meth c T locs cells slots) (H : p.tables.exec = Jvm.exec ∧ c.code = bs) (hlk : meth.locks = false) {Q : Option Value → Heap → List Loc → Prop} {C S : Nat} {w : Value} {t : FieldType} (hret : meth.sig.returnType = some t) (hn : narrow t w = w) (ht : t.isReference = true) (hv : w.isRef = true) (hd : decode bs pc = .ok (.areturn, 1)) (eT : T.heap = h) (q : Q (some w) h locs) (hC : cells ≤ C := by decide) (hS : slots ≤ S := by decide) : Go p e below (EndK s below Q C S) (T.setTop (mkF m pc Ls (w :: st))) := by
  subst eT
  obtain ⟨fs, hr, hrun, hended, hW, hsame⟩ := X.leave (v := (some w)) (fun h => by rw [hret] at h; cases h) hlk
  exact ⟨_, _, retOut X H.1 hret hn (Or.inr (Or.inr (Or.inr (Or.inr ⟨rfl, ht, hv⟩)))) (hb H.2 hd) hr, hrun, hended, _, _, rfl, q, ⟨_, rfl⟩, hW, hsame.mono hC hS⟩
theorem gRetV (X : Stand p l e R s m args below meth c T locs cells slots) (H : p.tables.exec = Jvm.exec ∧ c.code = bs) (hlk : meth.locks = false) {Q : Option Value → Heap → List Loc → Prop} {C S : Nat}  (hret : meth.sig.returnType = none) (hd : decode bs pc = .ok (.return_, 1)) (eT : T.heap = h) (q : Q none h locs) (hC : cells ≤ C := by decide) (hS : slots ≤ S := by decide) : Go p e below (EndK s below Q C S) (T.setTop (mkF m pc Ls ([]))) := by
  subst eT
  obtain ⟨fs, hr, hrun, hended, hW, hsame⟩ := X.leave (v := none) (fun _ => rfl) hlk
  exact ⟨_, _, X.returnOut H.1 hret (hb H.2 hd) hr, hrun, hended, _, _, rfl, q, ⟨_, rfl⟩, hW, hsame.mono hC hS⟩
theorem gNew (X : Stand p l e R s m args below meth c T locs cells slots) (H : p.tables.exec = Jvm.exec ∧ c.code = bs) (hZ : Z.Warmed39 s.vm) {own : String} {index : Nat} (hown : s.vm.findClass own = some m.cls) {C : String} {n : Nat} (w : (Cond.classLink own index C).before a0 Z = true) (wi : (Cond.instantiable C n).before a0 Z = true) (wz : (Cond.initialized C).before a0 Z = true) (eT : T.heap = h) (hc : cells + 1 ≤ R.cells) (hsl : slots + n ≤ R.slots) (hd : decode bs pc = .ok (.new index, 3)) (pc' : Nat) (hp : pc + 3 = pc')
    (g : ∀ T' h' b, Stand p l e R s m args below meth c T' locs (cells + 1) (slots + n) → T'.heap = h' → h.size = b → Ext h h' → Exa Z h' b C → (∀ {O nm d : String} {ty : FieldType}, Laid Z a0 C O nm d → parseFieldDescriptor d = some ty → Fld Z h' b O nm d (defaultValue ty)) → Go p e below K (T'.setTop (mkF m pc' Ls (.ref b :: st)))) : Go p e below K (T.setTop (mkF m pc Ls (st))) := by
  subst hp
  obtain ⟨T', h', X', e', E', A', D', -, k⟩ := newO X H.1 hZ hown w wi wz eT (g := mkF m pc Ls st) rfl (hb H.2 hd) hc hsl
  exact Go.via k (g T' h' _ X' e' rfl E' A' D')
theorem gInitO (X : Stand p l e R s m args below meth c T locs cells slots) (H : p.tables.exec = Jvm.exec ∧ c.code = bs) (hZ : Z.Warmed39 s.vm) {own : String} {index : Nat} (hown : s.vm.findClass own = some m.cls) (w1 : (Cond.methodLink own index Lib.objectInit).before a0 Z = true) (w2 : (Cond.instanceMethod Lib.objectInit).before a0 Z = true) (w3 : (Cond.code Lib.objectInit ⟨#[0xb1]⟩ 1 none).before a0 Z = true) (eT : T.heap = h) {a : Addr} {V maxO : Nat} (hml : c.maxLocals = maxO) (hs : Ls.size = maxO) (hW : (st.map fun v => v.category).sum ≤ V) (hf : 1 ≤ R.frames) (hl : V + 12 ≤ R.locals) (hd : decode bs pc = .ok (.invokespecial index, 3)) (pc' : Nat) (hp : pc + 3 = pc')
    (g : ∀ T', Stand p l e R s m args below meth c T' locs cells slots → T'.heap = h → Go p e below K (T'.setTop (mkF m pc' Ls st))) : Go p e below K (T.setTop (mkF m pc Ls (.ref a :: st))) := by
  subst hp
  obtain ⟨T', X', e', k⟩ := initO X H.1 hZ hown w1 w2 w3 eT (g := mkF m pc Ls (.ref a :: st)) rfl (hs.trans hml.symm) rfl (hb H.2 hd) hf (W := V) (by show 2 * 0 + _ ≤ _; omega) hl
  exact Go.via k (g T' X' e')
theorem gPutF (X : Stand p l e R s m args below meth c T locs cells slots) (H : p.tables.exec = Jvm.exec ∧ c.code = bs) (hZ : Z.Warmed39 s.vm) {own : String} {index : Nat} (hown : s.vm.findClass own = some m.cls) {R0 O n d C : String} {kk : Nat} {ty : FieldType} (w : (Cond.fieldLink own index R0 n d).before a0 Z = true) (via : Via Z R0 O n d) (eT : T.heap = h) {a : Addr} {v v' old : Value} (F : Fld Z h a O n d old) (E : Exa Z h a C) (L : (Cond.lays C O n d).before a0 Z = true ∨ ((Cond.laysFinal C O n d).before a0 Z = true ∧ own = O ∧ meth.name = "<init>")) (wi : (Cond.instantiable C kk).before a0 Z = true) (hty : parseFieldDescriptor d = some ty) (hn : narrow ty v = v') (hf : fits ty v' = true) (hd : decode bs pc = .ok (.putfield index, 3)) (pc' : Nat) (hp : pc + 3 = pc')
    (g : ∀ T' h', Stand p l e R s m args below meth c T' (locs ++ [⟨a, Jvm.RoadKit.slotOf Z O n d⟩]) cells slots → T'.heap = h' → Wr h h' a (Jvm.RoadKit.slotOf Z O n d) v' → Fld Z h' a O n d v' → Go p e below K (T'.setTop (mkF m pc' Ls st))) : Go p e below K (T.setTop (mkF m pc Ls (v :: .ref a :: st))) := by
  subst hp
  obtain ⟨T', h', X', e', W', k⟩ := putFN X H.1 hZ hown w via eT F E L wi hty hn hf (g := mkF m pc Ls (v :: .ref a :: st)) rfl rfl (hb H.2 hd)
  exact Go.via k (g T' h' X' e' W' (F.same W'))
theorem gNewP (X : Stand p l e R s m args below meth c T locs cells slots) (H : p.tables.exec = Jvm.exec ∧ c.code = bs) (hZ : Z.Warmed39 s.vm) {aty : ArrayType} (w : (Cond.arrayClass (newarray.typeOf aty)).before a0 Z = true) (eT : T.heap = h) {n : Int32} (hn : ¬ n < 0) {cap : Nat} (hcap : n.toNatClampNeg ≤ cap) (hb8 : cap * 8 ≤ 536870912) {vs : List Value} (hvs : List.replicate cap (defaultValue (newarray.typeOf aty)) = vs) (hc : cells + 1 ≤ R.cells) (hsl : slots + cap ≤ R.slots) (hd : decode bs pc = .ok (.newarray aty, 2)) (pc' : Nat) (hp : pc + 2 = pc')
    (g : ∀ T' h' b k, Stand p l e R s m args below meth c T' locs (cells + 1) (slots + cap) → T'.heap = h' → h.size = b → Ext h h' → Arv Z h' b k (newarray.typeOf aty) n vs (defaultValue (newarray.typeOf aty)) → Go p e below K (T'.setTop (mkF m pc' Ls (.ref b :: st)))) : Go p e below K (T.setTop (mkF m pc Ls (.int n :: st))) := by
  subst hp
  obtain ⟨T', h', k', X', e', E', A', k⟩ := newP X H.1 hZ w eT (g := mkF m pc Ls (.int n :: st)) rfl (hb H.2 hd) rfl hn hcap hb8 hc hsl
  refine Go.via k (g T' h' _ k' X' e' rfl E' ?_)
  rw [← hvs]
  exact (Arv.new A' hn).pad (pad_rep [] _ _)
theorem gIaload (X : Stand p l e R s m args below meth c T locs cells slots) (H : p.tables.exec = Jvm.exec ∧ c.code = bs) (hZ : Z.Warmed39 s.vm) (eT : T.heap = h) {a : Addr} {k : ClassId} {n j : Int32} {vs : List Value} {dv v : Value} (A : Arv Z h a k .int n vs dv) (hj : ¬ j < 0 ∧ j < n) (hv : vs.getD j.toNatClampNeg dv = v) (hd : decode bs pc = .ok (.iaload, 1)) (pc' : Nat) (hp : pc + 1 = pc') (g : Go p e below K (T.setTop (mkF m pc' Ls (v :: st)))) : Go p e below K (T.setTop (mkF m pc Ls (.int j :: .ref a :: st))) := by
  subst hp
  obtain ⟨c', Ar, q, S, N, Hs, Gs⟩ := A
  have hin := inb_of S hj
  exact Go.via (X.iaload H.1 (j := j) (v := v) (by rw [eT]; exact Ar.1) (State.isArrayOf_alike hZ.alike Ar.2.1) Ar.2.2 hin (Hs.at hin hv) (g := mkF m pc Ls (.int j :: .ref a :: st)) rfl rfl (hb H.2 hd)) g
theorem gLen (X : Stand p l e R s m args below meth c T locs cells slots) (H : p.tables.exec = Jvm.exec ∧ c.code = bs) (hZ : Z.Warmed39 s.vm) (eT : T.heap = h) {a : Addr} {n : Int32} (A : Arl Z h a n) (hd : decode bs pc = .ok (.arraylength, 1)) (pc' : Nat) (hp : pc + 1 = pc') (g : Go p e below K (T.setTop (mkF m pc' Ls (.int n :: st)))) : Go p e below K (T.setTop (mkF m pc Ls (.ref a :: st))) := by
  subst hp
  obtain ⟨k, ty, vs, dv, c', Ar, q, S, N, Hs, Gs⟩ := A
  refine Go.via (X.arraylength H.1 (by rw [eT]; exact Ar.1) (State.isArrayOf_alike hZ.alike Ar.2.1) (g := mkF m pc Ls (.ref a :: st)) rfl rfl (hb H.2 hd)) ?_
  rw [len_of S N]
  exact g
theorem gIastore (X : Stand p l e R s m args below meth c T locs cells slots) (H : p.tables.exec = Jvm.exec ∧ c.code = bs) (hZ : Z.Warmed39 s.vm) (eT : T.heap = h) {a : Addr} {k : ClassId} {n j : Int32} {vs vs' : List Value} {dv : Value} {x : Int32} (A : Arv Z h a k .int n vs dv) (hj : ¬ j < 0 ∧ j < n) {i : Nat} (hi : j.toNatClampNeg = i) (hlt : i < vs.length) (hvs : vs.set i (.int x) = vs') (hd : decode bs pc = .ok (.iastore, 1)) (pc' : Nat) (hp : pc + 1 = pc')
    (g : ∀ T' h', Stand p l e R s m args below meth c T' (locs ++ [⟨a, j.toNatClampNeg⟩]) cells slots → T'.heap = h' → Wr h h' a j.toNatClampNeg (.int x) → Arv Z h' a k .int n vs' dv → Go p e below K (T'.setTop (mkF m pc' Ls st))) : Go p e below K (T.setTop (mkF m pc Ls (.int x :: .int j :: .ref a :: st))) := by
  subst hp hvs
  obtain ⟨c', Ar, q, S, N, Hs, Gs⟩ := A
  have hin := inb_of S hj
  obtain ⟨T', h', X', e', W', k'⟩ := stI X H.1 hZ eT Ar (j := j) hin (g := mkF m pc Ls (.int x :: .int j :: .ref a :: st)) rfl rfl (hb H.2 hd)
  exact Go.via k' (g T' h' X' e' W' (Arv.set Ar q S N Hs Gs rfl W' i hi hlt))
theorem gPrivate (X : Stand p l e R s m args below meth c T locs cells slots) (H : p.tables.exec = Jvm.exec ∧ c.code = bs) (hZ : Z.Warmed39 s.vm) {own : String} {index : Nat} (hown : s.vm.findClass own = some m.cls) {y : MethodName} {bytes : ByteArray} {maxL : Nat} {ret : Option FieldType} {rm : Room} {as : Array Value} {Q : Option Value → Heap → List Loc → Prop} {W maxO : Nat} {argsL rest : List Value} {ps : List FieldType} {r : Option FieldType} (wl : (Cond.methodLink own index y).before a0 Z = true) (wi : (Cond.instanceMethod y).before a0 Z = true) (wp : (Cond.privateMethod y).before a0 Z = true) {kk : Nat} (wk : (Cond.instantiable y.cls kk).before a0 Z = true) (hy : y.cls ≠ "java/lang/invoke/MethodHandle" ∧ y.cls ≠ "java/lang/invoke/VarHandle") {b : Addr} {C : String} (E : Exa Z h b C) (wc : (Cond.code y bytes maxL ret).before a0 Z = true) (wz : (Cond.initialized (y).cls).before a0 Z = true) (M : Con l Z y bytes maxL ret rm as h Q) (eT : T.heap = h) (hml : c.maxLocals = maxO) (hs : Ls.size = maxO) (hpd : parseMethodDescriptor y.desc = some ⟨ps, r⟩) (hlen : argsL.length = ps.length) (hstack : st = argsL.reverse ++ .ref b :: rest) (has : (.ref b :: argsL).toArray = as) (hd : decode bs pc = .ok (.invokevirtual index, 3)) (pc' : Nat) (hp : pc + 3 = pc')
    (g : ∀ v T' L, Q v T'.heap L → Stand p l e R s m args below meth c T' (locs ++ L) (cells + rm.cells) (slots + rm.slots) → Go p e below K (T'.setTop (mkF m pc' Ls (v.toList ++ rest)))) (hW : (rest.map fun v => v.category).sum ≤ W := by exact Nat.le_of_eq rfl) (hf : rm.frames + 1 ≤ R.frames := by decide) (hl : W + (maxL + 11) + rm.locals ≤ R.locals := by decide) (hc : cells + rm.cells ≤ R.cells := by decide) (hsl : slots + rm.slots ≤ R.slots := by decide) : Go p e below K (T.setTop (mkF m pc Ls (st))) := by
  subst hp has
  obtain ⟨cq, q1, q2⟩ := E.cell
  obtain ⟨v, _, ⟨T', L', k', n'⟩, -, X', ⟨L, hQ, l', y', z'⟩, k⟩ := X.privateBack H.1 (y := y) hown (mvT hZ wl) (mvT hZ wi) (mvT hZ (selPriv wp wi wk hy)) (Cond.privateMethod_at (mvP hZ wp (args := #[]))) (mvT hZ wc) hy (backOf (W := W) (M []) hZ wc wz hf hl) (g := mkF m pc Ls st) rfl (hs.trans hml.symm) (Steps.refl _) (a := b) (by rw [eT]; exact q1) q2 (argsL := argsL) (rest := rest) (lenOf hpd hlen) hstack (by show 2 * 0 + _ ≤ _; omega) (hb H.2 hd) (fun _ _ => ⟨rfl, eT, hc, hsl⟩)
  dsimp only [Pt.U, Pt.locs, Pt.cells, Pt.slots] at X' l' y' z' k hQ
  subst l' y' z'
  exact Go.via (fun t q => k.trans q) (g v T' L hQ X')
theorem gCopy (X : Stand p l e R s m args below meth c T locs cells slots) (H : p.tables.exec = Jvm.exec ∧ c.code = bs) (hZ : Z.Warmed39 s.vm) {own : String} {index : Nat} (hown : s.vm.findClass own = some m.cls) (w1 : (Cond.methodLink own index Jvm.Stand.acN).before a0 Z = true) (w2 : (Cond.native Jvm.Stand.acN).before a0 Z = true) (w3 : (Cond.static Jvm.Stand.acN).before a0 Z = true) (w4 : (Cond.initialized "java/lang/System").before a0 Z = true) (eT : T.heap = h) {a b : Addr} {k k' : ClassId} {ty ty' : FieldType} {z z' sp dp nn : Int32} {vs vd us vd' : List Value} {dv dd : Value} (A : Arv Z h a k ty z vs dv) (B : Arv Z h b k' ty' z' vd dd) (hty : (ty = ty' ∧ refKind ty = false) ∨ (refKind ty = true ∧ refKind ty' = true ∧ StoL Z h b us)) (h1 : ¬ sp < 0) (h2 : ¬ dp < 0) (h3 : ¬ nn < 0) (h4 : sp.toNatClampNeg + nn.toNatClampNeg ≤ z.toNatClampNeg) (h5 : dp.toNatClampNeg + nn.toNatClampNeg ≤ z'.toNatClampNeg) (hus : us = (List.range nn.toNatClampNeg).map fun i => vs.getD (sp.toNatClampNeg + i) dv) (hll : dp.toNatClampNeg + nn.toNatClampNeg ≤ vd.length) {n0 : Nat} (N : Fr n0 locs) (ge : n0 ≤ b) {V maxO : Nat} (hml : c.maxLocals = maxO) (hs : Ls.size = maxO) (hf : 1 ≤ R.frames) (hW : (st.map fun v => v.category).sum ≤ V) (hlo : V + (nativeFrameWords "java/lang/System" "arraycopy" 5 + 11) ≤ R.locals) (hvd : vd.take dp.toNatClampNeg ++ us ++ vd.drop (dp.toNatClampNeg + nn.toNatClampNeg) = vd') (hd : decode bs pc = .ok (.invokestatic index, 3)) (pc' : Nat) (hp : pc + 3 = pc')
    (g : ∀ T' h' L, Stand p l e R s m args below meth c T' L cells slots → T'.heap = h' → Fr n0 L → Keep h h' [b] → Arv Z h' b k' ty' z' vd' dd → Go p e below K (T'.setTop (mkF m pc' Ls st))) : Go p e below K (T.setTop (mkF m pc Ls (.int nn :: .int dp :: .ref b :: .int sp :: .ref a :: st))) := by
  subst hp hvd
  obtain ⟨T', h', L, X', e', N', K', V', q⟩ := cpA X H.1 hZ hown w1 w2 w3 w4 eT A B hty h1 h2 h3 h4 h5 hus hll N ge (g := mkF m pc Ls (.int nn :: .int dp :: .ref b :: .int sp :: .ref a :: st)) rfl (hs.trans hml.symm) rfl (hb H.2 hd) hf (W := V) (by show 2 * 0 + _ ≤ _; omega) hlo
  exact Go.via q (g T' h' L X' e' N' K' V')
theorem gVirt (X : Stand p l e R s m args below meth c T locs cells slots) (H : p.tables.exec = Jvm.exec ∧ c.code = bs) (hZ : Z.Warmed39 s.vm) {own : String} {index : Nat} (hown : s.vm.findClass own = some m.cls) {C : String} {y : MethodName} {bytes : ByteArray} {maxL : Nat} {ret : Option FieldType} {rm : Room} {as : Array Value} {Q : Option Value → Heap → List Loc → Prop} {W maxO : Nat} {argsL rest : List Value} {ps : List FieldType} {r : Option FieldType} (wl : (Cond.methodLink own index y).before a0 Z = true) (wd : (Cond.declares y).before a0 Z = true) (wse : (Cond.selects C y y).before a0 Z = true) (wi : (Cond.instanceMethod y).before a0 Z = true) (hy : y.cls ≠ "java/lang/invoke/MethodHandle" ∧ y.cls ≠ "java/lang/invoke/VarHandle") {b : Addr} (E : Exa Z h b C) (wc : (Cond.code y bytes maxL ret).before a0 Z = true) (wz : (Cond.initialized (y).cls).before a0 Z = true) (M : Con l Z y bytes maxL ret rm as h Q) (eT : T.heap = h) (hml : c.maxLocals = maxO) (hs : Ls.size = maxO) (hpd : parseMethodDescriptor y.desc = some ⟨ps, r⟩) (hlen : argsL.length = ps.length) (hstack : st = argsL.reverse ++ .ref b :: rest) (has : (.ref b :: argsL).toArray = as) (hd : decode bs pc = .ok (.invokevirtual index, 3)) (pc' : Nat) (hp : pc + 3 = pc')
    (g : ∀ v T' L, Q v T'.heap L → Stand p l e R s m args below meth c T' (locs ++ L) (cells + rm.cells) (slots + rm.slots) → Go p e below K (T'.setTop (mkF m pc' Ls (v.toList ++ rest)))) (hW : (rest.map fun v => v.category).sum ≤ W := by exact Nat.le_of_eq rfl) (hf : rm.frames + 1 ≤ R.frames := by decide) (hl : W + (maxL + 11) + rm.locals ≤ R.locals := by decide) (hc : cells + rm.cells ≤ R.cells := by decide) (hsl : slots + rm.slots ≤ R.slots := by decide) : Go p e below K (T.setTop (mkF m pc Ls (st))) := by
  subst hp has
  obtain ⟨cB, kB, q1, q2, q3⟩ := isOf hZ eT E
  obtain ⟨v, _, ⟨T', L', k', n'⟩, -, X', ⟨L, hQ, l', y', z'⟩, k⟩ := X.virtualBack H.1 (y := y) (z := y) hown (mvT hZ wl) (mvT hZ wd) (notFace_of_selects (args := #[]) (mvT hZ wse)) (mvT hZ wse) (mvT hZ wi) hy (backOf (W := W) (M []) hZ wc wz hf hl) q1 q3 (g := mkF m pc Ls st) rfl (hs.trans hml.symm) (Steps.refl _) (argsL := argsL) (rest := rest) (lenOf hpd hlen) hstack (by show 2 * 0 + _ ≤ _; omega) (hb H.2 hd) (fun _ _ => ⟨rfl, eT, hc, hsl⟩)
  dsimp only [Pt.U, Pt.locs, Pt.cells, Pt.slots] at X' l' y' z' k hQ
  subst l' y' z'
  exact Go.via (fun t q => k.trans q) (g v T' L hQ X')
end Steps
theorem wd0 : (Jvm.Cond.arrayClass Jvm.ClassFile.FieldType.int) ∈ tables_1 := List.mem_of_getElem? (i := 0) rfl
theorem wd1 : (Jvm.Cond.constant "com/example/blackheight/blackheight/node/TrailClimbToPinLaw" (7 : Nat) (2147483647 : Int32)) ∈ tables_1 := List.mem_of_getElem? (i := 1) rfl
theorem wd2 : (Jvm.Cond.classLink "com/example/blackheight/blackheight/node/TrailClimbToPinLaw" (8 : Nat) "com/example/blackheight/blackheight/node/Trail") ∈ tables_1 := List.mem_of_getElem? (i := 2) rfl
theorem wd3 : (Jvm.Cond.instantiable "com/example/blackheight/blackheight/node/Trail" (4 : Nat)) ∈ tables_1 := List.mem_of_getElem? (i := 3) rfl
theorem wd4 : (Jvm.Cond.initialized "com/example/blackheight/blackheight/node/Trail") ∈ tables_1 := List.mem_of_getElem? (i := 4) rfl
theorem wd5 : (Jvm.Cond.methodLink "com/example/blackheight/blackheight/node/TrailClimbToPinLaw" (10 : Nat) ({ cls := "com/example/blackheight/blackheight/node/Trail", name := "<init>", desc := "()V" } : Jvm.MethodName)) ∈ tables_1 := List.mem_of_getElem? (i := 5) rfl
theorem wd6 : (Jvm.Cond.instanceMethod ({ cls := "com/example/blackheight/blackheight/node/Trail", name := "<init>", desc := "()V" } : Jvm.MethodName)) ∈ tables_1 := List.mem_of_getElem? (i := 6) rfl
theorem wd7 : (Jvm.Cond.code ({ cls := "com/example/blackheight/blackheight/node/Trail", name := "<init>", desc := "()V" } : Jvm.MethodName) prog_22_method_1_code (1 : Nat) (Option.none : Option Jvm.ClassFile.FieldType)) ∈ tables_1 := List.mem_of_getElem? (i := 7) rfl
theorem wd8 : (Jvm.Cond.methodLink "com/example/blackheight/blackheight/node/Trail" (1 : Nat) ({ cls := "java/lang/Object", name := "<init>", desc := "()V" } : Jvm.MethodName)) ∈ tables_1 := List.mem_of_getElem? (i := 8) rfl
theorem wd9 : (Jvm.Cond.instanceMethod ({ cls := "java/lang/Object", name := "<init>", desc := "()V" } : Jvm.MethodName)) ∈ tables_1 := List.mem_of_getElem? (i := 9) rfl
theorem wd10 : (Jvm.Cond.code ({ cls := "java/lang/Object", name := "<init>", desc := "()V" } : Jvm.MethodName) object_method_1_code (1 : Nat) (Option.none : Option Jvm.ClassFile.FieldType)) ∈ tables_1 := List.mem_of_getElem? (i := 10) rfl
theorem wd11 : (Jvm.Cond.fieldLink "com/example/blackheight/blackheight/node/Trail" (7 : Nat) "com/example/blackheight/blackheight/node/Trail" "NO_ROOM" "[I") ∈ tables_1 := List.mem_of_getElem? (i := 11) rfl
theorem wd12 : (Jvm.Cond.laysStatic "com/example/blackheight/blackheight/node/Trail" "NO_ROOM" "[I") ∈ tables_1 := List.mem_of_getElem? (i := 12) rfl
theorem wd13 : (Jvm.Cond.fieldLink "com/example/blackheight/blackheight/node/Trail" (13 : Nat) "com/example/blackheight/blackheight/node/Trail" "entries" "[I") ∈ tables_1 := List.mem_of_getElem? (i := 13) rfl
theorem wd14 : (Jvm.Cond.lays "com/example/blackheight/blackheight/node/Trail" "com/example/blackheight/blackheight/node/Trail" "entries" "[I") ∈ tables_1 := List.mem_of_getElem? (i := 14) rfl
theorem wd15 : (Jvm.Cond.methodLink "com/example/blackheight/blackheight/node/TrailClimbToPinLaw" (17 : Nat) ({ cls := "com/example/blackheight/blackheight/node/Trail", name := "climbTo", desc := "(I)V" } : Jvm.MethodName)) ∈ tables_1 := List.mem_of_getElem? (i := 15) rfl
theorem wd16 : (Jvm.Cond.declares ({ cls := "com/example/blackheight/blackheight/node/Trail", name := "climbTo", desc := "(I)V" } : Jvm.MethodName)) ∈ tables_1 := List.mem_of_getElem? (i := 16) rfl
theorem wd17 : (Jvm.Cond.instanceMethod ({ cls := "com/example/blackheight/blackheight/node/Trail", name := "climbTo", desc := "(I)V" } : Jvm.MethodName)) ∈ tables_1 := List.mem_of_getElem? (i := 17) rfl
theorem wd18 : (Jvm.Cond.selects "com/example/blackheight/blackheight/node/Trail" ({ cls := "com/example/blackheight/blackheight/node/Trail", name := "climbTo", desc := "(I)V" } : Jvm.MethodName) ({ cls := "com/example/blackheight/blackheight/node/Trail", name := "climbTo", desc := "(I)V" } : Jvm.MethodName)) ∈ tables_1 := List.mem_of_getElem? (i := 18) rfl
theorem wd19 : (Jvm.Cond.code ({ cls := "com/example/blackheight/blackheight/node/Trail", name := "climbTo", desc := "(I)V" } : Jvm.MethodName) prog_22_method_9_code (3 : Nat) (Option.none : Option Jvm.ClassFile.FieldType)) ∈ tables_1 := List.mem_of_getElem? (i := 19) rfl
theorem wd20 : (Jvm.Cond.fieldLink "com/example/blackheight/blackheight/node/Trail" (16 : Nat) "com/example/blackheight/blackheight/node/Trail" "depth" "I") ∈ tables_1 := List.mem_of_getElem? (i := 20) rfl
theorem wd21 : (Jvm.Cond.lays "com/example/blackheight/blackheight/node/Trail" "com/example/blackheight/blackheight/node/Trail" "depth" "I") ∈ tables_1 := List.mem_of_getElem? (i := 21) rfl
theorem wd22 : (Jvm.Cond.methodLink "com/example/blackheight/blackheight/node/TrailClimbToPinLaw" (20 : Nat) ({ cls := "com/example/blackheight/blackheight/node/Trail", name := "depth", desc := "()I" } : Jvm.MethodName)) ∈ tables_1 := List.mem_of_getElem? (i := 22) rfl
theorem wd23 : (Jvm.Cond.declares ({ cls := "com/example/blackheight/blackheight/node/Trail", name := "depth", desc := "()I" } : Jvm.MethodName)) ∈ tables_1 := List.mem_of_getElem? (i := 23) rfl
theorem wd24 : (Jvm.Cond.instanceMethod ({ cls := "com/example/blackheight/blackheight/node/Trail", name := "depth", desc := "()I" } : Jvm.MethodName)) ∈ tables_1 := List.mem_of_getElem? (i := 24) rfl
theorem wd25 : (Jvm.Cond.selects "com/example/blackheight/blackheight/node/Trail" ({ cls := "com/example/blackheight/blackheight/node/Trail", name := "depth", desc := "()I" } : Jvm.MethodName) ({ cls := "com/example/blackheight/blackheight/node/Trail", name := "depth", desc := "()I" } : Jvm.MethodName)) ∈ tables_1 := List.mem_of_getElem? (i := 25) rfl
theorem wd26 : (Jvm.Cond.code ({ cls := "com/example/blackheight/blackheight/node/Trail", name := "depth", desc := "()I" } : Jvm.MethodName) prog_22_method_2_code (1 : Nat) (Option.some Jvm.ClassFile.FieldType.int)) ∈ tables_1 := List.mem_of_getElem? (i := 26) rfl
theorem wd27 : (Jvm.Cond.methodLink "com/example/blackheight/blackheight/node/TrailClimbToPinLaw" (11 : Nat) ({ cls := "com/example/blackheight/blackheight/node/Trail", name := "push", desc := "(I)V" } : Jvm.MethodName)) ∈ tables_1 := List.mem_of_getElem? (i := 27) rfl
theorem wd28 : (Jvm.Cond.declares ({ cls := "com/example/blackheight/blackheight/node/Trail", name := "push", desc := "(I)V" } : Jvm.MethodName)) ∈ tables_1 := List.mem_of_getElem? (i := 28) rfl
theorem wd29 : (Jvm.Cond.instanceMethod ({ cls := "com/example/blackheight/blackheight/node/Trail", name := "push", desc := "(I)V" } : Jvm.MethodName)) ∈ tables_1 := List.mem_of_getElem? (i := 29) rfl
theorem wd30 : (Jvm.Cond.selects "com/example/blackheight/blackheight/node/Trail" ({ cls := "com/example/blackheight/blackheight/node/Trail", name := "push", desc := "(I)V" } : Jvm.MethodName) ({ cls := "com/example/blackheight/blackheight/node/Trail", name := "push", desc := "(I)V" } : Jvm.MethodName)) ∈ tables_1 := List.mem_of_getElem? (i := 30) rfl
theorem wd31 : (Jvm.Cond.code ({ cls := "com/example/blackheight/blackheight/node/Trail", name := "push", desc := "(I)V" } : Jvm.MethodName) prog_22_method_6_code (2 : Nat) (Option.none : Option Jvm.ClassFile.FieldType)) ∈ tables_1 := List.mem_of_getElem? (i := 31) rfl
theorem wd32 : (Jvm.Cond.methodLink "com/example/blackheight/blackheight/node/Trail" (26 : Nat) ({ cls := "com/example/blackheight/blackheight/node/Trail", name := "grow", desc := "()V" } : Jvm.MethodName)) ∈ tables_1 := List.mem_of_getElem? (i := 32) rfl
theorem wd33 : (Jvm.Cond.instanceMethod ({ cls := "com/example/blackheight/blackheight/node/Trail", name := "grow", desc := "()V" } : Jvm.MethodName)) ∈ tables_1 := List.mem_of_getElem? (i := 33) rfl
theorem wd34 : (Jvm.Cond.privateMethod ({ cls := "com/example/blackheight/blackheight/node/Trail", name := "grow", desc := "()V" } : Jvm.MethodName)) ∈ tables_1 := List.mem_of_getElem? (i := 34) rfl
theorem wd35 : (Jvm.Cond.code ({ cls := "com/example/blackheight/blackheight/node/Trail", name := "grow", desc := "()V" } : Jvm.MethodName) prog_22_method_16_code (1 : Nat) (Option.none : Option Jvm.ClassFile.FieldType)) ∈ tables_1 := List.mem_of_getElem? (i := 35) rfl
theorem wd36 : (Jvm.Cond.methodLink "com/example/blackheight/blackheight/node/Trail" (58 : Nat) ({ cls := "java/lang/Math", name := "max", desc := "(II)I" } : Jvm.MethodName)) ∈ tables_1 := List.mem_of_getElem? (i := 36) rfl
theorem wd37 : (Jvm.Cond.static ({ cls := "java/lang/Math", name := "max", desc := "(II)I" } : Jvm.MethodName)) ∈ tables_1 := List.mem_of_getElem? (i := 37) rfl
theorem wd38 : (Jvm.Cond.initialized "java/lang/Math") ∈ tables_1 := List.mem_of_getElem? (i := 38) rfl
theorem wd39 : (Jvm.Cond.code ({ cls := "java/lang/Math", name := "max", desc := "(II)I" } : Jvm.MethodName) jdk_29_method_65_code (2 : Nat) (Option.some Jvm.ClassFile.FieldType.int)) ∈ tables_1 := List.mem_of_getElem? (i := 39) rfl
theorem wd40 : (Jvm.Cond.methodLink "com/example/blackheight/blackheight/node/Trail" (52 : Nat) ({ cls := "java/util/Arrays", name := "copyOf", desc := "([II)[I" } : Jvm.MethodName)) ∈ tables_1 := List.mem_of_getElem? (i := 40) rfl
theorem wd41 : (Jvm.Cond.static ({ cls := "java/util/Arrays", name := "copyOf", desc := "([II)[I" } : Jvm.MethodName)) ∈ tables_1 := List.mem_of_getElem? (i := 41) rfl
theorem wd42 : (Jvm.Cond.initialized "java/util/Arrays") ∈ tables_1 := List.mem_of_getElem? (i := 42) rfl
theorem wd43 : (Jvm.Cond.code ({ cls := "java/util/Arrays", name := "copyOf", desc := "([II)[I" } : Jvm.MethodName) jdk_65_method_123_code (3 : Nat) (Option.some (Jvm.ClassFile.FieldType.array Jvm.ClassFile.FieldType.int))) ∈ tables_1 := List.mem_of_getElem? (i := 43) rfl
theorem wd44 : (Jvm.Cond.methodLink "java/util/Arrays" (304 : Nat) ({ cls := "java/lang/Math", name := "min", desc := "(II)I" } : Jvm.MethodName)) ∈ tables_1 := List.mem_of_getElem? (i := 44) rfl
theorem wd45 : (Jvm.Cond.static ({ cls := "java/lang/Math", name := "min", desc := "(II)I" } : Jvm.MethodName)) ∈ tables_1 := List.mem_of_getElem? (i := 45) rfl
theorem wd46 : (Jvm.Cond.code ({ cls := "java/lang/Math", name := "min", desc := "(II)I" } : Jvm.MethodName) jdk_29_method_69_code (2 : Nat) (Option.some Jvm.ClassFile.FieldType.int)) ∈ tables_1 := List.mem_of_getElem? (i := 46) rfl
theorem wd47 : (Jvm.Cond.methodLink "java/util/Arrays" (150 : Nat) ({ cls := "java/lang/System", name := "arraycopy", desc := "(Ljava/lang/Object;ILjava/lang/Object;II)V" } : Jvm.MethodName)) ∈ tables_1 := List.mem_of_getElem? (i := 47) rfl
theorem wd48 : (Jvm.Cond.static ({ cls := "java/lang/System", name := "arraycopy", desc := "(Ljava/lang/Object;ILjava/lang/Object;II)V" } : Jvm.MethodName)) ∈ tables_1 := List.mem_of_getElem? (i := 48) rfl
theorem wd49 : (Jvm.Cond.initialized "java/lang/System") ∈ tables_1 := List.mem_of_getElem? (i := 49) rfl
theorem wd50 : (Jvm.Cond.native ({ cls := "java/lang/System", name := "arraycopy", desc := "(Ljava/lang/Object;ILjava/lang/Object;II)V" } : Jvm.MethodName)) ∈ tables_1 := List.mem_of_getElem? (i := 50) rfl
theorem wd51 : (Jvm.Cond.methodLink "com/example/blackheight/blackheight/node/Trail" (22 : Nat) ({ cls := "com/example/blackheight/blackheight/node/Trail", name := "changeAt", desc := "(I)V" } : Jvm.MethodName)) ∈ tables_1 := List.mem_of_getElem? (i := 51) rfl
theorem wd52 : (Jvm.Cond.instanceMethod ({ cls := "com/example/blackheight/blackheight/node/Trail", name := "changeAt", desc := "(I)V" } : Jvm.MethodName)) ∈ tables_1 := List.mem_of_getElem? (i := 52) rfl
theorem wd53 : (Jvm.Cond.privateMethod ({ cls := "com/example/blackheight/blackheight/node/Trail", name := "changeAt", desc := "(I)V" } : Jvm.MethodName)) ∈ tables_1 := List.mem_of_getElem? (i := 53) rfl
theorem wd54 : (Jvm.Cond.code ({ cls := "com/example/blackheight/blackheight/node/Trail", name := "changeAt", desc := "(I)V" } : Jvm.MethodName) prog_22_method_15_code (2 : Nat) (Option.none : Option Jvm.ClassFile.FieldType)) ∈ tables_1 := List.mem_of_getElem? (i := 54) rfl
theorem wd55 : (Jvm.Cond.fieldLink "com/example/blackheight/blackheight/node/Trail" (42 : Nat) "com/example/blackheight/blackheight/node/Trail" "unchanged" "B") ∈ tables_1 := List.mem_of_getElem? (i := 55) rfl
theorem wd56 : (Jvm.Cond.lays "com/example/blackheight/blackheight/node/Trail" "com/example/blackheight/blackheight/node/Trail" "unchanged" "B") ∈ tables_1 := List.mem_of_getElem? (i := 56) rfl
theorem wd57 : (Jvm.Cond.methodLink "com/example/blackheight/blackheight/node/TrailClimbToPinLaw" (24 : Nat) ({ cls := "com/example/blackheight/blackheight/node/Trail", name := "entry", desc := "(I)I" } : Jvm.MethodName)) ∈ tables_1 := List.mem_of_getElem? (i := 57) rfl
theorem wd58 : (Jvm.Cond.declares ({ cls := "com/example/blackheight/blackheight/node/Trail", name := "entry", desc := "(I)I" } : Jvm.MethodName)) ∈ tables_1 := List.mem_of_getElem? (i := 58) rfl
theorem wd59 : (Jvm.Cond.instanceMethod ({ cls := "com/example/blackheight/blackheight/node/Trail", name := "entry", desc := "(I)I" } : Jvm.MethodName)) ∈ tables_1 := List.mem_of_getElem? (i := 59) rfl
theorem wd60 : (Jvm.Cond.selects "com/example/blackheight/blackheight/node/Trail" ({ cls := "com/example/blackheight/blackheight/node/Trail", name := "entry", desc := "(I)I" } : Jvm.MethodName) ({ cls := "com/example/blackheight/blackheight/node/Trail", name := "entry", desc := "(I)I" } : Jvm.MethodName)) ∈ tables_1 := List.mem_of_getElem? (i := 60) rfl
theorem wd61 : (Jvm.Cond.code ({ cls := "com/example/blackheight/blackheight/node/Trail", name := "entry", desc := "(I)I" } : Jvm.MethodName) prog_22_method_3_code (2 : Nat) (Option.some Jvm.ClassFile.FieldType.int)) ∈ tables_1 := List.mem_of_getElem? (i := 61) rfl
theorem d1_0 : decode prog_22_method_1_code 0 = .ok (.aload_n 0, 1) := by decide +kernel
theorem d1_1 : decode prog_22_method_1_code 1 = .ok (.invokespecial 1, 3) := by decide +kernel
theorem d1_4 : decode prog_22_method_1_code 4 = .ok (.aload_n 0, 1) := by decide +kernel
theorem d1_5 : decode prog_22_method_1_code 5 = .ok (.getstatic 7, 3) := by decide +kernel
theorem d1_8 : decode prog_22_method_1_code 8 = .ok (.putfield 13, 3) := by decide +kernel
theorem d1_11 : decode prog_22_method_1_code 11 = .ok (.return_, 1) := by decide +kernel
theorem d3_0 : decode prog_22_method_9_code 0 = .ok (.iload_n 1, 1) := by decide +kernel
theorem d3_1 : decode prog_22_method_9_code 1 = .ok (.iconst (-1), 1) := by decide +kernel
theorem d3_2 : decode prog_22_method_9_code 2 = .ok (.if_icmp .ne 9, 3) := by decide +kernel
theorem d3_5 : decode prog_22_method_9_code 5 = .ok (.aload_n 0, 1) := by decide +kernel
theorem d3_6 : decode prog_22_method_9_code 6 = .ok (.iconst 0, 1) := by decide +kernel
theorem d3_7 : decode prog_22_method_9_code 7 = .ok (.putfield 16, 3) := by decide +kernel
theorem d3_10 : decode prog_22_method_9_code 10 = .ok (.return_, 1) := by decide +kernel
theorem d3_11 : decode prog_22_method_9_code 11 = .ok (.aload_n 0, 1) := by decide +kernel
theorem d3_12 : decode prog_22_method_9_code 12 = .ok (.getfield 16, 3) := by decide +kernel
theorem d3_15 : decode prog_22_method_9_code 15 = .ok (.istore_n 2, 1) := by decide +kernel
theorem d3_16 : decode prog_22_method_9_code 16 = .ok (.aload_n 0, 1) := by decide +kernel
theorem d3_17 : decode prog_22_method_9_code 17 = .ok (.getfield 13, 3) := by decide +kernel
theorem d3_20 : decode prog_22_method_9_code 20 = .ok (.iload_n 2, 1) := by decide +kernel
theorem d3_21 : decode prog_22_method_9_code 21 = .ok (.iconst 1, 1) := by decide +kernel
theorem d3_22 : decode prog_22_method_9_code 22 = .ok (.isub, 1) := by decide +kernel
theorem d3_23 : decode prog_22_method_9_code 23 = .ok (.iaload, 1) := by decide +kernel
theorem d3_24 : decode prog_22_method_9_code 24 = .ok (.iload_n 1, 1) := by decide +kernel
theorem d3_25 : decode prog_22_method_9_code 25 = .ok (.if_icmp .eq 9, 3) := by decide +kernel
theorem d3_28 : decode prog_22_method_9_code 28 = .ok (.iinc 2 (-1), 3) := by decide +kernel
theorem d3_31 : decode prog_22_method_9_code 31 = .ok (.goto (-15), 3) := by decide +kernel
theorem d3_34 : decode prog_22_method_9_code 34 = .ok (.aload_n 0, 1) := by decide +kernel
theorem d3_35 : decode prog_22_method_9_code 35 = .ok (.iload_n 2, 1) := by decide +kernel
theorem d3_36 : decode prog_22_method_9_code 36 = .ok (.putfield 16, 3) := by decide +kernel
theorem d3_39 : decode prog_22_method_9_code 39 = .ok (.return_, 1) := by decide +kernel
theorem d4_0 : decode prog_22_method_2_code 0 = .ok (.aload_n 0, 1) := by decide +kernel
theorem d4_1 : decode prog_22_method_2_code 1 = .ok (.getfield 16, 3) := by decide +kernel
theorem d4_4 : decode prog_22_method_2_code 4 = .ok (.ireturn, 1) := by decide +kernel
theorem d5_0 : decode prog_22_method_6_code 0 = .ok (.aload_n 0, 1) := by decide +kernel
theorem d5_1 : decode prog_22_method_6_code 1 = .ok (.getfield 16, 3) := by decide +kernel
theorem d5_4 : decode prog_22_method_6_code 4 = .ok (.aload_n 0, 1) := by decide +kernel
theorem d5_5 : decode prog_22_method_6_code 5 = .ok (.getfield 13, 3) := by decide +kernel
theorem d5_8 : decode prog_22_method_6_code 8 = .ok (.arraylength, 1) := by decide +kernel
theorem d5_9 : decode prog_22_method_6_code 9 = .ok (.if_icmp .ne 7, 3) := by decide +kernel
theorem d5_12 : decode prog_22_method_6_code 12 = .ok (.aload_n 0, 1) := by decide +kernel
theorem d5_13 : decode prog_22_method_6_code 13 = .ok (.invokevirtual 26, 3) := by decide +kernel
theorem d5_16 : decode prog_22_method_6_code 16 = .ok (.aload_n 0, 1) := by decide +kernel
theorem d5_17 : decode prog_22_method_6_code 17 = .ok (.aload_n 0, 1) := by decide +kernel
theorem d5_18 : decode prog_22_method_6_code 18 = .ok (.getfield 16, 3) := by decide +kernel
theorem d5_21 : decode prog_22_method_6_code 21 = .ok (.invokevirtual 22, 3) := by decide +kernel
theorem d5_24 : decode prog_22_method_6_code 24 = .ok (.aload_n 0, 1) := by decide +kernel
theorem d5_25 : decode prog_22_method_6_code 25 = .ok (.getfield 13, 3) := by decide +kernel
theorem d5_28 : decode prog_22_method_6_code 28 = .ok (.aload_n 0, 1) := by decide +kernel
theorem d5_29 : decode prog_22_method_6_code 29 = .ok (.getfield 16, 3) := by decide +kernel
theorem d5_32 : decode prog_22_method_6_code 32 = .ok (.iload_n 1, 1) := by decide +kernel
theorem d5_33 : decode prog_22_method_6_code 33 = .ok (.iastore, 1) := by decide +kernel
theorem d5_34 : decode prog_22_method_6_code 34 = .ok (.aload_n 0, 1) := by decide +kernel
theorem d5_35 : decode prog_22_method_6_code 35 = .ok (.dup, 1) := by decide +kernel
theorem d5_36 : decode prog_22_method_6_code 36 = .ok (.getfield 16, 3) := by decide +kernel
theorem d5_39 : decode prog_22_method_6_code 39 = .ok (.iconst 1, 1) := by decide +kernel
theorem d5_40 : decode prog_22_method_6_code 40 = .ok (.iadd, 1) := by decide +kernel
theorem d5_41 : decode prog_22_method_6_code 41 = .ok (.putfield 16, 3) := by decide +kernel
theorem d5_44 : decode prog_22_method_6_code 44 = .ok (.return_, 1) := by decide +kernel
theorem d6_0 : decode prog_22_method_16_code 0 = .ok (.aload_n 0, 1) := by decide +kernel
theorem d6_1 : decode prog_22_method_16_code 1 = .ok (.aload_n 0, 1) := by decide +kernel
theorem d6_2 : decode prog_22_method_16_code 2 = .ok (.getfield 13, 3) := by decide +kernel
theorem d6_5 : decode prog_22_method_16_code 5 = .ok (.bipush 16, 2) := by decide +kernel
theorem d6_7 : decode prog_22_method_16_code 7 = .ok (.iconst 2, 1) := by decide +kernel
theorem d6_8 : decode prog_22_method_16_code 8 = .ok (.aload_n 0, 1) := by decide +kernel
theorem d6_9 : decode prog_22_method_16_code 9 = .ok (.getfield 13, 3) := by decide +kernel
theorem d6_12 : decode prog_22_method_16_code 12 = .ok (.arraylength, 1) := by decide +kernel
theorem d6_13 : decode prog_22_method_16_code 13 = .ok (.imul, 1) := by decide +kernel
theorem d6_14 : decode prog_22_method_16_code 14 = .ok (.invokestatic 58, 3) := by decide +kernel
theorem d6_17 : decode prog_22_method_16_code 17 = .ok (.invokestatic 52, 3) := by decide +kernel
theorem d6_20 : decode prog_22_method_16_code 20 = .ok (.putfield 13, 3) := by decide +kernel
theorem d6_23 : decode prog_22_method_16_code 23 = .ok (.return_, 1) := by decide +kernel
theorem d7_0 : decode jdk_29_method_65_code 0 = .ok (.iload_n 0, 1) := by decide +kernel
theorem d7_1 : decode jdk_29_method_65_code 1 = .ok (.iload_n 1, 1) := by decide +kernel
theorem d7_2 : decode jdk_29_method_65_code 2 = .ok (.if_icmp .lt 7, 3) := by decide +kernel
theorem d7_5 : decode jdk_29_method_65_code 5 = .ok (.iload_n 0, 1) := by decide +kernel
theorem d7_6 : decode jdk_29_method_65_code 6 = .ok (.goto 4, 3) := by decide +kernel
theorem d7_10 : decode jdk_29_method_65_code 10 = .ok (.ireturn, 1) := by decide +kernel
theorem d8_0 : decode jdk_65_method_123_code 0 = .ok (.iload_n 1, 1) := by decide +kernel
theorem d8_1 : decode jdk_65_method_123_code 1 = .ok (.aload_n 0, 1) := by decide +kernel
theorem d8_2 : decode jdk_65_method_123_code 2 = .ok (.arraylength, 1) := by decide +kernel
theorem d8_3 : decode jdk_65_method_123_code 3 = .ok (.if_icmp .ne 11, 3) := by decide +kernel
theorem d8_14 : decode jdk_65_method_123_code 14 = .ok (.iload_n 1, 1) := by decide +kernel
theorem d8_15 : decode jdk_65_method_123_code 15 = .ok (.newarray .int, 2) := by decide +kernel
theorem d8_17 : decode jdk_65_method_123_code 17 = .ok (.astore_n 2, 1) := by decide +kernel
theorem d8_18 : decode jdk_65_method_123_code 18 = .ok (.aload_n 0, 1) := by decide +kernel
theorem d8_19 : decode jdk_65_method_123_code 19 = .ok (.iconst 0, 1) := by decide +kernel
theorem d8_20 : decode jdk_65_method_123_code 20 = .ok (.aload_n 2, 1) := by decide +kernel
theorem d8_21 : decode jdk_65_method_123_code 21 = .ok (.iconst 0, 1) := by decide +kernel
theorem d8_22 : decode jdk_65_method_123_code 22 = .ok (.aload_n 0, 1) := by decide +kernel
theorem d8_23 : decode jdk_65_method_123_code 23 = .ok (.arraylength, 1) := by decide +kernel
theorem d8_24 : decode jdk_65_method_123_code 24 = .ok (.iload_n 1, 1) := by decide +kernel
theorem d8_25 : decode jdk_65_method_123_code 25 = .ok (.invokestatic 304, 3) := by decide +kernel
theorem d8_28 : decode jdk_65_method_123_code 28 = .ok (.invokestatic 150, 3) := by decide +kernel
theorem d8_31 : decode jdk_65_method_123_code 31 = .ok (.aload_n 2, 1) := by decide +kernel
theorem d8_32 : decode jdk_65_method_123_code 32 = .ok (.areturn, 1) := by decide +kernel
theorem d9_0 : decode jdk_29_method_69_code 0 = .ok (.iload_n 0, 1) := by decide +kernel
theorem d9_1 : decode jdk_29_method_69_code 1 = .ok (.iload_n 1, 1) := by decide +kernel
theorem d9_2 : decode jdk_29_method_69_code 2 = .ok (.if_icmp .gt 7, 3) := by decide +kernel
theorem d9_5 : decode jdk_29_method_69_code 5 = .ok (.iload_n 0, 1) := by decide +kernel
theorem d9_6 : decode jdk_29_method_69_code 6 = .ok (.goto 4, 3) := by decide +kernel
theorem d9_10 : decode jdk_29_method_69_code 10 = .ok (.ireturn, 1) := by decide +kernel
theorem d10_0 : decode prog_22_method_15_code 0 = .ok (.iload_n 1, 1) := by decide +kernel
theorem d10_1 : decode prog_22_method_15_code 1 = .ok (.aload_n 0, 1) := by decide +kernel
theorem d10_2 : decode prog_22_method_15_code 2 = .ok (.getfield 42, 3) := by decide +kernel
theorem d10_5 : decode prog_22_method_15_code 5 = .ok (.if_icmp .ge 9, 3) := by decide +kernel
theorem d10_14 : decode prog_22_method_15_code 14 = .ok (.return_, 1) := by decide +kernel
theorem d11_0 : decode prog_22_method_3_code 0 = .ok (.aload_n 0, 1) := by decide +kernel
theorem d11_1 : decode prog_22_method_3_code 1 = .ok (.getfield 13, 3) := by decide +kernel
theorem d11_4 : decode prog_22_method_3_code 4 = .ok (.iload_n 1, 1) := by decide +kernel
theorem d11_5 : decode prog_22_method_3_code 5 = .ok (.iaload, 1) := by decide +kernel
theorem d11_6 : decode prog_22_method_3_code 6 = .ok (.ireturn, 1) := by decide +kernel
theorem pd0 : parseMethodDescriptor "()V" = some ⟨[], none⟩ := by decide +kernel
theorem pd1 : parseMethodDescriptor "(I)V" = some ⟨[.int], none⟩ := by decide +kernel
theorem pd2 : parseMethodDescriptor "()I" = some ⟨[], some .int⟩ := by decide +kernel
theorem pd3 : parseMethodDescriptor "(II)I" = some ⟨[.int, .int], some .int⟩ := by decide +kernel
theorem pd4 : parseMethodDescriptor "([II)[I" = some ⟨[(.array .int), .int], some (.array .int)⟩ := by decide +kernel
theorem pd5 : parseMethodDescriptor "(I)I" = some ⟨[.int], some .int⟩ := by decide +kernel
theorem pn0 : plainName "com/example/blackheight/blackheight/node/TrailClimbToPinLaw" = true := by first | (simp [plainName, overriddenIn]; done) | decide +kernel
theorem pn1 : plainName "com/example/blackheight/blackheight/node/Trail" = true := by first | (simp [plainName, overriddenIn]; done) | decide +kernel
theorem pn10 : plainName "com/example/blackheight/blackheight/node/Trail" = true := by first | (simp [plainName, overriddenIn]; done) | decide +kernel
theorem pn11 : plainName "com/example/blackheight/blackheight/node/Trail" = true := by first | (simp [plainName, overriddenIn]; done) | decide +kernel
theorem pn3 : plainName "com/example/blackheight/blackheight/node/Trail" = true := by first | (simp [plainName, overriddenIn]; done) | decide +kernel
theorem pn4 : plainName "com/example/blackheight/blackheight/node/Trail" = true := by first | (simp [plainName, overriddenIn]; done) | decide +kernel
theorem pn5 : plainName "com/example/blackheight/blackheight/node/Trail" = true := by first | (simp [plainName, overriddenIn]; done) | decide +kernel
theorem pn6 : plainName "com/example/blackheight/blackheight/node/Trail" = true := by first | (simp [plainName, overriddenIn]; done) | decide +kernel
theorem pn8 : plainName "java/util/Arrays" = true := by first | (simp [plainName, overriddenIn]; done) | decide +kernel
def World (Z : State) (w_Trail_NO_ROOM : Addr) (k_w_Trail_NO_ROOM : ClassId) : Prop :=
  Sta Z Z.heap "com/example/blackheight/blackheight/node/Trail" "NO_ROOM" "[I" (.ref w_Trail_NO_ROOM) ∧
  Arv Z Z.heap w_Trail_NO_ROOM k_w_Trail_NO_ROOM .int (0 : Int32) [] (.int 0)
abbrev Bg (Z : State) (a0 : Array Value) (w_Trail_NO_ROOM : Addr) (k_w_Trail_NO_ROOM : ClassId) : Prop := (∀ d ∈ tables_1, d.before a0 Z = true) ∧ World Z w_Trail_NO_ROOM k_w_Trail_NO_ROOM
abbrev yM11 : MethodName := ⟨"com/example/blackheight/blackheight/node/Trail", "entry", "(I)I"⟩
abbrev yM5 : MethodName := ⟨"com/example/blackheight/blackheight/node/Trail", "push", "(I)V"⟩
abbrev yM10 : MethodName := ⟨"com/example/blackheight/blackheight/node/Trail", "changeAt", "(I)V"⟩
abbrev yM6 : MethodName := ⟨"com/example/blackheight/blackheight/node/Trail", "grow", "()V"⟩
abbrev yM8 : MethodName := ⟨"java/util/Arrays", "copyOf", "([II)[I"⟩
abbrev yM9 : MethodName := ⟨"java/lang/Math", "min", "(II)I"⟩
abbrev yM7 : MethodName := ⟨"java/lang/Math", "max", "(II)I"⟩
abbrev yM4 : MethodName := ⟨"com/example/blackheight/blackheight/node/Trail", "depth", "()I"⟩
abbrev yM3 : MethodName := ⟨"com/example/blackheight/blackheight/node/Trail", "climbTo", "(I)V"⟩
abbrev yM1 : MethodName := ⟨"com/example/blackheight/blackheight/node/Trail", "<init>", "()V"⟩
abbrev cs0 : String := "com/example/blackheight/blackheight/node/Trail"
theorem extT {a b c : Heap} (x : Ext a b) (y : Ext b c) : Ext a c := ⟨Nat.le_trans x.1 y.1, fun q r s => y.2 q r (x.2 q r s)⟩
theorem extR (a : Heap) : Ext a a := ⟨Nat.le_refl _, fun _ _ q => q⟩
theorem extK {h0 h h' : Heap} {ws : List Addr} (O : Ext h0 h) (K : Keep h h' ws) (q : ∀ x ∈ ws, h0.size ≤ x) : Ext h0 h' := ⟨Nat.le_trans O.1 K.1, fun x c r => K.2.1 x c (O.2 x c r) fun z => absurd (Array.getElem?_eq_some_iff.mp r).1 (Nat.not_lt.mpr (q x z))⟩
theorem extW {h0 h h' : Heap} {a : Addr} {sl : Nat} {v : Value} (O : Ext h0 h) (W : Wr h h' a sl v) (q : h0.size ≤ a) : Ext h0 h' := extK O (Keep.of_wr W) (allS q all0)
theorem leW {h0 h h' : Heap} {a : Addr} {sl : Nat} {v : Value} (q : h0.size ≤ h.size) (W : Wr h h' a sl v) : h0.size ≤ h'.size := by rw [W.size]; exact q
theorem neB {a b : Addr} {h : Heap} (x : a < h.size) (y : h.size ≤ b) : a ≠ b := Nat.ne_of_lt (Nat.lt_of_lt_of_le x y)
theorem stoV {Z : State} {h : Heap} {a y : Addr} {k : ClassId} {ty : FieldType} {n : Int32} {vs : List Value} {d : Value} {C : String} (A : Arv Z h a k ty n vs d) (O : Ovr Z k C) (I : Ins Z h y C true) : Sto Z h a (.ref y) := by
  obtain ⟨c, Ar, q, -⟩ := A
  exact Sto.ofV Ar q O I
theorem m7 (k : Int32) : (k &&& (7 : Int32)) = (0 : Int32) ∨ (k &&& (7 : Int32)) = (1 : Int32) ∨ (k &&& (7 : Int32)) = (2 : Int32) ∨ (k &&& (7 : Int32)) = (3 : Int32) ∨ (k &&& (7 : Int32)) = (4 : Int32) ∨ (k &&& (7 : Int32)) = (5 : Int32) ∨ (k &&& (7 : Int32)) = (6 : Int32) ∨ (k &&& (7 : Int32)) = (7 : Int32) := by
  have h1 := c_mask k (7 : Int32) 3 (by decide) (by decide)
  simp only [← Int32.toInt_inj]
  have e0 : (0 : Int32).toInt = 0 := by decide
  have e1 : (1 : Int32).toInt = 1 := by decide
  have e2 : (2 : Int32).toInt = 2 := by decide
  have e3 : (3 : Int32).toInt = 3 := by decide
  have e4 : (4 : Int32).toInt = 4 := by decide
  have e5 : (5 : Int32).toInt = 5 := by decide
  have e6 : (6 : Int32).toInt = 6 := by decide
  have e7 : (7 : Int32).toInt = 7 := by decide
  omega
theorem n75 (k : Int32) : ((k &&& (7 : Int32)) % (5 : Int32)) = (0 : Int32) ∨ ((k &&& (7 : Int32)) % (5 : Int32)) = (1 : Int32) ∨ ((k &&& (7 : Int32)) % (5 : Int32)) = (2 : Int32) ∨ ((k &&& (7 : Int32)) % (5 : Int32)) = (3 : Int32) ∨ ((k &&& (7 : Int32)) % (5 : Int32)) = (4 : Int32) := by
  rcases m7 k with h | h | h | h | h | h | h | h <;> rw [h] <;> decide
theorem mask_ne (k : Int32) : ¬ ((k &&& (2147483647 : Int32)) = (-1 : Int32)) := by
  have h1 := c_mask k (2147483647 : Int32) 31 (by decide) (by decide)
  rw [← Int32.toInt_inj]
  have e : (-1 : Int32).toInt = -1 := by decide
  omega
theorem sn0 {Z : State} {a0 : Array Value} (hw : ∀ d ∈ tables_1, d.before a0 Z = true) : Jvm.RoadKit.slotOf Z "com/example/blackheight/blackheight/node/Trail" "depth" "I" ≠ Jvm.RoadKit.slotOf Z "com/example/blackheight/blackheight/node/Trail" "entries" "[I" := slot_ne (Or.inl (hw _ wd21)) (Or.inl (hw _ wd14)) (by decide) (t := .int) (t' := (.array .int)) (by decide) (by decide)
theorem sn1 {Z : State} {a0 : Array Value} (hw : ∀ d ∈ tables_1, d.before a0 Z = true) : Jvm.RoadKit.slotOf Z "com/example/blackheight/blackheight/node/Trail" "unchanged" "B" ≠ Jvm.RoadKit.slotOf Z "com/example/blackheight/blackheight/node/Trail" "entries" "[I" := slot_ne (Or.inl (hw _ wd56)) (Or.inl (hw _ wd14)) (by decide) (t := .byte) (t' := (.array .int)) (by decide) (by decide)
theorem mod_1 (k : Int32) : ((k &&& (2147483647 : Int32)) % (1 : Int32)) = (0 : Int32) := by
  have h1 := c_mask k (2147483647 : Int32) 31 (by decide) (by decide)
  have h2 := (c_irem (k &&& (2147483647 : Int32)) (1 : Int32) 1 (by decide)).1 (by omega)
  simp only [← Int32.toInt_inj]
  have e0 : (0 : Int32).toInt = 0 := by decide
  omega
theorem sn2 {Z : State} {a0 : Array Value} (hw : ∀ d ∈ tables_1, d.before a0 Z = true) : Jvm.RoadKit.slotOf Z "com/example/blackheight/blackheight/node/Trail" "entries" "[I" ≠ Jvm.RoadKit.slotOf Z "com/example/blackheight/blackheight/node/Trail" "depth" "I" := slot_ne (Or.inl (hw _ wd14)) (Or.inl (hw _ wd21)) (by decide) (t := (.array .int)) (t' := .int) (by decide) (by decide)
theorem sn3 {Z : State} {a0 : Array Value} (hw : ∀ d ∈ tables_1, d.before a0 Z = true) : Jvm.RoadKit.slotOf Z "com/example/blackheight/blackheight/node/Trail" "unchanged" "B" ≠ Jvm.RoadKit.slotOf Z "com/example/blackheight/blackheight/node/Trail" "depth" "I" := slot_ne (Or.inl (hw _ wd56)) (Or.inl (hw _ wd21)) (by decide) (t := .byte) (t' := .int) (by decide) (by decide)
theorem mod_2 (k : Int32) : ((k &&& (2147483647 : Int32)) % (2 : Int32)) = (0 : Int32) ∨ ((k &&& (2147483647 : Int32)) % (2 : Int32)) = (1 : Int32) := by
  have h1 := c_mask k (2147483647 : Int32) 31 (by decide) (by decide)
  have h2 := (c_irem (k &&& (2147483647 : Int32)) (2 : Int32) 2 (by decide)).1 (by omega)
  simp only [← Int32.toInt_inj]
  have e0 : (0 : Int32).toInt = 0 := by decide
  have e1 : (1 : Int32).toInt = 1 := by decide
  omega
theorem mod_3 (k : Int32) : ((k &&& (2147483647 : Int32)) % (3 : Int32)) = (0 : Int32) ∨ ((k &&& (2147483647 : Int32)) % (3 : Int32)) = (1 : Int32) ∨ ((k &&& (2147483647 : Int32)) % (3 : Int32)) = (2 : Int32) := by
  have h1 := c_mask k (2147483647 : Int32) 31 (by decide) (by decide)
  have h2 := (c_irem (k &&& (2147483647 : Int32)) (3 : Int32) 3 (by decide)).1 (by omega)
  simp only [← Int32.toInt_inj]
  have e0 : (0 : Int32).toInt = 0 := by decide
  have e1 : (1 : Int32).toInt = 1 := by decide
  have e2 : (2 : Int32).toInt = 2 := by decide
  omega
theorem mod_4 (k : Int32) : ((k &&& (2147483647 : Int32)) % (4 : Int32)) = (0 : Int32) ∨ ((k &&& (2147483647 : Int32)) % (4 : Int32)) = (1 : Int32) ∨ ((k &&& (2147483647 : Int32)) % (4 : Int32)) = (2 : Int32) ∨ ((k &&& (2147483647 : Int32)) % (4 : Int32)) = (3 : Int32) := by
  have h1 := c_mask k (2147483647 : Int32) 31 (by decide) (by decide)
  have h2 := (c_irem (k &&& (2147483647 : Int32)) (4 : Int32) 4 (by decide)).1 (by omega)
  simp only [← Int32.toInt_inj]
  have e0 : (0 : Int32).toInt = 0 := by decide
  have e1 : (1 : Int32).toInt = 1 := by decide
  have e2 : (2 : Int32).toInt = 2 := by decide
  have e3 : (3 : Int32).toInt = 3 := by decide
  omega
theorem mod_5 (k : Int32) : ((k &&& (2147483647 : Int32)) % (5 : Int32)) = (0 : Int32) ∨ ((k &&& (2147483647 : Int32)) % (5 : Int32)) = (1 : Int32) ∨ ((k &&& (2147483647 : Int32)) % (5 : Int32)) = (2 : Int32) ∨ ((k &&& (2147483647 : Int32)) % (5 : Int32)) = (3 : Int32) ∨ ((k &&& (2147483647 : Int32)) % (5 : Int32)) = (4 : Int32) := by
  have h1 := c_mask k (2147483647 : Int32) 31 (by decide) (by decide)
  have h2 := (c_irem (k &&& (2147483647 : Int32)) (5 : Int32) 5 (by decide)).1 (by omega)
  simp only [← Int32.toInt_inj]
  have e0 : (0 : Int32).toInt = 0 := by decide
  have e1 : (1 : Int32).toInt = 1 := by decide
  have e2 : (2 : Int32).toInt = 2 := by decide
  have e3 : (3 : Int32).toInt = 3 := by decide
  have e4 : (4 : Int32).toInt = 4 := by decide
  omega
section Walk
variable {l : Launch} {Z : State} {a0 : Array Value} {w_Trail_NO_ROOM : Addr} {k_w_Trail_NO_ROOM : ClassId}
theorem rm20_1 (B : Bg Z a0 w_Trail_NO_ROOM k_w_Trail_NO_ROOM) (ro0 : Addr) (h : Heap) (O : Ext Z.heap h) (q11 : Exa Z h ro0 cs0) (q12 : Fld Z h ro0 cs0 "entries" "[I" .null) (q13 : Z.heap.size ≤ ro0) (q15 : Fld Z h ro0 cs0 "depth" "I" (.int 0)) (q17 : Fld Z h ro0 cs0 "unchanged" "B" (.int 0)) :
    Con l Z yM1 prog_22_method_1_code 1 none ({ frames := 1, cells := 0, slots := 0, locals := 12 } : Room) #[(.ref ro0)] h (fun v h' L => v = none ∧ Fr Z.heap.size L ∧ Keep h h' [ro0] ∧ Exa Z h' ro0 cs0 ∧ Fld Z h' ro0 cs0 "entries" "[I" (.ref w_Trail_NO_ROOM) ∧ Fld Z h' ro0 cs0 "depth" "I" (.int 0) ∧ Fld Z h' ro0 cs0 "unchanged" "B" (.int 0)) := by
  have hw := B.1
  obtain ⟨S_w_Trail_NO_ROOM, V_w_Trail_NO_ROOM⟩ := B.2
  refine Con.of (plainFor_of_name pn1) (Ls := #[vR ro0]) (fun _ => rfl) ?_
  intro p e s m below meth c T0 X0 H hml hZ hown hnm hret hlk e0
  have N0 := Fr.nil Z.heap.size
  refine gAloadN X0 H d1_0 rfl rfl 1 rfl ?_
  refine gInitO X0 H hZ hown (hw _ wd8) (hw _ wd9) (hw _ wd10) e0 hml rfl (V := 0) (Nat.le_of_eq rfl) (by decide) (by decide) d1_1 4 rfl ?_
  intro T8 X8 e8
  refine gAloadN X8 H d1_4 rfl rfl 5 rfl ?_
  refine gGetS X8 H hZ hown (hw _ wd11) e8 (S_w_Trail_NO_ROOM.ext O) d1_5 8 rfl ?_
  intro T9 X9 e9
  refine gPutF X9 H hZ hown (hw _ wd13) Via.refl e9 q12 q11 (Or.inl (hw _ wd14)) (hw _ wd3) (ty := (.array .int)) (by decide) (v' := (.ref w_Trail_NO_ROOM)) rfl rfl d1_8 11 rfl ?_
  intro T10 h10 X10 e10 W10 F10
  have O10 := extW O W10 q13
  have N10 := Fr.snoc X10 N0 q13
  have c14 := (q11.wr W10)
  have c16 := (q15.other W10 (Or.inr (sn0 hw)))
  have c18 := (q17.other W10 (Or.inr (sn1 hw)))
  have K_19 := (Keep.refl h [ro0]).wr W10 (Or.inl (List.mem_of_getElem? (i := 0) rfl))
  exact gRetV X10 H hlk hret d1_11 e10 ⟨rfl, N10, K_19, c14, F10, c16, c18⟩
theorem rm33_3 (B : Bg Z a0 w_Trail_NO_ROOM k_w_Trail_NO_ROOM) (ro0 : Addr) (h : Heap) (O : Ext Z.heap h) (q24 : Exa Z h ro0 cs0) (q25 : Fld Z h ro0 cs0 "depth" "I" (.int 0)) (q26 : Z.heap.size ≤ ro0) (q28 : Fld Z h ro0 cs0 "entries" "[I" (.ref w_Trail_NO_ROOM)) (q30 : Fld Z h ro0 cs0 "unchanged" "B" (.int 0)) :
    Con l Z yM3 prog_22_method_9_code 3 none ({ frames := 0, cells := 0, slots := 0, locals := 0 } : Room) #[(.ref ro0), (.int (-1))] h (fun v h' L => v = none ∧ Fr Z.heap.size L ∧ Keep h h' [ro0] ∧ Exa Z h' ro0 cs0 ∧ Fld Z h' ro0 cs0 "depth" "I" (.int 0) ∧ Fld Z h' ro0 cs0 "entries" "[I" (.ref w_Trail_NO_ROOM) ∧ Fld Z h' ro0 cs0 "unchanged" "B" (.int 0)) := by
  have hw := B.1
  refine Con.of (plainFor_of_name pn3) (Ls := #[vR ro0, vI (-1), .unset]) (fun _ => rfl) ?_
  intro p e s m below meth c T0 X0 H hml hZ hown hnm hret hlk e0
  have N0 := Fr.nil Z.heap.size
  refine gIloadN X0 H d3_0 rfl 1 rfl ?_
  refine gIconst X0 H d3_1 (z := (-1)) rfl 2 rfl ?_
  refine gCmpN X0 H d3_2 (by decide) 5 rfl ?_
  refine gAloadN X0 H d3_5 rfl rfl 6 rfl ?_
  refine gIconst X0 H d3_6 (z := 0) rfl 7 rfl ?_
  refine gPutF X0 H hZ hown (hw _ wd20) Via.refl e0 q25 q24 (Or.inl (hw _ wd21)) (hw _ wd3) (ty := .int) (by decide) (v' := (.int 0)) rfl rfl d3_7 10 rfl ?_
  intro T23 h23 X23 e23 W23 F23
  have O23 := extW O W23 q26
  have N23 := Fr.snoc X23 N0 q26
  have c27 := (q24.wr W23)
  have c29 := (q28.other W23 (Or.inr (sn2 hw)))
  have c31 := (q30.other W23 (Or.inr (sn3 hw)))
  have K_32 := (Keep.refl h [ro0]).wr W23 (Or.inl (List.mem_of_getElem? (i := 0) rfl))
  exact gRetV X23 H hlk hret d3_10 e23 ⟨rfl, N23, K_32, c27, F23, c29, c31⟩
theorem rm37_4 (B : Bg Z a0 w_Trail_NO_ROOM k_w_Trail_NO_ROOM) (ro0 : Addr) (h : Heap) (O : Ext Z.heap h) (q35 : Fld Z h ro0 cs0 "depth" "I" (.int 0)) :
    Con l Z yM4 prog_22_method_2_code 1 (some .int) ({ frames := 0, cells := 0, slots := 0, locals := 0 } : Room) #[(.ref ro0)] h (fun v h' L => v = some (.int 0) ∧ h' = h ∧ L = []) := by
  have hw := B.1
  refine Con.of (plainFor_of_name pn4) (Ls := #[vR ro0]) (fun _ => rfl) ?_
  intro p e s m below meth c T0 X0 H hml hZ hown hnm hret hlk e0
  refine gAloadN X0 H d4_0 rfl rfl 1 rfl ?_
  refine gGetF X0 H hZ hown (hw _ wd20) Via.refl e0 q35 d4_1 4 rfl ?_
  intro T36 X36 e36
  exact gRetI X36 H hlk hret d4_4 e36 ⟨rfl, rfl, rfl⟩
theorem lawAll_0 (B : Bg Z a0 w_Trail_NO_ROOM k_w_Trail_NO_ROOM) (p0 : Int32) (p1 : Int32) (p2 : Int32) (p3 : Int32) (p4 : Int32) (p5 : Int32) (ha0 : ((p0 &&& (7 : Int32)) % (5 : Int32)) = (0 : Int32)) :
    Con l Z x code maxLocals ret room_1 #[(.int p0), (.int p1), (.int p2), (.int p3), (.int p4), (.int p5)] Z.heap (fun v h' L => v = some (.int 1) ∧ Fr Z.heap.size L) := by
  have hw := B.1
  obtain ⟨S_w_Trail_NO_ROOM, V_w_Trail_NO_ROOM⟩ := B.2
  refine Con.of (plainFor_of_name pn0) (Ls := #[vI p0, vI p1, vI p2, vI p3, vI p4, vI p5, .unset, .unset, .unset, .unset, .unset, .unset]) (fun _ => rfl) ?_
  intro p e s m below meth c T0 X0 H hml hZ hown hnm hret hlk e0
  have O0 := extR Z.heap
  have M0 := Nat.le_refl Z.heap.size
  have N0 := Fr.nil Z.heap.size
  refine gIloadN X0 H at_0 rfl 1 rfl ?_
  refine gBipush X0 H at_1 (z := 7) rfl 3 rfl ?_
  refine g_iand X0 H at_3 (z := (p0 &&& (7 : Int32))) rfl 4 rfl ?_
  refine gIconst X0 H at_4 (z := 5) rfl 5 rfl ?_
  refine g_irem X0 H at_5 (by decide) (z := 0) ha0 6 rfl ?_
  refine gIstore X0 H at_6 (Ls' := #[vI p0, vI p1, vI p2, vI p3, vI p4, vI p5, vI 0, .unset, .unset, .unset, .unset, .unset]) rfl 8 rfl ?_
  refine gIconst X0 H at_8 (z := 4) rfl 9 rfl ?_
  refine gNewP X0 H hZ (aty := .int) (hw _ wd0) e0 (by decide) (cap := 4) (by decide) (by decide) (vs := [(.int 0), (.int 0), (.int 0), (.int 0)]) rfl (by decide) (by decide) at_9 11 rfl ?_
  intro T1 h1 b1 k1 X1 e1 z1 E1 V1
  have G_b1 := Nat.le_trans O0.1 (Nat.le_of_eq z1)
  have sz_b1 := Nat.le_trans M0 (Nat.le_of_eq z1)
  have O1 := extT O0 E1
  refine gDup X1 H at_11 rfl 12 rfl ?_
  refine gIconst X1 H at_12 (z := 0) rfl 13 rfl ?_
  refine gIloadN X1 H at_13 rfl 14 rfl ?_
  refine gLdc X1 H hZ hown (hw _ wd1) at_14 16 rfl ?_
  refine g_iand X1 H at_16 (z := (p1 &&& (2147483647 : Int32))) rfl 17 rfl ?_
  refine gIastore X1 H hZ e1 V1 ⟨by decide, by decide⟩ (i := 0) rfl (Nat.le_of_ble_eq_true rfl) (vs' := [(.int (p1 &&& (2147483647 : Int32))), (.int 0), (.int 0), (.int 0)]) rfl at_17 18 rfl ?_
  intro T2 h2 X2 e2 W2 V2
  have O2 := extW O1 W2 G_b1
  have N2 := Fr.snoc X2 N0 G_b1
  refine gDup X2 H at_18 rfl 19 rfl ?_
  refine gIconst X2 H at_19 (z := 1) rfl 20 rfl ?_
  refine gIloadN X2 H at_20 rfl 21 rfl ?_
  refine gLdc X2 H hZ hown (hw _ wd1) at_21 23 rfl ?_
  refine g_iand X2 H at_23 (z := (p2 &&& (2147483647 : Int32))) rfl 24 rfl ?_
  refine gIastore X2 H hZ e2 V2 ⟨by decide, by decide⟩ (i := 1) rfl (Nat.le_of_ble_eq_true rfl) (vs' := [(.int (p1 &&& (2147483647 : Int32))), (.int (p2 &&& (2147483647 : Int32))), (.int 0), (.int 0)]) rfl at_24 25 rfl ?_
  intro T3 h3 X3 e3 W3 V3
  have O3 := extW O2 W3 G_b1
  have N3 := Fr.snoc X3 N2 G_b1
  refine gDup X3 H at_25 rfl 26 rfl ?_
  refine gIconst X3 H at_26 (z := 2) rfl 27 rfl ?_
  refine gIloadN X3 H at_27 rfl 28 rfl ?_
  refine gLdc X3 H hZ hown (hw _ wd1) at_28 30 rfl ?_
  refine g_iand X3 H at_30 (z := (p3 &&& (2147483647 : Int32))) rfl 31 rfl ?_
  refine gIastore X3 H hZ e3 V3 ⟨by decide, by decide⟩ (i := 2) rfl (Nat.le_of_ble_eq_true rfl) (vs' := [(.int (p1 &&& (2147483647 : Int32))), (.int (p2 &&& (2147483647 : Int32))), (.int (p3 &&& (2147483647 : Int32))), (.int 0)]) rfl at_31 32 rfl ?_
  intro T4 h4 X4 e4 W4 V4
  have O4 := extW O3 W4 G_b1
  have N4 := Fr.snoc X4 N3 G_b1
  refine gDup X4 H at_32 rfl 33 rfl ?_
  refine gIconst X4 H at_33 (z := 3) rfl 34 rfl ?_
  refine gIload X4 H at_34 rfl 36 rfl ?_
  refine gLdc X4 H hZ hown (hw _ wd1) at_36 38 rfl ?_
  refine g_iand X4 H at_38 (z := (p4 &&& (2147483647 : Int32))) rfl 39 rfl ?_
  refine gIastore X4 H hZ e4 V4 ⟨by decide, by decide⟩ (i := 3) rfl (Nat.le_of_ble_eq_true rfl) (vs' := [(.int (p1 &&& (2147483647 : Int32))), (.int (p2 &&& (2147483647 : Int32))), (.int (p3 &&& (2147483647 : Int32))), (.int (p4 &&& (2147483647 : Int32)))]) rfl at_39 40 rfl ?_
  intro T5 h5 X5 e5 W5 V5
  have O5 := extW O4 W5 G_b1
  have N5 := Fr.snoc X5 N4 G_b1
  refine gAstore X5 H at_40 rfl (Ls' := #[vI p0, vI p1, vI p2, vI p3, vI p4, vI p5, vI 0, vR b1, .unset, .unset, .unset, .unset]) rfl 42 rfl ?_
  refine gIload X5 H at_42 rfl 44 rfl ?_
  refine gIconst X5 H at_44 (z := 2) rfl 45 rfl ?_
  refine gCmpY X5 H at_45 (by decide) (by decide) 61 rfl ?_
  refine gIload X5 H at_61 rfl 63 rfl ?_
  refine gIconst X5 H at_63 (z := 3) rfl 64 rfl ?_
  refine gCmpY X5 H at_64 (by decide) (by decide) 91 rfl ?_
  refine gIload X5 H at_91 rfl 93 rfl ?_
  refine gIconst X5 H at_93 (z := 4) rfl 94 rfl ?_
  refine gCmpY X5 H at_94 (by decide) (by decide) 132 rfl ?_
  refine gNew X5 H hZ hown (hw _ wd2) (hw _ wd3) (hw _ wd4) e5 (by decide) (by decide) at_132 135 rfl ?_
  intro T6 h6 b6 X6 e6 z6 E6 A6 D6
  have M7 := (leW (leW (leW (leW (Nat.le_trans M0 E1.1) W2) W3) W4) W5)
  have G_b6 := Nat.le_trans O5.1 (Nat.le_of_eq z6)
  have sz_b6 := Nat.le_trans M7 (Nat.le_of_eq z6)
  have ne_b1_b6 : b1 ≠ b6 := neB V5.lt (Nat.le_of_eq z6)
  have O6 := extT O5 E6
  have F6_entries : Fld Z h6 b6 cs0 "entries" "[I" .null := D6 (Or.inl (hw _ wd14)) (ty := (.array .int)) (by decide)
  have F6_depth : Fld Z h6 b6 cs0 "depth" "I" (.int 0) := D6 (Or.inl (hw _ wd21)) (ty := .int) (by decide)
  have F6_unchanged : Fld Z h6 b6 cs0 "unchanged" "B" (.int 0) := D6 (Or.inl (hw _ wd56)) (ty := .byte) (by decide)
  refine gDup X6 H at_135 rfl 136 rfl ?_
  refine gSpecial X6 H hZ hown rfl rfl (hw _ wd5) (hw _ wd6) (by decide) (hw _ wd7) (hw _ wd4) (rm20_1 B b6 _ O6 A6 F6_entries G_b6 F6_depth F6_unchanged) e6 hml rfl pd0 rfl (W := 1) (argsL := []) (rest := [(.ref b6)]) rfl rfl at_136 139 rfl ?_
  intro v21 T21 L21 hq21 X21
  obtain ⟨rfl, N21q, K21, f21_0, f21_1, f21_2, f21_3⟩ := hq21
  have O21 := extK O6 K21 (allS G_b6 all0)
  have N21 := Fr.app N5 N21q
  show Go _ _ _ _ (State.setTop _ (mkF _ 139 _ [(.ref b6)]))
  refine gAstore X21 H at_139 rfl (Ls' := #[vI p0, vI p1, vI p2, vI p3, vI p4, vI p5, vI 0, vR b1, vR b6, .unset, .unset, .unset]) rfl 141 rfl ?_
  refine gIload X21 H at_141 rfl 143 rfl ?_
  refine gIconst X21 H at_143 (z := 1) rfl 144 rfl ?_
  refine gCmpY X21 H at_144 (by decide) (by decide) 156 rfl ?_
  refine gIload X21 H at_156 rfl 158 rfl ?_
  refine gIconst X21 H at_158 (z := 2) rfl 159 rfl ?_
  refine gCmpY X21 H at_159 (by decide) (by decide) 171 rfl ?_
  refine gIload X21 H at_171 rfl 173 rfl ?_
  refine gIconst X21 H at_173 (z := 3) rfl 174 rfl ?_
  refine gCmpY X21 H at_174 (by decide) (by decide) 186 rfl ?_
  refine gIload X21 H at_186 rfl 188 rfl ?_
  refine gIconst X21 H at_188 (z := 4) rfl 189 rfl ?_
  refine gCmpY X21 H at_189 (by decide) (by decide) 201 rfl ?_
  refine gIload X21 H at_201 rfl 203 rfl ?_
  refine gLdc X21 H hZ hown (hw _ wd1) at_203 205 rfl ?_
  refine g_iand X21 H at_205 (z := (p5 &&& (2147483647 : Int32))) rfl 206 rfl ?_
  refine gIload X21 H at_206 rfl 208 rfl ?_
  refine gIconst X21 H at_208 (z := 1) rfl 209 rfl ?_
  refine g_iadd X21 H at_209 (z := 1) (by decide) 210 rfl ?_
  rcases mod_1 p5 with hn22
  · refine g_irem X21 H at_210 (by decide) (z := 0) hn22 211 rfl ?_
    refine gIstore X21 H at_211 (Ls' := #[vI p0, vI p1, vI p2, vI p3, vI p4, vI p5, vI 0, vR b1, vR b6, vI 0, .unset, .unset]) rfl 213 rfl ?_
    refine gIload X21 H at_213 rfl 215 rfl ?_
    refine gIload X21 H at_215 rfl 217 rfl ?_
    refine gCmpN X21 H at_217 (by decide) 220 rfl ?_
    refine gIconst X21 H at_220 (z := (-1)) rfl 221 rfl ?_
    refine gIstore X21 H at_221 (Ls' := #[vI p0, vI p1, vI p2, vI p3, vI p4, vI p5, vI 0, vR b1, vR b6, vI 0, vI (-1), .unset]) rfl 223 rfl ?_
    refine gIconst X21 H at_223 (z := 0) rfl 224 rfl ?_
    refine gIstore X21 H at_224 (Ls' := #[vI p0, vI p1, vI p2, vI p3, vI p4, vI p5, vI 0, vR b1, vR b6, vI 0, vI (-1), vI 0]) rfl 226 rfl ?_
    refine gGoto X21 H at_226 (by decide) 242 rfl ?_
    refine gAload X21 H at_242 rfl rfl 244 rfl ?_
    refine gIload X21 H at_244 rfl 246 rfl ?_
    refine gVirt X21 H hZ hown (hw _ wd15) (hw _ wd16) (hw _ wd18) (hw _ wd17) (by decide) f21_0 (hw _ wd19) (hw _ wd4) (rm33_3 B b6 _ O21 f21_0 f21_2 G_b6 f21_1 f21_3) rfl hml rfl pd1 rfl (W := 0) (argsL := [(.int (-1))]) (rest := []) rfl rfl at_246 249 rfl ?_
    intro v34 T34 L34 hq34 X34
    obtain ⟨rfl, N34q, K34, f34_0, f34_1, f34_2, f34_3⟩ := hq34
    have O34 := extK O21 K34 (allS G_b6 all0)
    have N34 := Fr.app N21 N34q
    show Go _ _ _ _ (State.setTop _ (mkF _ 249 _ []))
    refine gAload X34 H at_249 rfl rfl 251 rfl ?_
    refine gVirt X34 H hZ hown (hw _ wd22) (hw _ wd23) (hw _ wd25) (hw _ wd24) (by decide) f34_0 (hw _ wd26) (hw _ wd4) (rm37_4 B b6 _ O34 f34_1) rfl hml rfl pd2 rfl (W := 0) (argsL := []) (rest := []) rfl rfl at_251 254 rfl ?_
    intro v38 T38 L38 hq38 X38
    obtain ⟨rfl, e38, rfl⟩ := hq38
    have N38 := Fr.app N34 (Fr.nil _)
    show Go _ _ _ _ (State.setTop _ (mkF _ 254 _ [(.int 0)]))
    refine gIload X38 H at_254 rfl 256 rfl ?_
    refine gCmpY X38 H at_256 (by decide) (by decide) 261 rfl ?_
    refine gIload X38 H at_261 rfl 263 rfl ?_
    refine gIconst X38 H at_263 (z := 1) rfl 264 rfl ?_
    refine gCmpY X38 H at_264 (by decide) (by decide) 282 rfl ?_
    refine gIload X38 H at_282 rfl 284 rfl ?_
    refine gIconst X38 H at_284 (z := 2) rfl 285 rfl ?_
    refine gCmpY X38 H at_285 (by decide) (by decide) 303 rfl ?_
    refine gIload X38 H at_303 rfl 305 rfl ?_
    refine gIconst X38 H at_305 (z := 3) rfl 306 rfl ?_
    refine gCmpY X38 H at_306 (by decide) (by decide) 324 rfl ?_
    refine gIload X38 H at_324 rfl 326 rfl ?_
    refine gIconst X38 H at_326 (z := 4) rfl 327 rfl ?_
    refine gCmpY X38 H at_327 (by decide) (by decide) 345 rfl ?_
    refine gIconst X38 H at_345 (z := 1) rfl 346 rfl ?_
    exact gRetN X38 H hlk hret (t := .boolean) (by simp) at_346 e38 ⟨rfl, N38⟩
theorem rm59_7 (B : Bg Z a0 w_Trail_NO_ROOM k_w_Trail_NO_ROOM) (h : Heap) (O : Ext Z.heap h) :
    Con l Z yM7 jdk_29_method_65_code 2 (some .int) ({ frames := 0, cells := 0, slots := 0, locals := 0 } : Room) #[(.int 16), (.int 0)] h (fun v h' L => v = some (.int 16) ∧ h' = h ∧ L = []) := by
  refine Con.of (Jvm.Free.JP.mathPlain rfl (by decide +kernel)) (Ls := #[vI 16, vI 0]) (fun _ => rfl) ?_
  intro p e s m below meth c T0 X0 H hml hZ hown hnm hret hlk e0
  refine gIloadN X0 H d7_0 rfl 1 rfl ?_
  refine gIloadN X0 H d7_1 rfl 2 rfl ?_
  refine gCmpN X0 H d7_2 (by decide) 5 rfl ?_
  refine gIloadN X0 H d7_5 rfl 6 rfl ?_
  refine gGoto X0 H d7_6 (by decide) 10 rfl ?_
  exact gRetI X0 H hlk hret d7_10 e0 ⟨rfl, rfl, rfl⟩
theorem rm64_9 (B : Bg Z a0 w_Trail_NO_ROOM k_w_Trail_NO_ROOM) (h : Heap) (O : Ext Z.heap h) :
    Con l Z yM9 jdk_29_method_69_code 2 (some .int) ({ frames := 0, cells := 0, slots := 0, locals := 0 } : Room) #[(.int 0), (.int 16)] h (fun v h' L => v = some (.int 0) ∧ h' = h ∧ L = []) := by
  refine Con.of (Jvm.Free.JP.mathPlain rfl (by decide +kernel)) (Ls := #[vI 0, vI 16]) (fun _ => rfl) ?_
  intro p e s m below meth c T0 X0 H hml hZ hown hnm hret hlk e0
  refine gIloadN X0 H d9_0 rfl 1 rfl ?_
  refine gIloadN X0 H d9_1 rfl 2 rfl ?_
  refine gCmpN X0 H d9_2 (by decide) 5 rfl ?_
  refine gIloadN X0 H d9_5 rfl 6 rfl ?_
  refine gGoto X0 H d9_6 (by decide) 10 rfl ?_
  exact gRetI X0 H hlk hret d9_10 e0 ⟨rfl, rfl, rfl⟩
theorem rm69_8 (B : Bg Z a0 w_Trail_NO_ROOM k_w_Trail_NO_ROOM) (h : Heap) (O : Ext Z.heap h) :
    Con l Z yM8 jdk_65_method_123_code 3 (some (.array .int)) ({ frames := 1, cells := 1, slots := 16, locals := 18 } : Room) #[(.ref w_Trail_NO_ROOM), (.int 16)] h (fun v h' L => ∃ (b62 : Addr) (k62 : ClassId), v = some (.ref b62) ∧ Fr Z.heap.size L ∧ Keep h h' [] ∧ h.size ≤ b62 ∧ Arv Z h' b62 k62 .int (16 : Int32) [(.int 0), (.int 0), (.int 0), (.int 0), (.int 0), (.int 0), (.int 0), (.int 0), (.int 0), (.int 0), (.int 0), (.int 0), (.int 0), (.int 0), (.int 0), (.int 0)] (.int 0)) := by
  have hw := B.1
  obtain ⟨S_w_Trail_NO_ROOM, V_w_Trail_NO_ROOM⟩ := B.2
  refine Con.of (plainFor_of_name pn8) (Ls := #[vR w_Trail_NO_ROOM, vI 16, .unset]) (fun _ => rfl) ?_
  intro p e s m below meth c T0 X0 H hml hZ hown hnm hret hlk e0
  have M0 := Nat.le_refl h.size
  have N0 := Fr.nil Z.heap.size
  refine gIloadN X0 H d8_0 rfl 1 rfl ?_
  refine gAloadN X0 H d8_1 rfl rfl 2 rfl ?_
  refine gLen X0 H hZ e0 (Arv.arl (V_w_Trail_NO_ROOM.ext O)) d8_2 3 rfl ?_
  refine gCmpY X0 H d8_3 (by decide) (by decide) 14 rfl ?_
  refine gIloadN X0 H d8_14 rfl 15 rfl ?_
  refine gNewP X0 H hZ (aty := .int) (hw _ wd0) e0 (by decide) (cap := 16) (by decide) (by decide) (vs := [(.int 0), (.int 0), (.int 0), (.int 0), (.int 0), (.int 0), (.int 0), (.int 0), (.int 0), (.int 0), (.int 0), (.int 0), (.int 0), (.int 0), (.int 0), (.int 0)]) rfl (by decide) (by decide) d8_15 17 rfl ?_
  intro T62 h62 b62 k62 X62 e62 z62 E62 V62
  have G_b62 := Nat.le_trans O.1 (Nat.le_of_eq z62)
  have sz_b62 := Nat.le_trans M0 (Nat.le_of_eq z62)
  have O62 := extT O E62
  refine gAstoreN X62 H d8_17 rfl (Ls' := #[vR w_Trail_NO_ROOM, vI 16, vR b62]) rfl 18 rfl ?_
  refine gAloadN X62 H d8_18 rfl rfl 19 rfl ?_
  refine gIconst X62 H d8_19 (z := 0) rfl 20 rfl ?_
  refine gAloadN X62 H d8_20 rfl rfl 21 rfl ?_
  refine gIconst X62 H d8_21 (z := 0) rfl 22 rfl ?_
  refine gAloadN X62 H d8_22 rfl rfl 23 rfl ?_
  refine gLen X62 H hZ e62 (Arv.arl (V_w_Trail_NO_ROOM.ext O62)) d8_23 24 rfl ?_
  refine gIloadN X62 H d8_24 rfl 25 rfl ?_
  refine gStatic X62 H hZ hown (hw _ wd44) (hw _ wd45) (by decide) (hw _ wd46) (hw _ wd38) (rm64_9 B _ O62) e62 hml rfl pd3 rfl (W := 4) (argsL := [(.int 0), (.int 16)]) (rest := [(.int 0), (.ref b62), (.int 0), (.ref w_Trail_NO_ROOM)]) rfl rfl d8_25 28 rfl ?_
  intro v65 T65 L65 hq65 X65
  obtain ⟨rfl, e65, rfl⟩ := hq65
  have N65 := Fr.app N0 (Fr.nil _)
  show Go _ _ _ _ (State.setTop _ (mkF _ 28 _ [(.int 0), (.int 0), (.ref b62), (.int 0), (.ref w_Trail_NO_ROOM)]))
  refine gCopy X65 H hZ hown (hw _ wd47) (hw _ wd50) (hw _ wd48) (hw _ wd49) e65 (V_w_Trail_NO_ROOM.ext O62) V62 (us := []) (Or.inl ⟨rfl, rfl⟩) (by decide) (by decide) (by decide) (by decide) (by decide) rfl (Nat.le_of_ble_eq_true rfl) N65 G_b62 hml rfl (V := 0) (by decide) (Nat.le_of_eq rfl) (by decide) (vd' := [(.int 0), (.int 0), (.int 0), (.int 0), (.int 0), (.int 0), (.int 0), (.int 0), (.int 0), (.int 0), (.int 0), (.int 0), (.int 0), (.int 0), (.int 0), (.int 0)]) rfl d8_28 31 rfl ?_
  intro T66 h66 L66 X66 e66 N66c K66 V66
  have O66 := extK O62 K66 (allS G_b62 all0)
  refine gAloadN X66 H d8_31 rfl rfl 32 rfl ?_
  have K_67 := (Keep.refl h []).ext E62
  have K_68 := K_67.trans K66 (allS (Or.inr sz_b62) all0)
  exact gRetA X66 H hlk hret rfl rfl rfl d8_32 e66 ⟨b62, k62, rfl, N66c, K_68, sz_b62, V66⟩
theorem rm84_6 (B : Bg Z a0 w_Trail_NO_ROOM k_w_Trail_NO_ROOM) (ro0 : Addr) (h : Heap) (O : Ext Z.heap h) (q55 : Fld Z h ro0 cs0 "entries" "[I" (.ref w_Trail_NO_ROOM)) (q72 : Exa Z h ro0 cs0) (q75 : Z.heap.size ≤ ro0) (q77 : Fld Z h ro0 cs0 "depth" "I" (.int 0)) (q79 : Fld Z h ro0 cs0 "unchanged" "B" (.int 0)) :
    Con l Z yM6 prog_22_method_16_code 1 none ({ frames := 2, cells := 1, slots := 16, locals := 33 } : Room) #[(.ref ro0)] h (fun v h' L => ∃ (b70_0 : Addr) (k70_0 : ClassId), v = none ∧ Fr Z.heap.size L ∧ Keep h h' [ro0] ∧ h.size ≤ b70_0 ∧ Fld Z h' ro0 cs0 "entries" "[I" (.ref b70_0) ∧ Arv Z h' b70_0 k70_0 .int (16 : Int32) [(.int 0), (.int 0), (.int 0), (.int 0), (.int 0), (.int 0), (.int 0), (.int 0), (.int 0), (.int 0), (.int 0), (.int 0), (.int 0), (.int 0), (.int 0), (.int 0)] (.int 0) ∧ Exa Z h' ro0 cs0 ∧ Fld Z h' ro0 cs0 "depth" "I" (.int 0) ∧ Fld Z h' ro0 cs0 "unchanged" "B" (.int 0)) := by
  have hw := B.1
  obtain ⟨S_w_Trail_NO_ROOM, V_w_Trail_NO_ROOM⟩ := B.2
  refine Con.of (plainFor_of_name pn6) (Ls := #[vR ro0]) (fun _ => rfl) ?_
  intro p e s m below meth c T0 X0 H hml hZ hown hnm hret hlk e0
  have M0 := Nat.le_refl h.size
  have N0 := Fr.nil Z.heap.size
  refine gAloadN X0 H d6_0 rfl rfl 1 rfl ?_
  refine gAloadN X0 H d6_1 rfl rfl 2 rfl ?_
  refine gGetF X0 H hZ hown (hw _ wd13) Via.refl e0 q55 d6_2 5 rfl ?_
  intro T56 X56 e56
  refine gBipush X56 H d6_5 (z := 16) rfl 7 rfl ?_
  refine gIconst X56 H d6_7 (z := 2) rfl 8 rfl ?_
  refine gAloadN X56 H d6_8 rfl rfl 9 rfl ?_
  refine gGetF X56 H hZ hown (hw _ wd13) Via.refl e56 q55 d6_9 12 rfl ?_
  intro T57 X57 e57
  refine gLen X57 H hZ e57 (Arv.arl (V_w_Trail_NO_ROOM.ext O)) d6_12 13 rfl ?_
  refine g_imul X57 H d6_13 (z := 0) (by decide) 14 rfl ?_
  refine gStatic X57 H hZ hown (hw _ wd36) (hw _ wd37) (by decide) (hw _ wd39) (hw _ wd38) (rm59_7 B _ O) e57 hml rfl pd3 rfl (W := 2) (argsL := [(.int 16), (.int 0)]) (rest := [(.ref w_Trail_NO_ROOM), (.ref ro0)]) rfl rfl d6_14 17 rfl ?_
  intro v60 T60 L60 hq60 X60
  obtain ⟨rfl, e60, rfl⟩ := hq60
  have N60 := Fr.app N0 (Fr.nil _)
  show Go _ _ _ _ (State.setTop _ (mkF _ 17 _ [(.int 16), (.ref w_Trail_NO_ROOM), (.ref ro0)]))
  refine gStatic X60 H hZ hown (hw _ wd40) (hw _ wd41) (by decide) (hw _ wd43) (hw _ wd42) (rm69_8 B _ O) e60 hml rfl pd4 rfl (W := 1) (argsL := [(.ref w_Trail_NO_ROOM), (.int 16)]) (rest := [(.ref ro0)]) rfl rfl d6_17 20 rfl ?_
  intro v70 T70 L70 hq70 X70
  obtain ⟨b70_0, k70_0, rfl, N70q, K70, s70_0, f70_0⟩ := hq70
  have G_b70_0 := Nat.le_trans O.1 s70_0
  have sz_b70_0 := Nat.le_trans M0 s70_0
  have O70 := extK O K70 all0
  have N70 := Fr.app N60 N70q
  show Go _ _ _ _ (State.setTop _ (mkF _ 20 _ [(.ref b70_0), (.ref ro0)]))
  have c73 := (q72.keep K70)
  have c74 := (q55.keep K70 nin0)
  refine gPutF X70 H hZ hown (hw _ wd13) Via.refl rfl c74 c73 (Or.inl (hw _ wd14)) (hw _ wd3) (ty := (.array .int)) (by decide) (v' := (.ref b70_0)) rfl rfl d6_20 23 rfl ?_
  intro T71 h71 X71 e71 W71 F71
  have O71 := extW O70 W71 q75
  have N71 := Fr.snoc X71 N70 q75
  have c76 := (c73.wr W71)
  have c78 := ((q77.keep K70 nin0).other W71 (Or.inr (sn0 hw)))
  have c80 := ((q79.keep K70 nin0).other W71 (Or.inr (sn1 hw)))
  have c81 := (f70_0.other W71 (Ne.symm (neB q55.lt sz_b70_0)))
  have K_82 := (Keep.refl h [ro0]).trans K70 all0
  have K_83 := K_82.wr W71 (Or.inl (List.mem_of_getElem? (i := 0) rfl))
  exact gRetV X71 H hlk hret d6_23 e71 ⟨b70_0, k70_0, rfl, N71, K_83, sz_b70_0, F71, c81, c76, c78, c80⟩
theorem rm91_10 (B : Bg Z a0 w_Trail_NO_ROOM k_w_Trail_NO_ROOM) (ro0 : Addr) (h : Heap) (O : Ext Z.heap h) (q89 : Fld Z h ro0 cs0 "unchanged" "B" (.int 0)) :
    Con l Z yM10 prog_22_method_15_code 2 none ({ frames := 0, cells := 0, slots := 0, locals := 0 } : Room) #[(.ref ro0), (.int 0)] h (fun v h' L => v = none ∧ h' = h ∧ L = []) := by
  have hw := B.1
  refine Con.of (plainFor_of_name pn10) (Ls := #[vR ro0, vI 0]) (fun _ => rfl) ?_
  intro p e s m below meth c T0 X0 H hml hZ hown hnm hret hlk e0
  refine gIloadN X0 H d10_0 rfl 1 rfl ?_
  refine gAloadN X0 H d10_1 rfl rfl 2 rfl ?_
  refine gGetF X0 H hZ hown (hw _ wd55) Via.refl e0 q89 d10_2 5 rfl ?_
  intro T90 X90 e90
  refine gCmpY X90 H d10_5 (by decide) (by decide) 14 rfl ?_
  exact gRetV X90 H hlk hret d10_14 e90 ⟨rfl, rfl, rfl⟩
theorem rm107_5 (B : Bg Z a0 w_Trail_NO_ROOM k_w_Trail_NO_ROOM) (ro0 : Addr) (vi1 : Int32) (h : Heap) (O : Ext Z.heap h) (q49 : Fld Z h ro0 cs0 "depth" "I" (.int 0)) (q51 : Fld Z h ro0 cs0 "entries" "[I" (.ref w_Trail_NO_ROOM)) (q54 : Exa Z h ro0 cs0) (q85 : Z.heap.size ≤ ro0) (q86 : Fld Z h ro0 cs0 "unchanged" "B" (.int 0)) :
    Con l Z yM5 prog_22_method_6_code 2 none ({ frames := 3, cells := 1, slots := 16, locals := 45 } : Room) #[(.ref ro0), (.int vi1)] h (fun v h' L => ∃ (b87_0 : Addr) (k87_0 : ClassId), v = none ∧ Fr Z.heap.size L ∧ Keep h h' [ro0] ∧ h.size ≤ b87_0 ∧ Fld Z h' ro0 cs0 "depth" "I" (.int 1) ∧ Fld Z h' ro0 cs0 "entries" "[I" (.ref b87_0) ∧ Exa Z h' ro0 cs0 ∧ Fld Z h' ro0 cs0 "unchanged" "B" (.int 0) ∧ Arv Z h' b87_0 k87_0 .int (16 : Int32) [(.int vi1), (.int 0), (.int 0), (.int 0), (.int 0), (.int 0), (.int 0), (.int 0), (.int 0), (.int 0), (.int 0), (.int 0), (.int 0), (.int 0), (.int 0), (.int 0)] (.int 0)) := by
  have hw := B.1
  obtain ⟨S_w_Trail_NO_ROOM, V_w_Trail_NO_ROOM⟩ := B.2
  refine Con.of (plainFor_of_name pn5) (Ls := #[vR ro0, vI vi1]) (fun _ => rfl) ?_
  intro p e s m below meth c T0 X0 H hml hZ hown hnm hret hlk e0
  have M0 := Nat.le_refl h.size
  have N0 := Fr.nil Z.heap.size
  refine gAloadN X0 H d5_0 rfl rfl 1 rfl ?_
  refine gGetF X0 H hZ hown (hw _ wd20) Via.refl e0 q49 d5_1 4 rfl ?_
  intro T50 X50 e50
  refine gAloadN X50 H d5_4 rfl rfl 5 rfl ?_
  refine gGetF X50 H hZ hown (hw _ wd13) Via.refl e50 q51 d5_5 8 rfl ?_
  intro T52 X52 e52
  refine gLen X52 H hZ e52 (Arv.arl (V_w_Trail_NO_ROOM.ext O)) d5_8 9 rfl ?_
  refine gCmpN X52 H d5_9 (by decide) 12 rfl ?_
  refine gAloadN X52 H d5_12 rfl rfl 13 rfl ?_
  refine gPrivate X52 H hZ hown (hw _ wd32) (hw _ wd33) (hw _ wd34) (hw _ wd3) (by decide) q54 (hw _ wd35) (hw _ wd4) (rm84_6 B ro0 _ O q51 q54 q85 q49 q86) e52 hml rfl pd0 rfl (W := 0) (argsL := []) (rest := []) rfl rfl d5_13 16 rfl ?_
  intro v87 T87 L87 hq87 X87
  obtain ⟨b87_0, k87_0, rfl, N87q, K87, s87_0, f87_0, f87_1, f87_2, f87_3, f87_4⟩ := hq87
  have G_b87_0 := Nat.le_trans O.1 s87_0
  have sz_b87_0 := Nat.le_trans M0 s87_0
  have O87 := extK O K87 (allS q85 all0)
  have N87 := Fr.app N0 N87q
  show Go _ _ _ _ (State.setTop _ (mkF _ 16 _ []))
  refine gAloadN X87 H d5_16 rfl rfl 17 rfl ?_
  refine gAloadN X87 H d5_17 rfl rfl 18 rfl ?_
  refine gGetF X87 H hZ hown (hw _ wd20) Via.refl rfl f87_3 d5_18 21 rfl ?_
  intro T88 X88 e88
  refine gPrivate X88 H hZ hown (hw _ wd51) (hw _ wd52) (hw _ wd53) (hw _ wd3) (by decide) f87_2 (hw _ wd54) (hw _ wd4) (rm91_10 B ro0 _ O87 f87_4) e88 hml rfl pd1 rfl (W := 0) (argsL := [(.int 0)]) (rest := []) rfl rfl d5_21 24 rfl ?_
  intro v92 T92 L92 hq92 X92
  obtain ⟨rfl, e92, rfl⟩ := hq92
  have N92 := Fr.app N87 (Fr.nil _)
  show Go _ _ _ _ (State.setTop _ (mkF _ 24 _ []))
  refine gAloadN X92 H d5_24 rfl rfl 25 rfl ?_
  refine gGetF X92 H hZ hown (hw _ wd13) Via.refl e92 f87_0 d5_25 28 rfl ?_
  intro T93 X93 e93
  refine gAloadN X93 H d5_28 rfl rfl 29 rfl ?_
  refine gGetF X93 H hZ hown (hw _ wd20) Via.refl e93 f87_3 d5_29 32 rfl ?_
  intro T94 X94 e94
  refine gIloadN X94 H d5_32 rfl 33 rfl ?_
  refine gIastore X94 H hZ e94 f87_1 ⟨by decide, by decide⟩ (i := 0) rfl (Nat.le_of_ble_eq_true rfl) (vs' := [(.int vi1), (.int 0), (.int 0), (.int 0), (.int 0), (.int 0), (.int 0), (.int 0), (.int 0), (.int 0), (.int 0), (.int 0), (.int 0), (.int 0), (.int 0), (.int 0)]) rfl d5_33 34 rfl ?_
  intro T95 h95 X95 e95 W95 V95
  have O95 := extW O87 W95 G_b87_0
  have N95 := Fr.snoc X95 N92 G_b87_0
  refine gAloadN X95 H d5_34 rfl rfl 35 rfl ?_
  refine gDup X95 H d5_35 rfl 36 rfl ?_
  have c96 := (f87_3.other W95 (Or.inl (neB q49.lt sz_b87_0)))
  refine gGetF X95 H hZ hown (hw _ wd20) Via.refl e95 c96 d5_36 39 rfl ?_
  intro T97 X97 e97
  refine gIconst X97 H d5_39 (z := 1) rfl 40 rfl ?_
  refine g_iadd X97 H d5_40 (z := 1) (by decide) 41 rfl ?_
  have c99 := (f87_2.wr W95)
  refine gPutF X97 H hZ hown (hw _ wd20) Via.refl e97 c96 c99 (Or.inl (hw _ wd21)) (hw _ wd3) (ty := .int) (by decide) (v' := (.int 1)) rfl rfl d5_41 44 rfl ?_
  intro T98 h98 X98 e98 W98 F98
  have O98 := extW O95 W98 q85
  have N98 := Fr.snoc X98 N95 q85
  have c100 := ((f87_0.other W95 (Or.inl (neB q49.lt sz_b87_0))).other W98 (Or.inr (sn2 hw)))
  have c101 := (c99.wr W98)
  have c102 := ((f87_4.other W95 (Or.inl (neB q49.lt sz_b87_0))).other W98 (Or.inr (sn3 hw)))
  have c103 := (V95.other W98 (Ne.symm (neB q49.lt sz_b87_0)))
  have K_104 := (Keep.refl h [ro0]).trans K87 (allS (Or.inl (List.mem_of_getElem? (i := 0) rfl)) all0)
  have K_105 := K_104.wr W95 (Or.inr sz_b87_0)
  have K_106 := K_105.wr W98 (Or.inl (List.mem_of_getElem? (i := 0) rfl))
  exact gRetV X98 H hlk hret d5_44 e98 ⟨b87_0, k87_0, rfl, N98, K_106, sz_b87_0, F98, c100, c101, c102, c103⟩
theorem rm128_3 (B : Bg Z a0 w_Trail_NO_ROOM k_w_Trail_NO_ROOM) (ro0 : Addr) (vi1 : Int32) (ro2 : Addr) (ck3 : ClassId) (h : Heap) (O : Ext Z.heap h) (q114 : Fld Z h ro0 cs0 "depth" "I" (.int 1)) (q116 : Fld Z h ro0 cs0 "entries" "[I" (.ref ro2)) (q119 : Arv Z h ro2 ck3 .int (16 : Int32) [(.int vi1), (.int 0), (.int 0), (.int 0), (.int 0), (.int 0), (.int 0), (.int 0), (.int 0), (.int 0), (.int 0), (.int 0), (.int 0), (.int 0), (.int 0), (.int 0)] (.int 0)) (q121 : Exa Z h ro0 cs0) (q122 : Z.heap.size ≤ ro0) (q125 : Fld Z h ro0 cs0 "unchanged" "B" (.int 0)) (hk113 : ¬ (vi1 = (-1 : Int32))) :
    Con l Z yM3 prog_22_method_9_code 3 none ({ frames := 0, cells := 0, slots := 0, locals := 0 } : Room) #[(.ref ro0), (.int vi1)] h (fun v h' L => v = none ∧ Fr Z.heap.size L ∧ Keep h h' [ro0] ∧ Fld Z h' ro0 cs0 "depth" "I" (.int 1) ∧ Fld Z h' ro0 cs0 "entries" "[I" (.ref ro2) ∧ Exa Z h' ro0 cs0 ∧ Fld Z h' ro0 cs0 "unchanged" "B" (.int 0)) := by
  have hw := B.1
  refine Con.of (plainFor_of_name pn3) (Ls := #[vR ro0, vI vi1, .unset]) (fun _ => rfl) ?_
  intro p e s m below meth c T0 X0 H hml hZ hown hnm hret hlk e0
  have N0 := Fr.nil Z.heap.size
  refine gIloadN X0 H d3_0 rfl 1 rfl ?_
  refine gIconst X0 H d3_1 (z := (-1)) rfl 2 rfl ?_
  refine gCmpY X0 H d3_2 (feq hk113).2 (by decide) 11 rfl ?_
  refine gAloadN X0 H d3_11 rfl rfl 12 rfl ?_
  refine gGetF X0 H hZ hown (hw _ wd20) Via.refl e0 q114 d3_12 15 rfl ?_
  intro T115 X115 e115
  refine gIstoreN X115 H d3_15 (Ls' := #[vR ro0, vI vi1, vI 1]) rfl 16 rfl ?_
  refine gAloadN X115 H d3_16 rfl rfl 17 rfl ?_
  refine gGetF X115 H hZ hown (hw _ wd13) Via.refl e115 q116 d3_17 20 rfl ?_
  intro T117 X117 e117
  refine gIloadN X117 H d3_20 rfl 21 rfl ?_
  refine gIconst X117 H d3_21 (z := 1) rfl 22 rfl ?_
  refine g_isub X117 H d3_22 (z := 0) (by decide) 23 rfl ?_
  refine gIaload X117 H hZ e117 q119 ⟨by decide, by decide⟩ (v := (.int vi1)) rfl d3_23 24 rfl ?_
  refine gIloadN X117 H d3_24 rfl 25 rfl ?_
  refine gCmpY X117 H d3_25 (teq rfl).1 (by decide) 34 rfl ?_
  refine gAloadN X117 H d3_34 rfl rfl 35 rfl ?_
  refine gIloadN X117 H d3_35 rfl 36 rfl ?_
  refine gPutF X117 H hZ hown (hw _ wd20) Via.refl e117 q114 q121 (Or.inl (hw _ wd21)) (hw _ wd3) (ty := .int) (by decide) (v' := (.int 1)) rfl rfl d3_36 39 rfl ?_
  intro T120 h120 X120 e120 W120 F120
  have O120 := extW O W120 q122
  have N120 := Fr.snoc X120 N0 q122
  have c123 := (q116.other W120 (Or.inr (sn2 hw)))
  have c124 := (q121.wr W120)
  have c126 := (q125.other W120 (Or.inr (sn3 hw)))
  have K_127 := (Keep.refl h [ro0]).wr W120 (Or.inl (List.mem_of_getElem? (i := 0) rfl))
  exact gRetV X120 H hlk hret d3_39 e120 ⟨rfl, N120, K_127, F120, c123, c124, c126⟩
theorem rm132_4 (B : Bg Z a0 w_Trail_NO_ROOM k_w_Trail_NO_ROOM) (ro0 : Addr) (h : Heap) (O : Ext Z.heap h) (q130 : Fld Z h ro0 cs0 "depth" "I" (.int 1)) :
    Con l Z yM4 prog_22_method_2_code 1 (some .int) ({ frames := 0, cells := 0, slots := 0, locals := 0 } : Room) #[(.ref ro0)] h (fun v h' L => v = some (.int 1) ∧ h' = h ∧ L = []) := by
  have hw := B.1
  refine Con.of (plainFor_of_name pn4) (Ls := #[vR ro0]) (fun _ => rfl) ?_
  intro p e s m below meth c T0 X0 H hml hZ hown hnm hret hlk e0
  refine gAloadN X0 H d4_0 rfl rfl 1 rfl ?_
  refine gGetF X0 H hZ hown (hw _ wd20) Via.refl e0 q130 d4_1 4 rfl ?_
  intro T131 X131 e131
  exact gRetI X131 H hlk hret d4_4 e131 ⟨rfl, rfl, rfl⟩
theorem rm138_11 (B : Bg Z a0 w_Trail_NO_ROOM k_w_Trail_NO_ROOM) (ro0 ro1 : Addr) (ck2 : ClassId) (vi3 : Int32) (h : Heap) (O : Ext Z.heap h) (q134 : Fld Z h ro0 cs0 "entries" "[I" (.ref ro1)) (q137 : Arv Z h ro1 ck2 .int (16 : Int32) [(.int vi3), (.int 0), (.int 0), (.int 0), (.int 0), (.int 0), (.int 0), (.int 0), (.int 0), (.int 0), (.int 0), (.int 0), (.int 0), (.int 0), (.int 0), (.int 0)] (.int 0)) :
    Con l Z yM11 prog_22_method_3_code 2 (some .int) ({ frames := 0, cells := 0, slots := 0, locals := 0 } : Room) #[(.ref ro0), (.int 0)] h (fun v h' L => v = some (.int vi3) ∧ h' = h ∧ L = []) := by
  have hw := B.1
  refine Con.of (plainFor_of_name pn11) (Ls := #[vR ro0, vI 0]) (fun _ => rfl) ?_
  intro p e s m below meth c T0 X0 H hml hZ hown hnm hret hlk e0
  refine gAloadN X0 H d11_0 rfl rfl 1 rfl ?_
  refine gGetF X0 H hZ hown (hw _ wd13) Via.refl e0 q134 d11_1 4 rfl ?_
  intro T135 X135 e135
  refine gIloadN X135 H d11_4 rfl 5 rfl ?_
  refine gIaload X135 H hZ e135 q137 ⟨by decide, by decide⟩ (v := (.int vi3)) rfl d11_5 6 rfl ?_
  exact gRetI X135 H hlk hret d11_6 e135 ⟨rfl, rfl, rfl⟩
theorem rm153_3 (B : Bg Z a0 w_Trail_NO_ROOM k_w_Trail_NO_ROOM) (ro0 ro1 : Addr) (h : Heap) (O : Ext Z.heap h) (q144 : Exa Z h ro0 cs0) (q145 : Fld Z h ro0 cs0 "depth" "I" (.int 1)) (q146 : Z.heap.size ≤ ro0) (q148 : Fld Z h ro0 cs0 "entries" "[I" (.ref ro1)) (q150 : Fld Z h ro0 cs0 "unchanged" "B" (.int 0)) :
    Con l Z yM3 prog_22_method_9_code 3 none ({ frames := 0, cells := 0, slots := 0, locals := 0 } : Room) #[(.ref ro0), (.int (-1))] h (fun v h' L => v = none ∧ Fr Z.heap.size L ∧ Keep h h' [ro0] ∧ Exa Z h' ro0 cs0 ∧ Fld Z h' ro0 cs0 "depth" "I" (.int 0) ∧ Fld Z h' ro0 cs0 "entries" "[I" (.ref ro1) ∧ Fld Z h' ro0 cs0 "unchanged" "B" (.int 0)) := by
  have hw := B.1
  refine Con.of (plainFor_of_name pn3) (Ls := #[vR ro0, vI (-1), .unset]) (fun _ => rfl) ?_
  intro p e s m below meth c T0 X0 H hml hZ hown hnm hret hlk e0
  have N0 := Fr.nil Z.heap.size
  refine gIloadN X0 H d3_0 rfl 1 rfl ?_
  refine gIconst X0 H d3_1 (z := (-1)) rfl 2 rfl ?_
  refine gCmpN X0 H d3_2 (by decide) 5 rfl ?_
  refine gAloadN X0 H d3_5 rfl rfl 6 rfl ?_
  refine gIconst X0 H d3_6 (z := 0) rfl 7 rfl ?_
  refine gPutF X0 H hZ hown (hw _ wd20) Via.refl e0 q145 q144 (Or.inl (hw _ wd21)) (hw _ wd3) (ty := .int) (by decide) (v' := (.int 0)) rfl rfl d3_7 10 rfl ?_
  intro T143 h143 X143 e143 W143 F143
  have O143 := extW O W143 q146
  have N143 := Fr.snoc X143 N0 q146
  have c147 := (q144.wr W143)
  have c149 := (q148.other W143 (Or.inr (sn2 hw)))
  have c151 := (q150.other W143 (Or.inr (sn3 hw)))
  have K_152 := (Keep.refl h [ro0]).wr W143 (Or.inl (List.mem_of_getElem? (i := 0) rfl))
  exact gRetV X143 H hlk hret d3_10 e143 ⟨rfl, N143, K_152, c147, F143, c149, c151⟩
theorem lawAll_1 (B : Bg Z a0 w_Trail_NO_ROOM k_w_Trail_NO_ROOM) (p0 : Int32) (p1 : Int32) (p2 : Int32) (p3 : Int32) (p4 : Int32) (p5 : Int32) (ha0 : ((p0 &&& (7 : Int32)) % (5 : Int32)) = (1 : Int32)) :
    Con l Z x code maxLocals ret room_1 #[(.int p0), (.int p1), (.int p2), (.int p3), (.int p4), (.int p5)] Z.heap (fun v h' L => v = some (.int 1) ∧ Fr Z.heap.size L) := by
  have hw := B.1
  obtain ⟨S_w_Trail_NO_ROOM, V_w_Trail_NO_ROOM⟩ := B.2
  refine Con.of (plainFor_of_name pn0) (Ls := #[vI p0, vI p1, vI p2, vI p3, vI p4, vI p5, .unset, .unset, .unset, .unset, .unset, .unset]) (fun _ => rfl) ?_
  intro p e s m below meth c T0 X0 H hml hZ hown hnm hret hlk e0
  have O0 := extR Z.heap
  have M0 := Nat.le_refl Z.heap.size
  have N0 := Fr.nil Z.heap.size
  refine gIloadN X0 H at_0 rfl 1 rfl ?_
  refine gBipush X0 H at_1 (z := 7) rfl 3 rfl ?_
  refine g_iand X0 H at_3 (z := (p0 &&& (7 : Int32))) rfl 4 rfl ?_
  refine gIconst X0 H at_4 (z := 5) rfl 5 rfl ?_
  refine g_irem X0 H at_5 (by decide) (z := 1) ha0 6 rfl ?_
  refine gIstore X0 H at_6 (Ls' := #[vI p0, vI p1, vI p2, vI p3, vI p4, vI p5, vI 1, .unset, .unset, .unset, .unset, .unset]) rfl 8 rfl ?_
  refine gIconst X0 H at_8 (z := 4) rfl 9 rfl ?_
  refine gNewP X0 H hZ (aty := .int) (hw _ wd0) e0 (by decide) (cap := 4) (by decide) (by decide) (vs := [(.int 0), (.int 0), (.int 0), (.int 0)]) rfl (by decide) (by decide) at_9 11 rfl ?_
  intro T39 h39 b39 k39 X39 e39 z39 E39 V39
  have G_b39 := Nat.le_trans O0.1 (Nat.le_of_eq z39)
  have sz_b39 := Nat.le_trans M0 (Nat.le_of_eq z39)
  have O39 := extT O0 E39
  refine gDup X39 H at_11 rfl 12 rfl ?_
  refine gIconst X39 H at_12 (z := 0) rfl 13 rfl ?_
  refine gIloadN X39 H at_13 rfl 14 rfl ?_
  refine gLdc X39 H hZ hown (hw _ wd1) at_14 16 rfl ?_
  refine g_iand X39 H at_16 (z := (p1 &&& (2147483647 : Int32))) rfl 17 rfl ?_
  refine gIastore X39 H hZ e39 V39 ⟨by decide, by decide⟩ (i := 0) rfl (Nat.le_of_ble_eq_true rfl) (vs' := [(.int (p1 &&& (2147483647 : Int32))), (.int 0), (.int 0), (.int 0)]) rfl at_17 18 rfl ?_
  intro T40 h40 X40 e40 W40 V40
  have O40 := extW O39 W40 G_b39
  have N40 := Fr.snoc X40 N0 G_b39
  refine gDup X40 H at_18 rfl 19 rfl ?_
  refine gIconst X40 H at_19 (z := 1) rfl 20 rfl ?_
  refine gIloadN X40 H at_20 rfl 21 rfl ?_
  refine gLdc X40 H hZ hown (hw _ wd1) at_21 23 rfl ?_
  refine g_iand X40 H at_23 (z := (p2 &&& (2147483647 : Int32))) rfl 24 rfl ?_
  refine gIastore X40 H hZ e40 V40 ⟨by decide, by decide⟩ (i := 1) rfl (Nat.le_of_ble_eq_true rfl) (vs' := [(.int (p1 &&& (2147483647 : Int32))), (.int (p2 &&& (2147483647 : Int32))), (.int 0), (.int 0)]) rfl at_24 25 rfl ?_
  intro T41 h41 X41 e41 W41 V41
  have O41 := extW O40 W41 G_b39
  have N41 := Fr.snoc X41 N40 G_b39
  refine gDup X41 H at_25 rfl 26 rfl ?_
  refine gIconst X41 H at_26 (z := 2) rfl 27 rfl ?_
  refine gIloadN X41 H at_27 rfl 28 rfl ?_
  refine gLdc X41 H hZ hown (hw _ wd1) at_28 30 rfl ?_
  refine g_iand X41 H at_30 (z := (p3 &&& (2147483647 : Int32))) rfl 31 rfl ?_
  refine gIastore X41 H hZ e41 V41 ⟨by decide, by decide⟩ (i := 2) rfl (Nat.le_of_ble_eq_true rfl) (vs' := [(.int (p1 &&& (2147483647 : Int32))), (.int (p2 &&& (2147483647 : Int32))), (.int (p3 &&& (2147483647 : Int32))), (.int 0)]) rfl at_31 32 rfl ?_
  intro T42 h42 X42 e42 W42 V42
  have O42 := extW O41 W42 G_b39
  have N42 := Fr.snoc X42 N41 G_b39
  refine gDup X42 H at_32 rfl 33 rfl ?_
  refine gIconst X42 H at_33 (z := 3) rfl 34 rfl ?_
  refine gIload X42 H at_34 rfl 36 rfl ?_
  refine gLdc X42 H hZ hown (hw _ wd1) at_36 38 rfl ?_
  refine g_iand X42 H at_38 (z := (p4 &&& (2147483647 : Int32))) rfl 39 rfl ?_
  refine gIastore X42 H hZ e42 V42 ⟨by decide, by decide⟩ (i := 3) rfl (Nat.le_of_ble_eq_true rfl) (vs' := [(.int (p1 &&& (2147483647 : Int32))), (.int (p2 &&& (2147483647 : Int32))), (.int (p3 &&& (2147483647 : Int32))), (.int (p4 &&& (2147483647 : Int32)))]) rfl at_39 40 rfl ?_
  intro T43 h43 X43 e43 W43 V43
  have O43 := extW O42 W43 G_b39
  have N43 := Fr.snoc X43 N42 G_b39
  refine gAstore X43 H at_40 rfl (Ls' := #[vI p0, vI p1, vI p2, vI p3, vI p4, vI p5, vI 1, vR b39, .unset, .unset, .unset, .unset]) rfl 42 rfl ?_
  refine gIload X43 H at_42 rfl 44 rfl ?_
  refine gIconst X43 H at_44 (z := 2) rfl 45 rfl ?_
  refine gCmpY X43 H at_45 (by decide) (by decide) 61 rfl ?_
  refine gIload X43 H at_61 rfl 63 rfl ?_
  refine gIconst X43 H at_63 (z := 3) rfl 64 rfl ?_
  refine gCmpY X43 H at_64 (by decide) (by decide) 91 rfl ?_
  refine gIload X43 H at_91 rfl 93 rfl ?_
  refine gIconst X43 H at_93 (z := 4) rfl 94 rfl ?_
  refine gCmpY X43 H at_94 (by decide) (by decide) 132 rfl ?_
  refine gNew X43 H hZ hown (hw _ wd2) (hw _ wd3) (hw _ wd4) e43 (by decide) (by decide) at_132 135 rfl ?_
  intro T44 h44 b44 X44 e44 z44 E44 A44 D44
  have M45 := (leW (leW (leW (leW (Nat.le_trans M0 E39.1) W40) W41) W42) W43)
  have G_b44 := Nat.le_trans O43.1 (Nat.le_of_eq z44)
  have sz_b44 := Nat.le_trans M45 (Nat.le_of_eq z44)
  have ne_b39_b44 : b39 ≠ b44 := neB V43.lt (Nat.le_of_eq z44)
  have O44 := extT O43 E44
  have F44_entries : Fld Z h44 b44 cs0 "entries" "[I" .null := D44 (Or.inl (hw _ wd14)) (ty := (.array .int)) (by decide)
  have F44_depth : Fld Z h44 b44 cs0 "depth" "I" (.int 0) := D44 (Or.inl (hw _ wd21)) (ty := .int) (by decide)
  have F44_unchanged : Fld Z h44 b44 cs0 "unchanged" "B" (.int 0) := D44 (Or.inl (hw _ wd56)) (ty := .byte) (by decide)
  refine gDup X44 H at_135 rfl 136 rfl ?_
  refine gSpecial X44 H hZ hown rfl rfl (hw _ wd5) (hw _ wd6) (by decide) (hw _ wd7) (hw _ wd4) (rm20_1 B b44 _ O44 A44 F44_entries G_b44 F44_depth F44_unchanged) e44 hml rfl pd0 rfl (W := 1) (argsL := []) (rest := [(.ref b44)]) rfl rfl at_136 139 rfl ?_
  intro v46 T46 L46 hq46 X46
  obtain ⟨rfl, N46q, K46, f46_0, f46_1, f46_2, f46_3⟩ := hq46
  have O46 := extK O44 K46 (allS G_b44 all0)
  have N46 := Fr.app N43 N46q
  show Go _ _ _ _ (State.setTop _ (mkF _ 139 _ [(.ref b44)]))
  refine gAstore X46 H at_139 rfl (Ls' := #[vI p0, vI p1, vI p2, vI p3, vI p4, vI p5, vI 1, vR b39, vR b44, .unset, .unset, .unset]) rfl 141 rfl ?_
  refine gIload X46 H at_141 rfl 143 rfl ?_
  refine gIconst X46 H at_143 (z := 1) rfl 144 rfl ?_
  refine gCmpN X46 H at_144 (by decide) 147 rfl ?_
  refine gAload X46 H at_147 rfl rfl 149 rfl ?_
  refine gAload X46 H at_149 rfl rfl 151 rfl ?_
  refine gIconst X46 H at_151 (z := 0) rfl 152 rfl ?_
  have c48 := ((V43.ext E44).keep K46 (ninS ne_b39_b44 nin0))
  refine gIaload X46 H hZ rfl c48 ⟨by decide, by decide⟩ (v := (.int (p1 &&& (2147483647 : Int32)))) rfl at_152 153 rfl ?_
  refine gVirt X46 H hZ hown (hw _ wd27) (hw _ wd28) (hw _ wd30) (hw _ wd29) (by decide) f46_0 (hw _ wd31) (hw _ wd4) (rm107_5 B b44 ((p1 &&& (2147483647 : Int32))) _ O46 f46_2 f46_1 f46_0 G_b44 f46_3) rfl hml rfl pd1 rfl (W := 0) (argsL := [(.int (p1 &&& (2147483647 : Int32)))]) (rest := []) rfl rfl at_153 156 rfl ?_
  intro v108 T108 L108 hq108 X108
  obtain ⟨b108_0, k108_0, rfl, N108q, K108, s108_0, f108_0, f108_1, f108_2, f108_3, f108_4⟩ := hq108
  have M109 := (Nat.le_trans (Nat.le_trans M45 E44.1) K46.1)
  have G_b108_0 := Nat.le_trans O46.1 s108_0
  have sz_b108_0 := Nat.le_trans M109 s108_0
  have ne_b39_b108_0 : b39 ≠ b108_0 := neB c48.lt s108_0
  have ne_b44_b108_0 : b44 ≠ b108_0 := neB f46_0.lt s108_0
  have O108 := extK O46 K108 (allS G_b44 all0)
  have N108 := Fr.app N46 N108q
  show Go _ _ _ _ (State.setTop _ (mkF _ 156 _ []))
  refine gIload X108 H at_156 rfl 158 rfl ?_
  refine gIconst X108 H at_158 (z := 2) rfl 159 rfl ?_
  refine gCmpY X108 H at_159 (by decide) (by decide) 171 rfl ?_
  refine gIload X108 H at_171 rfl 173 rfl ?_
  refine gIconst X108 H at_173 (z := 3) rfl 174 rfl ?_
  refine gCmpY X108 H at_174 (by decide) (by decide) 186 rfl ?_
  refine gIload X108 H at_186 rfl 188 rfl ?_
  refine gIconst X108 H at_188 (z := 4) rfl 189 rfl ?_
  refine gCmpY X108 H at_189 (by decide) (by decide) 201 rfl ?_
  refine gIload X108 H at_201 rfl 203 rfl ?_
  refine gLdc X108 H hZ hown (hw _ wd1) at_203 205 rfl ?_
  refine g_iand X108 H at_205 (z := (p5 &&& (2147483647 : Int32))) rfl 206 rfl ?_
  refine gIload X108 H at_206 rfl 208 rfl ?_
  refine gIconst X108 H at_208 (z := 1) rfl 209 rfl ?_
  refine g_iadd X108 H at_209 (z := 2) (by decide) 210 rfl ?_
  rcases mod_2 p5 with hn110 | hn110
  · refine g_irem X108 H at_210 (by decide) (z := 0) hn110 211 rfl ?_
    refine gIstore X108 H at_211 (Ls' := #[vI p0, vI p1, vI p2, vI p3, vI p4, vI p5, vI 1, vR b39, vR b44, vI 0, .unset, .unset]) rfl 213 rfl ?_
    refine gIload X108 H at_213 rfl 215 rfl ?_
    refine gIload X108 H at_215 rfl 217 rfl ?_
    refine gCmpY X108 H at_217 (by decide) (by decide) 229 rfl ?_
    refine gAload X108 H at_229 rfl rfl 231 rfl ?_
    refine gIload X108 H at_231 rfl 233 rfl ?_
    have c112 := (c48.keep K108 (ninS ne_b39_b44 nin0))
    refine gIaload X108 H hZ rfl c112 ⟨by decide, by decide⟩ (v := (.int (p1 &&& (2147483647 : Int32)))) rfl at_233 234 rfl ?_
    refine gIstore X108 H at_234 (Ls' := #[vI p0, vI p1, vI p2, vI p3, vI p4, vI p5, vI 1, vR b39, vR b44, vI 0, vI (p1 &&& (2147483647 : Int32)), .unset]) rfl 236 rfl ?_
    refine gIload X108 H at_236 rfl 238 rfl ?_
    refine gIconst X108 H at_238 (z := 1) rfl 239 rfl ?_
    refine g_iadd X108 H at_239 (z := 1) (by decide) 240 rfl ?_
    refine gIstore X108 H at_240 (Ls' := #[vI p0, vI p1, vI p2, vI p3, vI p4, vI p5, vI 1, vR b39, vR b44, vI 0, vI (p1 &&& (2147483647 : Int32)), vI 1]) rfl 242 rfl ?_
    refine gAload X108 H at_242 rfl rfl 244 rfl ?_
    refine gIload X108 H at_244 rfl 246 rfl ?_
    refine gVirt X108 H hZ hown (hw _ wd15) (hw _ wd16) (hw _ wd18) (hw _ wd17) (by decide) f108_2 (hw _ wd19) (hw _ wd4) (rm128_3 B b44 ((p1 &&& (2147483647 : Int32))) b108_0 k108_0 _ O108 f108_0 f108_1 f108_4 f108_2 G_b44 f108_3 (mask_ne p1)) rfl hml rfl pd1 rfl (W := 0) (argsL := [(.int (p1 &&& (2147483647 : Int32)))]) (rest := []) rfl rfl at_246 249 rfl ?_
    intro v129 T129 L129 hq129 X129
    obtain ⟨rfl, N129q, K129, f129_0, f129_1, f129_2, f129_3⟩ := hq129
    have O129 := extK O108 K129 (allS G_b44 all0)
    have N129 := Fr.app N108 N129q
    show Go _ _ _ _ (State.setTop _ (mkF _ 249 _ []))
    refine gAload X129 H at_249 rfl rfl 251 rfl ?_
    refine gVirt X129 H hZ hown (hw _ wd22) (hw _ wd23) (hw _ wd25) (hw _ wd24) (by decide) f129_2 (hw _ wd26) (hw _ wd4) (rm132_4 B b44 _ O129 f129_0) rfl hml rfl pd2 rfl (W := 0) (argsL := []) (rest := []) rfl rfl at_251 254 rfl ?_
    intro v133 T133 L133 hq133 X133
    obtain ⟨rfl, e133, rfl⟩ := hq133
    have N133 := Fr.app N129 (Fr.nil _)
    show Go _ _ _ _ (State.setTop _ (mkF _ 254 _ [(.int 1)]))
    refine gIload X133 H at_254 rfl 256 rfl ?_
    refine gCmpY X133 H at_256 (by decide) (by decide) 261 rfl ?_
    refine gIload X133 H at_261 rfl 263 rfl ?_
    refine gIconst X133 H at_263 (z := 1) rfl 264 rfl ?_
    refine gCmpN X133 H at_264 (by decide) 267 rfl ?_
    refine gAload X133 H at_267 rfl rfl 269 rfl ?_
    refine gIconst X133 H at_269 (z := 0) rfl 270 rfl ?_
    have c139 := (f108_4.keep K129 (ninS (Ne.symm ne_b44_b108_0) nin0))
    refine gVirt X133 H hZ hown (hw _ wd57) (hw _ wd58) (hw _ wd60) (hw _ wd59) (by decide) f129_2 (hw _ wd61) (hw _ wd4) (rm138_11 B b44 b108_0 k108_0 ((p1 &&& (2147483647 : Int32))) _ O129 f129_1 c139) e133 hml rfl pd5 rfl (W := 0) (argsL := [(.int 0)]) (rest := []) rfl rfl at_270 273 rfl ?_
    intro v140 T140 L140 hq140 X140
    obtain ⟨rfl, e140, rfl⟩ := hq140
    have N140 := Fr.app N133 (Fr.nil _)
    show Go _ _ _ _ (State.setTop _ (mkF _ 273 _ [(.int (p1 &&& (2147483647 : Int32)))]))
    refine gAload X140 H at_273 rfl rfl 275 rfl ?_
    refine gIconst X140 H at_275 (z := 0) rfl 276 rfl ?_
    have c142 := (c112.keep K129 (ninS ne_b39_b44 nin0))
    refine gIaload X140 H hZ e140 c142 ⟨by decide, by decide⟩ (v := (.int (p1 &&& (2147483647 : Int32)))) rfl at_276 277 rfl ?_
    refine gCmpY X140 H at_277 (teq rfl).1 (by decide) 282 rfl ?_
    refine gIload X140 H at_282 rfl 284 rfl ?_
    refine gIconst X140 H at_284 (z := 2) rfl 285 rfl ?_
    refine gCmpY X140 H at_285 (by decide) (by decide) 303 rfl ?_
    refine gIload X140 H at_303 rfl 305 rfl ?_
    refine gIconst X140 H at_305 (z := 3) rfl 306 rfl ?_
    refine gCmpY X140 H at_306 (by decide) (by decide) 324 rfl ?_
    refine gIload X140 H at_324 rfl 326 rfl ?_
    refine gIconst X140 H at_326 (z := 4) rfl 327 rfl ?_
    refine gCmpY X140 H at_327 (by decide) (by decide) 345 rfl ?_
    refine gIconst X140 H at_345 (z := 1) rfl 346 rfl ?_
    exact gRetN X140 H hlk hret (t := .boolean) (by simp) at_346 e140 ⟨rfl, N140⟩
  · refine g_irem X108 H at_210 (by decide) (z := 1) hn110 211 rfl ?_
    refine gIstore X108 H at_211 (Ls' := #[vI p0, vI p1, vI p2, vI p3, vI p4, vI p5, vI 1, vR b39, vR b44, vI 1, .unset, .unset]) rfl 213 rfl ?_
    refine gIload X108 H at_213 rfl 215 rfl ?_
    refine gIload X108 H at_215 rfl 217 rfl ?_
    refine gCmpN X108 H at_217 (by decide) 220 rfl ?_
    refine gIconst X108 H at_220 (z := (-1)) rfl 221 rfl ?_
    refine gIstore X108 H at_221 (Ls' := #[vI p0, vI p1, vI p2, vI p3, vI p4, vI p5, vI 1, vR b39, vR b44, vI 1, vI (-1), .unset]) rfl 223 rfl ?_
    refine gIconst X108 H at_223 (z := 0) rfl 224 rfl ?_
    refine gIstore X108 H at_224 (Ls' := #[vI p0, vI p1, vI p2, vI p3, vI p4, vI p5, vI 1, vR b39, vR b44, vI 1, vI (-1), vI 0]) rfl 226 rfl ?_
    refine gGoto X108 H at_226 (by decide) 242 rfl ?_
    refine gAload X108 H at_242 rfl rfl 244 rfl ?_
    refine gIload X108 H at_244 rfl 246 rfl ?_
    refine gVirt X108 H hZ hown (hw _ wd15) (hw _ wd16) (hw _ wd18) (hw _ wd17) (by decide) f108_2 (hw _ wd19) (hw _ wd4) (rm153_3 B b44 b108_0 _ O108 f108_2 f108_0 G_b44 f108_1 f108_3) rfl hml rfl pd1 rfl (W := 0) (argsL := [(.int (-1))]) (rest := []) rfl rfl at_246 249 rfl ?_
    intro v154 T154 L154 hq154 X154
    obtain ⟨rfl, N154q, K154, f154_0, f154_1, f154_2, f154_3⟩ := hq154
    have O154 := extK O108 K154 (allS G_b44 all0)
    have N154 := Fr.app N108 N154q
    show Go _ _ _ _ (State.setTop _ (mkF _ 249 _ []))
    refine gAload X154 H at_249 rfl rfl 251 rfl ?_
    refine gVirt X154 H hZ hown (hw _ wd22) (hw _ wd23) (hw _ wd25) (hw _ wd24) (by decide) f154_0 (hw _ wd26) (hw _ wd4) (rm37_4 B b44 _ O154 f154_1) rfl hml rfl pd2 rfl (W := 0) (argsL := []) (rest := []) rfl rfl at_251 254 rfl ?_
    intro v155 T155 L155 hq155 X155
    obtain ⟨rfl, e155, rfl⟩ := hq155
    have N155 := Fr.app N154 (Fr.nil _)
    show Go _ _ _ _ (State.setTop _ (mkF _ 254 _ [(.int 0)]))
    refine gIload X155 H at_254 rfl 256 rfl ?_
    refine gCmpY X155 H at_256 (by decide) (by decide) 261 rfl ?_
    refine gIload X155 H at_261 rfl 263 rfl ?_
    refine gIconst X155 H at_263 (z := 1) rfl 264 rfl ?_
    refine gCmpN X155 H at_264 (by decide) 267 rfl ?_
    refine gAload X155 H at_267 rfl rfl 269 rfl ?_
    refine gIconst X155 H at_269 (z := 0) rfl 270 rfl ?_
    have c156 := (f108_4.keep K154 (ninS (Ne.symm ne_b44_b108_0) nin0))
    refine gVirt X155 H hZ hown (hw _ wd57) (hw _ wd58) (hw _ wd60) (hw _ wd59) (by decide) f154_0 (hw _ wd61) (hw _ wd4) (rm138_11 B b44 b108_0 k108_0 ((p1 &&& (2147483647 : Int32))) _ O154 f154_2 c156) e155 hml rfl pd5 rfl (W := 0) (argsL := [(.int 0)]) (rest := []) rfl rfl at_270 273 rfl ?_
    intro v157 T157 L157 hq157 X157
    obtain ⟨rfl, e157, rfl⟩ := hq157
    have N157 := Fr.app N155 (Fr.nil _)
    show Go _ _ _ _ (State.setTop _ (mkF _ 273 _ [(.int (p1 &&& (2147483647 : Int32)))]))
    refine gAload X157 H at_273 rfl rfl 275 rfl ?_
    refine gIconst X157 H at_275 (z := 0) rfl 276 rfl ?_
    have c159 := ((c48.keep K108 (ninS ne_b39_b44 nin0)).keep K154 (ninS ne_b39_b44 nin0))
    refine gIaload X157 H hZ e157 c159 ⟨by decide, by decide⟩ (v := (.int (p1 &&& (2147483647 : Int32)))) rfl at_276 277 rfl ?_
    refine gCmpY X157 H at_277 (teq rfl).1 (by decide) 282 rfl ?_
    refine gIload X157 H at_282 rfl 284 rfl ?_
    refine gIconst X157 H at_284 (z := 2) rfl 285 rfl ?_
    refine gCmpY X157 H at_285 (by decide) (by decide) 303 rfl ?_
    refine gIload X157 H at_303 rfl 305 rfl ?_
    refine gIconst X157 H at_305 (z := 3) rfl 306 rfl ?_
    refine gCmpY X157 H at_306 (by decide) (by decide) 324 rfl ?_
    refine gIload X157 H at_324 rfl 326 rfl ?_
    refine gIconst X157 H at_326 (z := 4) rfl 327 rfl ?_
    refine gCmpY X157 H at_327 (by decide) (by decide) 345 rfl ?_
    refine gIconst X157 H at_345 (z := 1) rfl 346 rfl ?_
    exact gRetN X157 H hlk hret (t := .boolean) (by simp) at_346 e157 ⟨rfl, N157⟩
theorem rm187_10 (B : Bg Z a0 w_Trail_NO_ROOM k_w_Trail_NO_ROOM) (ro0 : Addr) (h : Heap) (O : Ext Z.heap h) (q185 : Fld Z h ro0 cs0 "unchanged" "B" (.int 0)) :
    Con l Z yM10 prog_22_method_15_code 2 none ({ frames := 0, cells := 0, slots := 0, locals := 0 } : Room) #[(.ref ro0), (.int 1)] h (fun v h' L => v = none ∧ h' = h ∧ L = []) := by
  have hw := B.1
  refine Con.of (plainFor_of_name pn10) (Ls := #[vR ro0, vI 1]) (fun _ => rfl) ?_
  intro p e s m below meth c T0 X0 H hml hZ hown hnm hret hlk e0
  refine gIloadN X0 H d10_0 rfl 1 rfl ?_
  refine gAloadN X0 H d10_1 rfl rfl 2 rfl ?_
  refine gGetF X0 H hZ hown (hw _ wd55) Via.refl e0 q185 d10_2 5 rfl ?_
  intro T186 X186 e186
  refine gCmpY X186 H d10_5 (by decide) (by decide) 14 rfl ?_
  exact gRetV X186 H hlk hret d10_14 e186 ⟨rfl, rfl, rfl⟩
theorem rm207_5 (B : Bg Z a0 w_Trail_NO_ROOM k_w_Trail_NO_ROOM) (ro0 : Addr) (vi1 : Int32) (ro2 : Addr) (ck3 : ClassId) (vi4 : Int32) (h : Heap) (O : Ext Z.heap h) (q177 : Fld Z h ro0 cs0 "depth" "I" (.int 1)) (q179 : Fld Z h ro0 cs0 "entries" "[I" (.ref ro2)) (q182 : Arl Z h ro2 (16 : Int32)) (q184 : Exa Z h ro0 cs0) (q188 : Fld Z h ro0 cs0 "unchanged" "B" (.int 0)) (q193 : Arv Z h ro2 ck3 .int (16 : Int32) [(.int vi4), (.int 0), (.int 0), (.int 0), (.int 0), (.int 0), (.int 0), (.int 0), (.int 0), (.int 0), (.int 0), (.int 0), (.int 0), (.int 0), (.int 0), (.int 0)] (.int 0)) (q194 : Z.heap.size ≤ ro2) (q195 : ro0 ≠ ro2) (q200 : Z.heap.size ≤ ro0) :
    Con l Z yM5 prog_22_method_6_code 2 none ({ frames := 1, cells := 0, slots := 0, locals := 13 } : Room) #[(.ref ro0), (.int vi1)] h (fun v h' L => v = none ∧ Fr Z.heap.size L ∧ Keep h h' [ro2, ro0] ∧ Fld Z h' ro0 cs0 "depth" "I" (.int 2) ∧ Fld Z h' ro0 cs0 "entries" "[I" (.ref ro2) ∧ Exa Z h' ro0 cs0 ∧ Fld Z h' ro0 cs0 "unchanged" "B" (.int 0) ∧ Arv Z h' ro2 ck3 .int (16 : Int32) [(.int vi4), (.int vi1), (.int 0), (.int 0), (.int 0), (.int 0), (.int 0), (.int 0), (.int 0), (.int 0), (.int 0), (.int 0), (.int 0), (.int 0), (.int 0), (.int 0)] (.int 0)) := by
  have hw := B.1
  refine Con.of (plainFor_of_name pn5) (Ls := #[vR ro0, vI vi1]) (fun _ => rfl) ?_
  intro p e s m below meth c T0 X0 H hml hZ hown hnm hret hlk e0
  have N0 := Fr.nil Z.heap.size
  refine gAloadN X0 H d5_0 rfl rfl 1 rfl ?_
  refine gGetF X0 H hZ hown (hw _ wd20) Via.refl e0 q177 d5_1 4 rfl ?_
  intro T178 X178 e178
  refine gAloadN X178 H d5_4 rfl rfl 5 rfl ?_
  refine gGetF X178 H hZ hown (hw _ wd13) Via.refl e178 q179 d5_5 8 rfl ?_
  intro T180 X180 e180
  refine gLen X180 H hZ e180 q182 d5_8 9 rfl ?_
  refine gCmpY X180 H d5_9 (by decide) (by decide) 16 rfl ?_
  refine gAloadN X180 H d5_16 rfl rfl 17 rfl ?_
  refine gAloadN X180 H d5_17 rfl rfl 18 rfl ?_
  refine gGetF X180 H hZ hown (hw _ wd20) Via.refl e180 q177 d5_18 21 rfl ?_
  intro T183 X183 e183
  refine gPrivate X183 H hZ hown (hw _ wd51) (hw _ wd52) (hw _ wd53) (hw _ wd3) (by decide) q184 (hw _ wd54) (hw _ wd4) (rm187_10 B ro0 _ O q188) e183 hml rfl pd1 rfl (W := 0) (argsL := [(.int 1)]) (rest := []) rfl rfl d5_21 24 rfl ?_
  intro v189 T189 L189 hq189 X189
  obtain ⟨rfl, e189, rfl⟩ := hq189
  have N189 := Fr.app N0 (Fr.nil _)
  show Go _ _ _ _ (State.setTop _ (mkF _ 24 _ []))
  refine gAloadN X189 H d5_24 rfl rfl 25 rfl ?_
  refine gGetF X189 H hZ hown (hw _ wd13) Via.refl e189 q179 d5_25 28 rfl ?_
  intro T190 X190 e190
  refine gAloadN X190 H d5_28 rfl rfl 29 rfl ?_
  refine gGetF X190 H hZ hown (hw _ wd20) Via.refl e190 q177 d5_29 32 rfl ?_
  intro T191 X191 e191
  refine gIloadN X191 H d5_32 rfl 33 rfl ?_
  refine gIastore X191 H hZ e191 q193 ⟨by decide, by decide⟩ (i := 1) rfl (Nat.le_of_ble_eq_true rfl) (vs' := [(.int vi4), (.int vi1), (.int 0), (.int 0), (.int 0), (.int 0), (.int 0), (.int 0), (.int 0), (.int 0), (.int 0), (.int 0), (.int 0), (.int 0), (.int 0), (.int 0)]) rfl d5_33 34 rfl ?_
  intro T192 h192 X192 e192 W192 V192
  have O192 := extW O W192 q194
  have N192 := Fr.snoc X192 N189 q194
  refine gAloadN X192 H d5_34 rfl rfl 35 rfl ?_
  refine gDup X192 H d5_35 rfl 36 rfl ?_
  have c196 := (q177.other W192 (Or.inl q195))
  refine gGetF X192 H hZ hown (hw _ wd20) Via.refl e192 c196 d5_36 39 rfl ?_
  intro T197 X197 e197
  refine gIconst X197 H d5_39 (z := 1) rfl 40 rfl ?_
  refine g_iadd X197 H d5_40 (z := 2) (by decide) 41 rfl ?_
  have c199 := (q184.wr W192)
  refine gPutF X197 H hZ hown (hw _ wd20) Via.refl e197 c196 c199 (Or.inl (hw _ wd21)) (hw _ wd3) (ty := .int) (by decide) (v' := (.int 2)) rfl rfl d5_41 44 rfl ?_
  intro T198 h198 X198 e198 W198 F198
  have O198 := extW O192 W198 q200
  have N198 := Fr.snoc X198 N192 q200
  have c201 := (V192.other W198 (Ne.symm q195))
  have c202 := ((q179.other W192 (Or.inl q195)).other W198 (Or.inr (sn2 hw)))
  have c203 := (c199.wr W198)
  have c204 := ((q188.other W192 (Or.inl q195)).other W198 (Or.inr (sn3 hw)))
  have K_205 := (Keep.refl h [ro2, ro0]).wr W192 (Or.inl (List.mem_of_getElem? (i := 0) rfl))
  have K_206 := K_205.wr W198 (Or.inl (List.mem_of_getElem? (i := 1) rfl))
  exact gRetV X198 H hlk hret d5_44 e198 ⟨rfl, N198, K_206, F198, c202, c203, c204, c201⟩
theorem rm230_3 (B : Bg Z a0 w_Trail_NO_ROOM k_w_Trail_NO_ROOM) (ro0 : Addr) (vi1 : Int32) (ro2 : Addr) (ck3 : ClassId) (vi4 : Int32) (h : Heap) (O : Ext Z.heap h) (q213 : Fld Z h ro0 cs0 "depth" "I" (.int 2)) (q215 : Fld Z h ro0 cs0 "entries" "[I" (.ref ro2)) (q218 : Arv Z h ro2 ck3 .int (16 : Int32) [(.int vi1), (.int vi4), (.int 0), (.int 0), (.int 0), (.int 0), (.int 0), (.int 0), (.int 0), (.int 0), (.int 0), (.int 0), (.int 0), (.int 0), (.int 0), (.int 0)] (.int 0)) (q223 : Exa Z h ro0 cs0) (q224 : Z.heap.size ≤ ro0) (q227 : Fld Z h ro0 cs0 "unchanged" "B" (.int 0)) (hk212 : ¬ (vi1 = (-1 : Int32))) (hk219 : ¬ (vi4 = vi1)) :
    Con l Z yM3 prog_22_method_9_code 3 none ({ frames := 0, cells := 0, slots := 0, locals := 0 } : Room) #[(.ref ro0), (.int vi1)] h (fun v h' L => v = none ∧ Fr Z.heap.size L ∧ Keep h h' [ro0] ∧ Fld Z h' ro0 cs0 "depth" "I" (.int 1) ∧ Fld Z h' ro0 cs0 "entries" "[I" (.ref ro2) ∧ Exa Z h' ro0 cs0 ∧ Fld Z h' ro0 cs0 "unchanged" "B" (.int 0)) := by
  have hw := B.1
  refine Con.of (plainFor_of_name pn3) (Ls := #[vR ro0, vI vi1, .unset]) (fun _ => rfl) ?_
  intro p e s m below meth c T0 X0 H hml hZ hown hnm hret hlk e0
  have N0 := Fr.nil Z.heap.size
  refine gIloadN X0 H d3_0 rfl 1 rfl ?_
  refine gIconst X0 H d3_1 (z := (-1)) rfl 2 rfl ?_
  refine gCmpY X0 H d3_2 (feq hk212).2 (by decide) 11 rfl ?_
  refine gAloadN X0 H d3_11 rfl rfl 12 rfl ?_
  refine gGetF X0 H hZ hown (hw _ wd20) Via.refl e0 q213 d3_12 15 rfl ?_
  intro T214 X214 e214
  refine gIstoreN X214 H d3_15 (Ls' := #[vR ro0, vI vi1, vI 2]) rfl 16 rfl ?_
  refine gAloadN X214 H d3_16 rfl rfl 17 rfl ?_
  refine gGetF X214 H hZ hown (hw _ wd13) Via.refl e214 q215 d3_17 20 rfl ?_
  intro T216 X216 e216
  refine gIloadN X216 H d3_20 rfl 21 rfl ?_
  refine gIconst X216 H d3_21 (z := 1) rfl 22 rfl ?_
  refine g_isub X216 H d3_22 (z := 1) (by decide) 23 rfl ?_
  refine gIaload X216 H hZ e216 q218 ⟨by decide, by decide⟩ (v := (.int vi4)) rfl d3_23 24 rfl ?_
  refine gIloadN X216 H d3_24 rfl 25 rfl ?_
  refine gCmpN X216 H d3_25 (feq hk219).1 28 rfl ?_
  refine gIinc X216 H d3_28 rfl (Ls' := #[vR ro0, vI vi1, vI 1]) rfl 31 rfl ?_
  refine gGoto X216 H d3_31 (by decide) 16 rfl ?_
  refine gAloadN X216 H d3_16 rfl rfl 17 rfl ?_
  refine gGetF X216 H hZ hown (hw _ wd13) Via.refl e216 q215 d3_17 20 rfl ?_
  intro T220 X220 e220
  refine gIloadN X220 H d3_20 rfl 21 rfl ?_
  refine gIconst X220 H d3_21 (z := 1) rfl 22 rfl ?_
  refine g_isub X220 H d3_22 (z := 0) (by decide) 23 rfl ?_
  refine gIaload X220 H hZ e220 q218 ⟨by decide, by decide⟩ (v := (.int vi1)) rfl d3_23 24 rfl ?_
  refine gIloadN X220 H d3_24 rfl 25 rfl ?_
  refine gCmpY X220 H d3_25 (teq rfl).1 (by decide) 34 rfl ?_
  refine gAloadN X220 H d3_34 rfl rfl 35 rfl ?_
  refine gIloadN X220 H d3_35 rfl 36 rfl ?_
  refine gPutF X220 H hZ hown (hw _ wd20) Via.refl e220 q213 q223 (Or.inl (hw _ wd21)) (hw _ wd3) (ty := .int) (by decide) (v' := (.int 1)) rfl rfl d3_36 39 rfl ?_
  intro T222 h222 X222 e222 W222 F222
  have O222 := extW O W222 q224
  have N222 := Fr.snoc X222 N0 q224
  have c225 := (q215.other W222 (Or.inr (sn2 hw)))
  have c226 := (q223.wr W222)
  have c228 := (q227.other W222 (Or.inr (sn3 hw)))
  have K_229 := (Keep.refl h [ro0]).wr W222 (Or.inl (List.mem_of_getElem? (i := 0) rfl))
  exact gRetV X222 H hlk hret d3_39 e222 ⟨rfl, N222, K_229, F222, c225, c226, c228⟩
theorem rm237_11 (B : Bg Z a0 w_Trail_NO_ROOM k_w_Trail_NO_ROOM) (ro0 ro1 : Addr) (ck2 : ClassId) (vi3 vi4 : Int32) (h : Heap) (O : Ext Z.heap h) (q233 : Fld Z h ro0 cs0 "entries" "[I" (.ref ro1)) (q236 : Arv Z h ro1 ck2 .int (16 : Int32) [(.int vi3), (.int vi4), (.int 0), (.int 0), (.int 0), (.int 0), (.int 0), (.int 0), (.int 0), (.int 0), (.int 0), (.int 0), (.int 0), (.int 0), (.int 0), (.int 0)] (.int 0)) :
    Con l Z yM11 prog_22_method_3_code 2 (some .int) ({ frames := 0, cells := 0, slots := 0, locals := 0 } : Room) #[(.ref ro0), (.int 0)] h (fun v h' L => v = some (.int vi3) ∧ h' = h ∧ L = []) := by
  have hw := B.1
  refine Con.of (plainFor_of_name pn11) (Ls := #[vR ro0, vI 0]) (fun _ => rfl) ?_
  intro p e s m below meth c T0 X0 H hml hZ hown hnm hret hlk e0
  refine gAloadN X0 H d11_0 rfl rfl 1 rfl ?_
  refine gGetF X0 H hZ hown (hw _ wd13) Via.refl e0 q233 d11_1 4 rfl ?_
  intro T234 X234 e234
  refine gIloadN X234 H d11_4 rfl 5 rfl ?_
  refine gIaload X234 H hZ e234 q236 ⟨by decide, by decide⟩ (v := (.int vi3)) rfl d11_5 6 rfl ?_
  exact gRetI X234 H hlk hret d11_6 e234 ⟨rfl, rfl, rfl⟩
theorem rm246_11 (B : Bg Z a0 w_Trail_NO_ROOM k_w_Trail_NO_ROOM) (ro0 ro1 : Addr) (ck2 : ClassId) (vi3 vi4 : Int32) (h : Heap) (O : Ext Z.heap h) (q242 : Fld Z h ro0 cs0 "entries" "[I" (.ref ro1)) (q245 : Arv Z h ro1 ck2 .int (16 : Int32) [(.int vi3), (.int vi4), (.int 0), (.int 0), (.int 0), (.int 0), (.int 0), (.int 0), (.int 0), (.int 0), (.int 0), (.int 0), (.int 0), (.int 0), (.int 0), (.int 0)] (.int 0)) :
    Con l Z yM11 prog_22_method_3_code 2 (some .int) ({ frames := 0, cells := 0, slots := 0, locals := 0 } : Room) #[(.ref ro0), (.int 1)] h (fun v h' L => v = some (.int vi4) ∧ h' = h ∧ L = []) := by
  have hw := B.1
  refine Con.of (plainFor_of_name pn11) (Ls := #[vR ro0, vI 1]) (fun _ => rfl) ?_
  intro p e s m below meth c T0 X0 H hml hZ hown hnm hret hlk e0
  refine gAloadN X0 H d11_0 rfl rfl 1 rfl ?_
  refine gGetF X0 H hZ hown (hw _ wd13) Via.refl e0 q242 d11_1 4 rfl ?_
  intro T243 X243 e243
  refine gIloadN X243 H d11_4 rfl 5 rfl ?_
  refine gIaload X243 H hZ e243 q245 ⟨by decide, by decide⟩ (v := (.int vi4)) rfl d11_5 6 rfl ?_
  exact gRetI X243 H hlk hret d11_6 e243 ⟨rfl, rfl, rfl⟩
theorem rm266_3 (B : Bg Z a0 w_Trail_NO_ROOM k_w_Trail_NO_ROOM) (ro0 : Addr) (vi1 : Int32) (ro2 : Addr) (ck3 : ClassId) (vi4 : Int32) (h : Heap) (O : Ext Z.heap h) (q252 : Fld Z h ro0 cs0 "depth" "I" (.int 2)) (q254 : Fld Z h ro0 cs0 "entries" "[I" (.ref ro2)) (q257 : Arv Z h ro2 ck3 .int (16 : Int32) [(.int vi4), (.int vi1), (.int 0), (.int 0), (.int 0), (.int 0), (.int 0), (.int 0), (.int 0), (.int 0), (.int 0), (.int 0), (.int 0), (.int 0), (.int 0), (.int 0)] (.int 0)) (q259 : Exa Z h ro0 cs0) (q260 : Z.heap.size ≤ ro0) (q263 : Fld Z h ro0 cs0 "unchanged" "B" (.int 0)) (hk251 : ¬ (vi1 = (-1 : Int32))) :
    Con l Z yM3 prog_22_method_9_code 3 none ({ frames := 0, cells := 0, slots := 0, locals := 0 } : Room) #[(.ref ro0), (.int vi1)] h (fun v h' L => v = none ∧ Fr Z.heap.size L ∧ Keep h h' [ro0] ∧ Fld Z h' ro0 cs0 "depth" "I" (.int 2) ∧ Fld Z h' ro0 cs0 "entries" "[I" (.ref ro2) ∧ Exa Z h' ro0 cs0 ∧ Fld Z h' ro0 cs0 "unchanged" "B" (.int 0)) := by
  have hw := B.1
  refine Con.of (plainFor_of_name pn3) (Ls := #[vR ro0, vI vi1, .unset]) (fun _ => rfl) ?_
  intro p e s m below meth c T0 X0 H hml hZ hown hnm hret hlk e0
  have N0 := Fr.nil Z.heap.size
  refine gIloadN X0 H d3_0 rfl 1 rfl ?_
  refine gIconst X0 H d3_1 (z := (-1)) rfl 2 rfl ?_
  refine gCmpY X0 H d3_2 (feq hk251).2 (by decide) 11 rfl ?_
  refine gAloadN X0 H d3_11 rfl rfl 12 rfl ?_
  refine gGetF X0 H hZ hown (hw _ wd20) Via.refl e0 q252 d3_12 15 rfl ?_
  intro T253 X253 e253
  refine gIstoreN X253 H d3_15 (Ls' := #[vR ro0, vI vi1, vI 2]) rfl 16 rfl ?_
  refine gAloadN X253 H d3_16 rfl rfl 17 rfl ?_
  refine gGetF X253 H hZ hown (hw _ wd13) Via.refl e253 q254 d3_17 20 rfl ?_
  intro T255 X255 e255
  refine gIloadN X255 H d3_20 rfl 21 rfl ?_
  refine gIconst X255 H d3_21 (z := 1) rfl 22 rfl ?_
  refine g_isub X255 H d3_22 (z := 1) (by decide) 23 rfl ?_
  refine gIaload X255 H hZ e255 q257 ⟨by decide, by decide⟩ (v := (.int vi1)) rfl d3_23 24 rfl ?_
  refine gIloadN X255 H d3_24 rfl 25 rfl ?_
  refine gCmpY X255 H d3_25 (teq rfl).1 (by decide) 34 rfl ?_
  refine gAloadN X255 H d3_34 rfl rfl 35 rfl ?_
  refine gIloadN X255 H d3_35 rfl 36 rfl ?_
  refine gPutF X255 H hZ hown (hw _ wd20) Via.refl e255 q252 q259 (Or.inl (hw _ wd21)) (hw _ wd3) (ty := .int) (by decide) (v' := (.int 2)) rfl rfl d3_36 39 rfl ?_
  intro T258 h258 X258 e258 W258 F258
  have O258 := extW O W258 q260
  have N258 := Fr.snoc X258 N0 q260
  have c261 := (q254.other W258 (Or.inr (sn2 hw)))
  have c262 := (q259.wr W258)
  have c264 := (q263.other W258 (Or.inr (sn3 hw)))
  have K_265 := (Keep.refl h [ro0]).wr W258 (Or.inl (List.mem_of_getElem? (i := 0) rfl))
  exact gRetV X258 H hlk hret d3_39 e258 ⟨rfl, N258, K_265, F258, c261, c262, c264⟩
theorem rm270_4 (B : Bg Z a0 w_Trail_NO_ROOM k_w_Trail_NO_ROOM) (ro0 : Addr) (h : Heap) (O : Ext Z.heap h) (q268 : Fld Z h ro0 cs0 "depth" "I" (.int 2)) :
    Con l Z yM4 prog_22_method_2_code 1 (some .int) ({ frames := 0, cells := 0, slots := 0, locals := 0 } : Room) #[(.ref ro0)] h (fun v h' L => v = some (.int 2) ∧ h' = h ∧ L = []) := by
  have hw := B.1
  refine Con.of (plainFor_of_name pn4) (Ls := #[vR ro0]) (fun _ => rfl) ?_
  intro p e s m below meth c T0 X0 H hml hZ hown hnm hret hlk e0
  refine gAloadN X0 H d4_0 rfl rfl 1 rfl ?_
  refine gGetF X0 H hZ hown (hw _ wd20) Via.refl e0 q268 d4_1 4 rfl ?_
  intro T269 X269 e269
  exact gRetI X269 H hlk hret d4_4 e269 ⟨rfl, rfl, rfl⟩
theorem rm288_3 (B : Bg Z a0 w_Trail_NO_ROOM k_w_Trail_NO_ROOM) (ro0 ro1 : Addr) (h : Heap) (O : Ext Z.heap h) (q279 : Exa Z h ro0 cs0) (q280 : Fld Z h ro0 cs0 "depth" "I" (.int 2)) (q281 : Z.heap.size ≤ ro0) (q283 : Fld Z h ro0 cs0 "entries" "[I" (.ref ro1)) (q285 : Fld Z h ro0 cs0 "unchanged" "B" (.int 0)) :
    Con l Z yM3 prog_22_method_9_code 3 none ({ frames := 0, cells := 0, slots := 0, locals := 0 } : Room) #[(.ref ro0), (.int (-1))] h (fun v h' L => v = none ∧ Fr Z.heap.size L ∧ Keep h h' [ro0] ∧ Exa Z h' ro0 cs0 ∧ Fld Z h' ro0 cs0 "depth" "I" (.int 0) ∧ Fld Z h' ro0 cs0 "entries" "[I" (.ref ro1) ∧ Fld Z h' ro0 cs0 "unchanged" "B" (.int 0)) := by
  have hw := B.1
  refine Con.of (plainFor_of_name pn3) (Ls := #[vR ro0, vI (-1), .unset]) (fun _ => rfl) ?_
  intro p e s m below meth c T0 X0 H hml hZ hown hnm hret hlk e0
  have N0 := Fr.nil Z.heap.size
  refine gIloadN X0 H d3_0 rfl 1 rfl ?_
  refine gIconst X0 H d3_1 (z := (-1)) rfl 2 rfl ?_
  refine gCmpN X0 H d3_2 (by decide) 5 rfl ?_
  refine gAloadN X0 H d3_5 rfl rfl 6 rfl ?_
  refine gIconst X0 H d3_6 (z := 0) rfl 7 rfl ?_
  refine gPutF X0 H hZ hown (hw _ wd20) Via.refl e0 q280 q279 (Or.inl (hw _ wd21)) (hw _ wd3) (ty := .int) (by decide) (v' := (.int 0)) rfl rfl d3_7 10 rfl ?_
  intro T278 h278 X278 e278 W278 F278
  have O278 := extW O W278 q281
  have N278 := Fr.snoc X278 N0 q281
  have c282 := (q279.wr W278)
  have c284 := (q283.other W278 (Or.inr (sn2 hw)))
  have c286 := (q285.other W278 (Or.inr (sn3 hw)))
  have K_287 := (Keep.refl h [ro0]).wr W278 (Or.inl (List.mem_of_getElem? (i := 0) rfl))
  exact gRetV X278 H hlk hret d3_10 e278 ⟨rfl, N278, K_287, c282, F278, c284, c286⟩
theorem lawAll_2 (B : Bg Z a0 w_Trail_NO_ROOM k_w_Trail_NO_ROOM) (p0 : Int32) (p1 : Int32) (p2 : Int32) (p3 : Int32) (p4 : Int32) (p5 : Int32) (ha0 : ((p0 &&& (7 : Int32)) % (5 : Int32)) = (2 : Int32)) :
    Con l Z x code maxLocals ret room_1 #[(.int p0), (.int p1), (.int p2), (.int p3), (.int p4), (.int p5)] Z.heap (fun v h' L => v = some (.int 1) ∧ Fr Z.heap.size L) := by
  have hw := B.1
  obtain ⟨S_w_Trail_NO_ROOM, V_w_Trail_NO_ROOM⟩ := B.2
  refine Con.of (plainFor_of_name pn0) (Ls := #[vI p0, vI p1, vI p2, vI p3, vI p4, vI p5, .unset, .unset, .unset, .unset, .unset, .unset]) (fun _ => rfl) ?_
  intro p e s m below meth c T0 X0 H hml hZ hown hnm hret hlk e0
  have O0 := extR Z.heap
  have M0 := Nat.le_refl Z.heap.size
  have N0 := Fr.nil Z.heap.size
  refine gIloadN X0 H at_0 rfl 1 rfl ?_
  refine gBipush X0 H at_1 (z := 7) rfl 3 rfl ?_
  refine g_iand X0 H at_3 (z := (p0 &&& (7 : Int32))) rfl 4 rfl ?_
  refine gIconst X0 H at_4 (z := 5) rfl 5 rfl ?_
  refine g_irem X0 H at_5 (by decide) (z := 2) ha0 6 rfl ?_
  refine gIstore X0 H at_6 (Ls' := #[vI p0, vI p1, vI p2, vI p3, vI p4, vI p5, vI 2, .unset, .unset, .unset, .unset, .unset]) rfl 8 rfl ?_
  refine gIconst X0 H at_8 (z := 4) rfl 9 rfl ?_
  refine gNewP X0 H hZ (aty := .int) (hw _ wd0) e0 (by decide) (cap := 4) (by decide) (by decide) (vs := [(.int 0), (.int 0), (.int 0), (.int 0)]) rfl (by decide) (by decide) at_9 11 rfl ?_
  intro T160 h160 b160 k160 X160 e160 z160 E160 V160
  have G_b160 := Nat.le_trans O0.1 (Nat.le_of_eq z160)
  have sz_b160 := Nat.le_trans M0 (Nat.le_of_eq z160)
  have O160 := extT O0 E160
  refine gDup X160 H at_11 rfl 12 rfl ?_
  refine gIconst X160 H at_12 (z := 0) rfl 13 rfl ?_
  refine gIloadN X160 H at_13 rfl 14 rfl ?_
  refine gLdc X160 H hZ hown (hw _ wd1) at_14 16 rfl ?_
  refine g_iand X160 H at_16 (z := (p1 &&& (2147483647 : Int32))) rfl 17 rfl ?_
  refine gIastore X160 H hZ e160 V160 ⟨by decide, by decide⟩ (i := 0) rfl (Nat.le_of_ble_eq_true rfl) (vs' := [(.int (p1 &&& (2147483647 : Int32))), (.int 0), (.int 0), (.int 0)]) rfl at_17 18 rfl ?_
  intro T161 h161 X161 e161 W161 V161
  have O161 := extW O160 W161 G_b160
  have N161 := Fr.snoc X161 N0 G_b160
  refine gDup X161 H at_18 rfl 19 rfl ?_
  refine gIconst X161 H at_19 (z := 1) rfl 20 rfl ?_
  refine gIloadN X161 H at_20 rfl 21 rfl ?_
  refine gLdc X161 H hZ hown (hw _ wd1) at_21 23 rfl ?_
  refine g_iand X161 H at_23 (z := (p2 &&& (2147483647 : Int32))) rfl 24 rfl ?_
  refine gIastore X161 H hZ e161 V161 ⟨by decide, by decide⟩ (i := 1) rfl (Nat.le_of_ble_eq_true rfl) (vs' := [(.int (p1 &&& (2147483647 : Int32))), (.int (p2 &&& (2147483647 : Int32))), (.int 0), (.int 0)]) rfl at_24 25 rfl ?_
  intro T162 h162 X162 e162 W162 V162
  have O162 := extW O161 W162 G_b160
  have N162 := Fr.snoc X162 N161 G_b160
  refine gDup X162 H at_25 rfl 26 rfl ?_
  refine gIconst X162 H at_26 (z := 2) rfl 27 rfl ?_
  refine gIloadN X162 H at_27 rfl 28 rfl ?_
  refine gLdc X162 H hZ hown (hw _ wd1) at_28 30 rfl ?_
  refine g_iand X162 H at_30 (z := (p3 &&& (2147483647 : Int32))) rfl 31 rfl ?_
  refine gIastore X162 H hZ e162 V162 ⟨by decide, by decide⟩ (i := 2) rfl (Nat.le_of_ble_eq_true rfl) (vs' := [(.int (p1 &&& (2147483647 : Int32))), (.int (p2 &&& (2147483647 : Int32))), (.int (p3 &&& (2147483647 : Int32))), (.int 0)]) rfl at_31 32 rfl ?_
  intro T163 h163 X163 e163 W163 V163
  have O163 := extW O162 W163 G_b160
  have N163 := Fr.snoc X163 N162 G_b160
  refine gDup X163 H at_32 rfl 33 rfl ?_
  refine gIconst X163 H at_33 (z := 3) rfl 34 rfl ?_
  refine gIload X163 H at_34 rfl 36 rfl ?_
  refine gLdc X163 H hZ hown (hw _ wd1) at_36 38 rfl ?_
  refine g_iand X163 H at_38 (z := (p4 &&& (2147483647 : Int32))) rfl 39 rfl ?_
  refine gIastore X163 H hZ e163 V163 ⟨by decide, by decide⟩ (i := 3) rfl (Nat.le_of_ble_eq_true rfl) (vs' := [(.int (p1 &&& (2147483647 : Int32))), (.int (p2 &&& (2147483647 : Int32))), (.int (p3 &&& (2147483647 : Int32))), (.int (p4 &&& (2147483647 : Int32)))]) rfl at_39 40 rfl ?_
  intro T164 h164 X164 e164 W164 V164
  have O164 := extW O163 W164 G_b160
  have N164 := Fr.snoc X164 N163 G_b160
  refine gAstore X164 H at_40 rfl (Ls' := #[vI p0, vI p1, vI p2, vI p3, vI p4, vI p5, vI 2, vR b160, .unset, .unset, .unset, .unset]) rfl 42 rfl ?_
  refine gIload X164 H at_42 rfl 44 rfl ?_
  refine gIconst X164 H at_44 (z := 2) rfl 45 rfl ?_
  refine gCmpN X164 H at_45 (by decide) 48 rfl ?_
  refine gAload X164 H at_48 rfl rfl 50 rfl ?_
  refine gIconst X164 H at_50 (z := 0) rfl 51 rfl ?_
  refine gIaload X164 H hZ e164 V164 ⟨by decide, by decide⟩ (v := (.int (p1 &&& (2147483647 : Int32)))) rfl at_51 52 rfl ?_
  refine gAload X164 H at_52 rfl rfl 54 rfl ?_
  refine gIconst X164 H at_54 (z := 1) rfl 55 rfl ?_
  refine gIaload X164 H hZ e164 V164 ⟨by decide, by decide⟩ (v := (.int (p2 &&& (2147483647 : Int32)))) rfl at_55 56 rfl ?_
  by_cases hc167 : (p1 &&& (2147483647 : Int32)) = (p2 &&& (2147483647 : Int32))
  · refine gCmpN X164 H at_56 (teq hc167).2 59 rfl ?_
    refine gIconst X164 H at_59 (z := 1) rfl 60 rfl ?_
    exact gRetN X164 H hlk hret (t := .boolean) (by simp) at_60 e164 ⟨rfl, N164⟩
  · refine gCmpY X164 H at_56 (feq hc167).2 (by decide) 61 rfl ?_
    refine gIload X164 H at_61 rfl 63 rfl ?_
    refine gIconst X164 H at_63 (z := 3) rfl 64 rfl ?_
    refine gCmpY X164 H at_64 (by decide) (by decide) 91 rfl ?_
    refine gIload X164 H at_91 rfl 93 rfl ?_
    refine gIconst X164 H at_93 (z := 4) rfl 94 rfl ?_
    refine gCmpY X164 H at_94 (by decide) (by decide) 132 rfl ?_
    refine gNew X164 H hZ hown (hw _ wd2) (hw _ wd3) (hw _ wd4) e164 (by decide) (by decide) at_132 135 rfl ?_
    intro T168 h168 b168 X168 e168 z168 E168 A168 D168
    have M169 := (leW (leW (leW (leW (Nat.le_trans M0 E160.1) W161) W162) W163) W164)
    have G_b168 := Nat.le_trans O164.1 (Nat.le_of_eq z168)
    have sz_b168 := Nat.le_trans M169 (Nat.le_of_eq z168)
    have ne_b160_b168 : b160 ≠ b168 := neB V164.lt (Nat.le_of_eq z168)
    have O168 := extT O164 E168
    have F168_entries : Fld Z h168 b168 cs0 "entries" "[I" .null := D168 (Or.inl (hw _ wd14)) (ty := (.array .int)) (by decide)
    have F168_depth : Fld Z h168 b168 cs0 "depth" "I" (.int 0) := D168 (Or.inl (hw _ wd21)) (ty := .int) (by decide)
    have F168_unchanged : Fld Z h168 b168 cs0 "unchanged" "B" (.int 0) := D168 (Or.inl (hw _ wd56)) (ty := .byte) (by decide)
    refine gDup X168 H at_135 rfl 136 rfl ?_
    refine gSpecial X168 H hZ hown rfl rfl (hw _ wd5) (hw _ wd6) (by decide) (hw _ wd7) (hw _ wd4) (rm20_1 B b168 _ O168 A168 F168_entries G_b168 F168_depth F168_unchanged) e168 hml rfl pd0 rfl (W := 1) (argsL := []) (rest := [(.ref b168)]) rfl rfl at_136 139 rfl ?_
    intro v170 T170 L170 hq170 X170
    obtain ⟨rfl, N170q, K170, f170_0, f170_1, f170_2, f170_3⟩ := hq170
    have O170 := extK O168 K170 (allS G_b168 all0)
    have N170 := Fr.app N164 N170q
    show Go _ _ _ _ (State.setTop _ (mkF _ 139 _ [(.ref b168)]))
    refine gAstore X170 H at_139 rfl (Ls' := #[vI p0, vI p1, vI p2, vI p3, vI p4, vI p5, vI 2, vR b160, vR b168, .unset, .unset, .unset]) rfl 141 rfl ?_
    refine gIload X170 H at_141 rfl 143 rfl ?_
    refine gIconst X170 H at_143 (z := 1) rfl 144 rfl ?_
    refine gCmpN X170 H at_144 (by decide) 147 rfl ?_
    refine gAload X170 H at_147 rfl rfl 149 rfl ?_
    refine gAload X170 H at_149 rfl rfl 151 rfl ?_
    refine gIconst X170 H at_151 (z := 0) rfl 152 rfl ?_
    have c172 := ((V164.ext E168).keep K170 (ninS ne_b160_b168 nin0))
    refine gIaload X170 H hZ rfl c172 ⟨by decide, by decide⟩ (v := (.int (p1 &&& (2147483647 : Int32)))) rfl at_152 153 rfl ?_
    refine gVirt X170 H hZ hown (hw _ wd27) (hw _ wd28) (hw _ wd30) (hw _ wd29) (by decide) f170_0 (hw _ wd31) (hw _ wd4) (rm107_5 B b168 ((p1 &&& (2147483647 : Int32))) _ O170 f170_2 f170_1 f170_0 G_b168 f170_3) rfl hml rfl pd1 rfl (W := 0) (argsL := [(.int (p1 &&& (2147483647 : Int32)))]) (rest := []) rfl rfl at_153 156 rfl ?_
    intro v173 T173 L173 hq173 X173
    obtain ⟨b173_0, k173_0, rfl, N173q, K173, s173_0, f173_0, f173_1, f173_2, f173_3, f173_4⟩ := hq173
    have M174 := (Nat.le_trans (Nat.le_trans M169 E168.1) K170.1)
    have G_b173_0 := Nat.le_trans O170.1 s173_0
    have sz_b173_0 := Nat.le_trans M174 s173_0
    have ne_b160_b173_0 : b160 ≠ b173_0 := neB c172.lt s173_0
    have ne_b168_b173_0 : b168 ≠ b173_0 := neB f170_0.lt s173_0
    have O173 := extK O170 K173 (allS G_b168 all0)
    have N173 := Fr.app N170 N173q
    show Go _ _ _ _ (State.setTop _ (mkF _ 156 _ []))
    refine gIload X173 H at_156 rfl 158 rfl ?_
    refine gIconst X173 H at_158 (z := 2) rfl 159 rfl ?_
    refine gCmpN X173 H at_159 (by decide) 162 rfl ?_
    refine gAload X173 H at_162 rfl rfl 164 rfl ?_
    refine gAload X173 H at_164 rfl rfl 166 rfl ?_
    refine gIconst X173 H at_166 (z := 1) rfl 167 rfl ?_
    have c176 := (c172.keep K173 (ninS ne_b160_b168 nin0))
    refine gIaload X173 H hZ rfl c176 ⟨by decide, by decide⟩ (v := (.int (p2 &&& (2147483647 : Int32)))) rfl at_167 168 rfl ?_
    refine gVirt X173 H hZ hown (hw _ wd27) (hw _ wd28) (hw _ wd30) (hw _ wd29) (by decide) f173_2 (hw _ wd31) (hw _ wd4) (rm207_5 B b168 ((p2 &&& (2147483647 : Int32))) b173_0 k173_0 ((p1 &&& (2147483647 : Int32))) _ O173 f173_0 f173_1 (Arv.arl f173_4) f173_2 f173_3 f173_4 G_b173_0 ne_b168_b173_0 G_b168) rfl hml rfl pd1 rfl (W := 0) (argsL := [(.int (p2 &&& (2147483647 : Int32)))]) (rest := []) rfl rfl at_168 171 rfl ?_
    intro v208 T208 L208 hq208 X208
    obtain ⟨rfl, N208q, K208, f208_0, f208_1, f208_2, f208_3, f208_4⟩ := hq208
    have O208 := extK O173 K208 (allS G_b173_0 (allS G_b168 all0))
    have N208 := Fr.app N173 N208q
    show Go _ _ _ _ (State.setTop _ (mkF _ 171 _ []))
    refine gIload X208 H at_171 rfl 173 rfl ?_
    refine gIconst X208 H at_173 (z := 3) rfl 174 rfl ?_
    refine gCmpY X208 H at_174 (by decide) (by decide) 186 rfl ?_
    refine gIload X208 H at_186 rfl 188 rfl ?_
    refine gIconst X208 H at_188 (z := 4) rfl 189 rfl ?_
    refine gCmpY X208 H at_189 (by decide) (by decide) 201 rfl ?_
    refine gIload X208 H at_201 rfl 203 rfl ?_
    refine gLdc X208 H hZ hown (hw _ wd1) at_203 205 rfl ?_
    refine g_iand X208 H at_205 (z := (p5 &&& (2147483647 : Int32))) rfl 206 rfl ?_
    refine gIload X208 H at_206 rfl 208 rfl ?_
    refine gIconst X208 H at_208 (z := 1) rfl 209 rfl ?_
    refine g_iadd X208 H at_209 (z := 3) (by decide) 210 rfl ?_
    rcases mod_3 p5 with hn209 | hn209 | hn209
    · refine g_irem X208 H at_210 (by decide) (z := 0) hn209 211 rfl ?_
      refine gIstore X208 H at_211 (Ls' := #[vI p0, vI p1, vI p2, vI p3, vI p4, vI p5, vI 2, vR b160, vR b168, vI 0, .unset, .unset]) rfl 213 rfl ?_
      refine gIload X208 H at_213 rfl 215 rfl ?_
      refine gIload X208 H at_215 rfl 217 rfl ?_
      refine gCmpY X208 H at_217 (by decide) (by decide) 229 rfl ?_
      refine gAload X208 H at_229 rfl rfl 231 rfl ?_
      refine gIload X208 H at_231 rfl 233 rfl ?_
      have c211 := (c176.keep K208 (ninS ne_b160_b173_0 (ninS ne_b160_b168 nin0)))
      refine gIaload X208 H hZ rfl c211 ⟨by decide, by decide⟩ (v := (.int (p1 &&& (2147483647 : Int32)))) rfl at_233 234 rfl ?_
      refine gIstore X208 H at_234 (Ls' := #[vI p0, vI p1, vI p2, vI p3, vI p4, vI p5, vI 2, vR b160, vR b168, vI 0, vI (p1 &&& (2147483647 : Int32)), .unset]) rfl 236 rfl ?_
      refine gIload X208 H at_236 rfl 238 rfl ?_
      refine gIconst X208 H at_238 (z := 1) rfl 239 rfl ?_
      refine g_iadd X208 H at_239 (z := 1) (by decide) 240 rfl ?_
      refine gIstore X208 H at_240 (Ls' := #[vI p0, vI p1, vI p2, vI p3, vI p4, vI p5, vI 2, vR b160, vR b168, vI 0, vI (p1 &&& (2147483647 : Int32)), vI 1]) rfl 242 rfl ?_
      refine gAload X208 H at_242 rfl rfl 244 rfl ?_
      refine gIload X208 H at_244 rfl 246 rfl ?_
      refine gVirt X208 H hZ hown (hw _ wd15) (hw _ wd16) (hw _ wd18) (hw _ wd17) (by decide) f208_2 (hw _ wd19) (hw _ wd4) (rm230_3 B b168 ((p1 &&& (2147483647 : Int32))) b173_0 k173_0 ((p2 &&& (2147483647 : Int32))) _ O208 f208_0 f208_1 f208_4 f208_2 G_b168 f208_3 (mask_ne p1) (Ne.symm hc167)) rfl hml rfl pd1 rfl (W := 0) (argsL := [(.int (p1 &&& (2147483647 : Int32)))]) (rest := []) rfl rfl at_246 249 rfl ?_
      intro v231 T231 L231 hq231 X231
      obtain ⟨rfl, N231q, K231, f231_0, f231_1, f231_2, f231_3⟩ := hq231
      have O231 := extK O208 K231 (allS G_b168 all0)
      have N231 := Fr.app N208 N231q
      show Go _ _ _ _ (State.setTop _ (mkF _ 249 _ []))
      refine gAload X231 H at_249 rfl rfl 251 rfl ?_
      refine gVirt X231 H hZ hown (hw _ wd22) (hw _ wd23) (hw _ wd25) (hw _ wd24) (by decide) f231_2 (hw _ wd26) (hw _ wd4) (rm132_4 B b168 _ O231 f231_0) rfl hml rfl pd2 rfl (W := 0) (argsL := []) (rest := []) rfl rfl at_251 254 rfl ?_
      intro v232 T232 L232 hq232 X232
      obtain ⟨rfl, e232, rfl⟩ := hq232
      have N232 := Fr.app N231 (Fr.nil _)
      show Go _ _ _ _ (State.setTop _ (mkF _ 254 _ [(.int 1)]))
      refine gIload X232 H at_254 rfl 256 rfl ?_
      refine gCmpY X232 H at_256 (by decide) (by decide) 261 rfl ?_
      refine gIload X232 H at_261 rfl 263 rfl ?_
      refine gIconst X232 H at_263 (z := 1) rfl 264 rfl ?_
      refine gCmpN X232 H at_264 (by decide) 267 rfl ?_
      refine gAload X232 H at_267 rfl rfl 269 rfl ?_
      refine gIconst X232 H at_269 (z := 0) rfl 270 rfl ?_
      have c238 := (f208_4.keep K231 (ninS (Ne.symm ne_b168_b173_0) nin0))
      refine gVirt X232 H hZ hown (hw _ wd57) (hw _ wd58) (hw _ wd60) (hw _ wd59) (by decide) f231_2 (hw _ wd61) (hw _ wd4) (rm237_11 B b168 b173_0 k173_0 ((p1 &&& (2147483647 : Int32))) ((p2 &&& (2147483647 : Int32))) _ O231 f231_1 c238) e232 hml rfl pd5 rfl (W := 0) (argsL := [(.int 0)]) (rest := []) rfl rfl at_270 273 rfl ?_
      intro v239 T239 L239 hq239 X239
      obtain ⟨rfl, e239, rfl⟩ := hq239
      have N239 := Fr.app N232 (Fr.nil _)
      show Go _ _ _ _ (State.setTop _ (mkF _ 273 _ [(.int (p1 &&& (2147483647 : Int32)))]))
      refine gAload X239 H at_273 rfl rfl 275 rfl ?_
      refine gIconst X239 H at_275 (z := 0) rfl 276 rfl ?_
      have c241 := (c211.keep K231 (ninS ne_b160_b168 nin0))
      refine gIaload X239 H hZ e239 c241 ⟨by decide, by decide⟩ (v := (.int (p1 &&& (2147483647 : Int32)))) rfl at_276 277 rfl ?_
      refine gCmpY X239 H at_277 (teq rfl).1 (by decide) 282 rfl ?_
      refine gIload X239 H at_282 rfl 284 rfl ?_
      refine gIconst X239 H at_284 (z := 2) rfl 285 rfl ?_
      refine gCmpN X239 H at_285 (by decide) 288 rfl ?_
      refine gAload X239 H at_288 rfl rfl 290 rfl ?_
      refine gIconst X239 H at_290 (z := 1) rfl 291 rfl ?_
      refine gVirt X239 H hZ hown (hw _ wd57) (hw _ wd58) (hw _ wd60) (hw _ wd59) (by decide) f231_2 (hw _ wd61) (hw _ wd4) (rm246_11 B b168 b173_0 k173_0 ((p1 &&& (2147483647 : Int32))) ((p2 &&& (2147483647 : Int32))) _ O231 f231_1 c238) e239 hml rfl pd5 rfl (W := 0) (argsL := [(.int 1)]) (rest := []) rfl rfl at_291 294 rfl ?_
      intro v247 T247 L247 hq247 X247
      obtain ⟨rfl, e247, rfl⟩ := hq247
      have N247 := Fr.app N239 (Fr.nil _)
      show Go _ _ _ _ (State.setTop _ (mkF _ 294 _ [(.int (p2 &&& (2147483647 : Int32)))]))
      refine gAload X247 H at_294 rfl rfl 296 rfl ?_
      refine gIconst X247 H at_296 (z := 1) rfl 297 rfl ?_
      refine gIaload X247 H hZ e247 c241 ⟨by decide, by decide⟩ (v := (.int (p2 &&& (2147483647 : Int32)))) rfl at_297 298 rfl ?_
      refine gCmpY X247 H at_298 (teq rfl).1 (by decide) 303 rfl ?_
      refine gIload X247 H at_303 rfl 305 rfl ?_
      refine gIconst X247 H at_305 (z := 3) rfl 306 rfl ?_
      refine gCmpY X247 H at_306 (by decide) (by decide) 324 rfl ?_
      refine gIload X247 H at_324 rfl 326 rfl ?_
      refine gIconst X247 H at_326 (z := 4) rfl 327 rfl ?_
      refine gCmpY X247 H at_327 (by decide) (by decide) 345 rfl ?_
      refine gIconst X247 H at_345 (z := 1) rfl 346 rfl ?_
      exact gRetN X247 H hlk hret (t := .boolean) (by simp) at_346 e247 ⟨rfl, N247⟩
    · refine g_irem X208 H at_210 (by decide) (z := 1) hn209 211 rfl ?_
      refine gIstore X208 H at_211 (Ls' := #[vI p0, vI p1, vI p2, vI p3, vI p4, vI p5, vI 2, vR b160, vR b168, vI 1, .unset, .unset]) rfl 213 rfl ?_
      refine gIload X208 H at_213 rfl 215 rfl ?_
      refine gIload X208 H at_215 rfl 217 rfl ?_
      refine gCmpY X208 H at_217 (by decide) (by decide) 229 rfl ?_
      refine gAload X208 H at_229 rfl rfl 231 rfl ?_
      refine gIload X208 H at_231 rfl 233 rfl ?_
      have c250 := (c176.keep K208 (ninS ne_b160_b173_0 (ninS ne_b160_b168 nin0)))
      refine gIaload X208 H hZ rfl c250 ⟨by decide, by decide⟩ (v := (.int (p2 &&& (2147483647 : Int32)))) rfl at_233 234 rfl ?_
      refine gIstore X208 H at_234 (Ls' := #[vI p0, vI p1, vI p2, vI p3, vI p4, vI p5, vI 2, vR b160, vR b168, vI 1, vI (p2 &&& (2147483647 : Int32)), .unset]) rfl 236 rfl ?_
      refine gIload X208 H at_236 rfl 238 rfl ?_
      refine gIconst X208 H at_238 (z := 1) rfl 239 rfl ?_
      refine g_iadd X208 H at_239 (z := 2) (by decide) 240 rfl ?_
      refine gIstore X208 H at_240 (Ls' := #[vI p0, vI p1, vI p2, vI p3, vI p4, vI p5, vI 2, vR b160, vR b168, vI 1, vI (p2 &&& (2147483647 : Int32)), vI 2]) rfl 242 rfl ?_
      refine gAload X208 H at_242 rfl rfl 244 rfl ?_
      refine gIload X208 H at_244 rfl 246 rfl ?_
      refine gVirt X208 H hZ hown (hw _ wd15) (hw _ wd16) (hw _ wd18) (hw _ wd17) (by decide) f208_2 (hw _ wd19) (hw _ wd4) (rm266_3 B b168 ((p2 &&& (2147483647 : Int32))) b173_0 k173_0 ((p1 &&& (2147483647 : Int32))) _ O208 f208_0 f208_1 f208_4 f208_2 G_b168 f208_3 (mask_ne p2)) rfl hml rfl pd1 rfl (W := 0) (argsL := [(.int (p2 &&& (2147483647 : Int32)))]) (rest := []) rfl rfl at_246 249 rfl ?_
      intro v267 T267 L267 hq267 X267
      obtain ⟨rfl, N267q, K267, f267_0, f267_1, f267_2, f267_3⟩ := hq267
      have O267 := extK O208 K267 (allS G_b168 all0)
      have N267 := Fr.app N208 N267q
      show Go _ _ _ _ (State.setTop _ (mkF _ 249 _ []))
      refine gAload X267 H at_249 rfl rfl 251 rfl ?_
      refine gVirt X267 H hZ hown (hw _ wd22) (hw _ wd23) (hw _ wd25) (hw _ wd24) (by decide) f267_2 (hw _ wd26) (hw _ wd4) (rm270_4 B b168 _ O267 f267_0) rfl hml rfl pd2 rfl (W := 0) (argsL := []) (rest := []) rfl rfl at_251 254 rfl ?_
      intro v271 T271 L271 hq271 X271
      obtain ⟨rfl, e271, rfl⟩ := hq271
      have N271 := Fr.app N267 (Fr.nil _)
      show Go _ _ _ _ (State.setTop _ (mkF _ 254 _ [(.int 2)]))
      refine gIload X271 H at_254 rfl 256 rfl ?_
      refine gCmpY X271 H at_256 (by decide) (by decide) 261 rfl ?_
      refine gIload X271 H at_261 rfl 263 rfl ?_
      refine gIconst X271 H at_263 (z := 1) rfl 264 rfl ?_
      refine gCmpN X271 H at_264 (by decide) 267 rfl ?_
      refine gAload X271 H at_267 rfl rfl 269 rfl ?_
      refine gIconst X271 H at_269 (z := 0) rfl 270 rfl ?_
      have c272 := (f208_4.keep K267 (ninS (Ne.symm ne_b168_b173_0) nin0))
      refine gVirt X271 H hZ hown (hw _ wd57) (hw _ wd58) (hw _ wd60) (hw _ wd59) (by decide) f267_2 (hw _ wd61) (hw _ wd4) (rm237_11 B b168 b173_0 k173_0 ((p1 &&& (2147483647 : Int32))) ((p2 &&& (2147483647 : Int32))) _ O267 f267_1 c272) e271 hml rfl pd5 rfl (W := 0) (argsL := [(.int 0)]) (rest := []) rfl rfl at_270 273 rfl ?_
      intro v273 T273 L273 hq273 X273
      obtain ⟨rfl, e273, rfl⟩ := hq273
      have N273 := Fr.app N271 (Fr.nil _)
      show Go _ _ _ _ (State.setTop _ (mkF _ 273 _ [(.int (p1 &&& (2147483647 : Int32)))]))
      refine gAload X273 H at_273 rfl rfl 275 rfl ?_
      refine gIconst X273 H at_275 (z := 0) rfl 276 rfl ?_
      have c275 := (c250.keep K267 (ninS ne_b160_b168 nin0))
      refine gIaload X273 H hZ e273 c275 ⟨by decide, by decide⟩ (v := (.int (p1 &&& (2147483647 : Int32)))) rfl at_276 277 rfl ?_
      refine gCmpY X273 H at_277 (teq rfl).1 (by decide) 282 rfl ?_
      refine gIload X273 H at_282 rfl 284 rfl ?_
      refine gIconst X273 H at_284 (z := 2) rfl 285 rfl ?_
      refine gCmpN X273 H at_285 (by decide) 288 rfl ?_
      refine gAload X273 H at_288 rfl rfl 290 rfl ?_
      refine gIconst X273 H at_290 (z := 1) rfl 291 rfl ?_
      refine gVirt X273 H hZ hown (hw _ wd57) (hw _ wd58) (hw _ wd60) (hw _ wd59) (by decide) f267_2 (hw _ wd61) (hw _ wd4) (rm246_11 B b168 b173_0 k173_0 ((p1 &&& (2147483647 : Int32))) ((p2 &&& (2147483647 : Int32))) _ O267 f267_1 c272) e273 hml rfl pd5 rfl (W := 0) (argsL := [(.int 1)]) (rest := []) rfl rfl at_291 294 rfl ?_
      intro v276 T276 L276 hq276 X276
      obtain ⟨rfl, e276, rfl⟩ := hq276
      have N276 := Fr.app N273 (Fr.nil _)
      show Go _ _ _ _ (State.setTop _ (mkF _ 294 _ [(.int (p2 &&& (2147483647 : Int32)))]))
      refine gAload X276 H at_294 rfl rfl 296 rfl ?_
      refine gIconst X276 H at_296 (z := 1) rfl 297 rfl ?_
      refine gIaload X276 H hZ e276 c275 ⟨by decide, by decide⟩ (v := (.int (p2 &&& (2147483647 : Int32)))) rfl at_297 298 rfl ?_
      refine gCmpY X276 H at_298 (teq rfl).1 (by decide) 303 rfl ?_
      refine gIload X276 H at_303 rfl 305 rfl ?_
      refine gIconst X276 H at_305 (z := 3) rfl 306 rfl ?_
      refine gCmpY X276 H at_306 (by decide) (by decide) 324 rfl ?_
      refine gIload X276 H at_324 rfl 326 rfl ?_
      refine gIconst X276 H at_326 (z := 4) rfl 327 rfl ?_
      refine gCmpY X276 H at_327 (by decide) (by decide) 345 rfl ?_
      refine gIconst X276 H at_345 (z := 1) rfl 346 rfl ?_
      exact gRetN X276 H hlk hret (t := .boolean) (by simp) at_346 e276 ⟨rfl, N276⟩
    · refine g_irem X208 H at_210 (by decide) (z := 2) hn209 211 rfl ?_
      refine gIstore X208 H at_211 (Ls' := #[vI p0, vI p1, vI p2, vI p3, vI p4, vI p5, vI 2, vR b160, vR b168, vI 2, .unset, .unset]) rfl 213 rfl ?_
      refine gIload X208 H at_213 rfl 215 rfl ?_
      refine gIload X208 H at_215 rfl 217 rfl ?_
      refine gCmpN X208 H at_217 (by decide) 220 rfl ?_
      refine gIconst X208 H at_220 (z := (-1)) rfl 221 rfl ?_
      refine gIstore X208 H at_221 (Ls' := #[vI p0, vI p1, vI p2, vI p3, vI p4, vI p5, vI 2, vR b160, vR b168, vI 2, vI (-1), .unset]) rfl 223 rfl ?_
      refine gIconst X208 H at_223 (z := 0) rfl 224 rfl ?_
      refine gIstore X208 H at_224 (Ls' := #[vI p0, vI p1, vI p2, vI p3, vI p4, vI p5, vI 2, vR b160, vR b168, vI 2, vI (-1), vI 0]) rfl 226 rfl ?_
      refine gGoto X208 H at_226 (by decide) 242 rfl ?_
      refine gAload X208 H at_242 rfl rfl 244 rfl ?_
      refine gIload X208 H at_244 rfl 246 rfl ?_
      refine gVirt X208 H hZ hown (hw _ wd15) (hw _ wd16) (hw _ wd18) (hw _ wd17) (by decide) f208_2 (hw _ wd19) (hw _ wd4) (rm288_3 B b168 b173_0 _ O208 f208_2 f208_0 G_b168 f208_1 f208_3) rfl hml rfl pd1 rfl (W := 0) (argsL := [(.int (-1))]) (rest := []) rfl rfl at_246 249 rfl ?_
      intro v289 T289 L289 hq289 X289
      obtain ⟨rfl, N289q, K289, f289_0, f289_1, f289_2, f289_3⟩ := hq289
      have O289 := extK O208 K289 (allS G_b168 all0)
      have N289 := Fr.app N208 N289q
      show Go _ _ _ _ (State.setTop _ (mkF _ 249 _ []))
      refine gAload X289 H at_249 rfl rfl 251 rfl ?_
      refine gVirt X289 H hZ hown (hw _ wd22) (hw _ wd23) (hw _ wd25) (hw _ wd24) (by decide) f289_0 (hw _ wd26) (hw _ wd4) (rm37_4 B b168 _ O289 f289_1) rfl hml rfl pd2 rfl (W := 0) (argsL := []) (rest := []) rfl rfl at_251 254 rfl ?_
      intro v290 T290 L290 hq290 X290
      obtain ⟨rfl, e290, rfl⟩ := hq290
      have N290 := Fr.app N289 (Fr.nil _)
      show Go _ _ _ _ (State.setTop _ (mkF _ 254 _ [(.int 0)]))
      refine gIload X290 H at_254 rfl 256 rfl ?_
      refine gCmpY X290 H at_256 (by decide) (by decide) 261 rfl ?_
      refine gIload X290 H at_261 rfl 263 rfl ?_
      refine gIconst X290 H at_263 (z := 1) rfl 264 rfl ?_
      refine gCmpN X290 H at_264 (by decide) 267 rfl ?_
      refine gAload X290 H at_267 rfl rfl 269 rfl ?_
      refine gIconst X290 H at_269 (z := 0) rfl 270 rfl ?_
      have c291 := (f208_4.keep K289 (ninS (Ne.symm ne_b168_b173_0) nin0))
      refine gVirt X290 H hZ hown (hw _ wd57) (hw _ wd58) (hw _ wd60) (hw _ wd59) (by decide) f289_0 (hw _ wd61) (hw _ wd4) (rm237_11 B b168 b173_0 k173_0 ((p1 &&& (2147483647 : Int32))) ((p2 &&& (2147483647 : Int32))) _ O289 f289_2 c291) e290 hml rfl pd5 rfl (W := 0) (argsL := [(.int 0)]) (rest := []) rfl rfl at_270 273 rfl ?_
      intro v292 T292 L292 hq292 X292
      obtain ⟨rfl, e292, rfl⟩ := hq292
      have N292 := Fr.app N290 (Fr.nil _)
      show Go _ _ _ _ (State.setTop _ (mkF _ 273 _ [(.int (p1 &&& (2147483647 : Int32)))]))
      refine gAload X292 H at_273 rfl rfl 275 rfl ?_
      refine gIconst X292 H at_275 (z := 0) rfl 276 rfl ?_
      have c294 := ((c176.keep K208 (ninS ne_b160_b173_0 (ninS ne_b160_b168 nin0))).keep K289 (ninS ne_b160_b168 nin0))
      refine gIaload X292 H hZ e292 c294 ⟨by decide, by decide⟩ (v := (.int (p1 &&& (2147483647 : Int32)))) rfl at_276 277 rfl ?_
      refine gCmpY X292 H at_277 (teq rfl).1 (by decide) 282 rfl ?_
      refine gIload X292 H at_282 rfl 284 rfl ?_
      refine gIconst X292 H at_284 (z := 2) rfl 285 rfl ?_
      refine gCmpN X292 H at_285 (by decide) 288 rfl ?_
      refine gAload X292 H at_288 rfl rfl 290 rfl ?_
      refine gIconst X292 H at_290 (z := 1) rfl 291 rfl ?_
      refine gVirt X292 H hZ hown (hw _ wd57) (hw _ wd58) (hw _ wd60) (hw _ wd59) (by decide) f289_0 (hw _ wd61) (hw _ wd4) (rm246_11 B b168 b173_0 k173_0 ((p1 &&& (2147483647 : Int32))) ((p2 &&& (2147483647 : Int32))) _ O289 f289_2 c291) e292 hml rfl pd5 rfl (W := 0) (argsL := [(.int 1)]) (rest := []) rfl rfl at_291 294 rfl ?_
      intro v295 T295 L295 hq295 X295
      obtain ⟨rfl, e295, rfl⟩ := hq295
      have N295 := Fr.app N292 (Fr.nil _)
      show Go _ _ _ _ (State.setTop _ (mkF _ 294 _ [(.int (p2 &&& (2147483647 : Int32)))]))
      refine gAload X295 H at_294 rfl rfl 296 rfl ?_
      refine gIconst X295 H at_296 (z := 1) rfl 297 rfl ?_
      refine gIaload X295 H hZ e295 c294 ⟨by decide, by decide⟩ (v := (.int (p2 &&& (2147483647 : Int32)))) rfl at_297 298 rfl ?_
      refine gCmpY X295 H at_298 (teq rfl).1 (by decide) 303 rfl ?_
      refine gIload X295 H at_303 rfl 305 rfl ?_
      refine gIconst X295 H at_305 (z := 3) rfl 306 rfl ?_
      refine gCmpY X295 H at_306 (by decide) (by decide) 324 rfl ?_
      refine gIload X295 H at_324 rfl 326 rfl ?_
      refine gIconst X295 H at_326 (z := 4) rfl 327 rfl ?_
      refine gCmpY X295 H at_327 (by decide) (by decide) 345 rfl ?_
      refine gIconst X295 H at_345 (z := 1) rfl 346 rfl ?_
      exact gRetN X295 H hlk hret (t := .boolean) (by simp) at_346 e295 ⟨rfl, N295⟩
theorem rm333_10 (B : Bg Z a0 w_Trail_NO_ROOM k_w_Trail_NO_ROOM) (ro0 : Addr) (h : Heap) (O : Ext Z.heap h) (q331 : Fld Z h ro0 cs0 "unchanged" "B" (.int 0)) :
    Con l Z yM10 prog_22_method_15_code 2 none ({ frames := 0, cells := 0, slots := 0, locals := 0 } : Room) #[(.ref ro0), (.int 2)] h (fun v h' L => v = none ∧ h' = h ∧ L = []) := by
  have hw := B.1
  refine Con.of (plainFor_of_name pn10) (Ls := #[vR ro0, vI 2]) (fun _ => rfl) ?_
  intro p e s m below meth c T0 X0 H hml hZ hown hnm hret hlk e0
  refine gIloadN X0 H d10_0 rfl 1 rfl ?_
  refine gAloadN X0 H d10_1 rfl rfl 2 rfl ?_
  refine gGetF X0 H hZ hown (hw _ wd55) Via.refl e0 q331 d10_2 5 rfl ?_
  intro T332 X332 e332
  refine gCmpY X332 H d10_5 (by decide) (by decide) 14 rfl ?_
  exact gRetV X332 H hlk hret d10_14 e332 ⟨rfl, rfl, rfl⟩
theorem rm353_5 (B : Bg Z a0 w_Trail_NO_ROOM k_w_Trail_NO_ROOM) (ro0 : Addr) (vi1 : Int32) (ro2 : Addr) (ck3 : ClassId) (vi4 vi5 : Int32) (h : Heap) (O : Ext Z.heap h) (q323 : Fld Z h ro0 cs0 "depth" "I" (.int 2)) (q325 : Fld Z h ro0 cs0 "entries" "[I" (.ref ro2)) (q328 : Arl Z h ro2 (16 : Int32)) (q330 : Exa Z h ro0 cs0) (q334 : Fld Z h ro0 cs0 "unchanged" "B" (.int 0)) (q339 : Arv Z h ro2 ck3 .int (16 : Int32) [(.int vi4), (.int vi5), (.int 0), (.int 0), (.int 0), (.int 0), (.int 0), (.int 0), (.int 0), (.int 0), (.int 0), (.int 0), (.int 0), (.int 0), (.int 0), (.int 0)] (.int 0)) (q340 : Z.heap.size ≤ ro2) (q341 : ro0 ≠ ro2) (q346 : Z.heap.size ≤ ro0) :
    Con l Z yM5 prog_22_method_6_code 2 none ({ frames := 1, cells := 0, slots := 0, locals := 13 } : Room) #[(.ref ro0), (.int vi1)] h (fun v h' L => v = none ∧ Fr Z.heap.size L ∧ Keep h h' [ro2, ro0] ∧ Fld Z h' ro0 cs0 "depth" "I" (.int 3) ∧ Fld Z h' ro0 cs0 "entries" "[I" (.ref ro2) ∧ Exa Z h' ro0 cs0 ∧ Fld Z h' ro0 cs0 "unchanged" "B" (.int 0) ∧ Arv Z h' ro2 ck3 .int (16 : Int32) [(.int vi4), (.int vi5), (.int vi1), (.int 0), (.int 0), (.int 0), (.int 0), (.int 0), (.int 0), (.int 0), (.int 0), (.int 0), (.int 0), (.int 0), (.int 0), (.int 0)] (.int 0)) := by
  have hw := B.1
  refine Con.of (plainFor_of_name pn5) (Ls := #[vR ro0, vI vi1]) (fun _ => rfl) ?_
  intro p e s m below meth c T0 X0 H hml hZ hown hnm hret hlk e0
  have N0 := Fr.nil Z.heap.size
  refine gAloadN X0 H d5_0 rfl rfl 1 rfl ?_
  refine gGetF X0 H hZ hown (hw _ wd20) Via.refl e0 q323 d5_1 4 rfl ?_
  intro T324 X324 e324
  refine gAloadN X324 H d5_4 rfl rfl 5 rfl ?_
  refine gGetF X324 H hZ hown (hw _ wd13) Via.refl e324 q325 d5_5 8 rfl ?_
  intro T326 X326 e326
  refine gLen X326 H hZ e326 q328 d5_8 9 rfl ?_
  refine gCmpY X326 H d5_9 (by decide) (by decide) 16 rfl ?_
  refine gAloadN X326 H d5_16 rfl rfl 17 rfl ?_
  refine gAloadN X326 H d5_17 rfl rfl 18 rfl ?_
  refine gGetF X326 H hZ hown (hw _ wd20) Via.refl e326 q323 d5_18 21 rfl ?_
  intro T329 X329 e329
  refine gPrivate X329 H hZ hown (hw _ wd51) (hw _ wd52) (hw _ wd53) (hw _ wd3) (by decide) q330 (hw _ wd54) (hw _ wd4) (rm333_10 B ro0 _ O q334) e329 hml rfl pd1 rfl (W := 0) (argsL := [(.int 2)]) (rest := []) rfl rfl d5_21 24 rfl ?_
  intro v335 T335 L335 hq335 X335
  obtain ⟨rfl, e335, rfl⟩ := hq335
  have N335 := Fr.app N0 (Fr.nil _)
  show Go _ _ _ _ (State.setTop _ (mkF _ 24 _ []))
  refine gAloadN X335 H d5_24 rfl rfl 25 rfl ?_
  refine gGetF X335 H hZ hown (hw _ wd13) Via.refl e335 q325 d5_25 28 rfl ?_
  intro T336 X336 e336
  refine gAloadN X336 H d5_28 rfl rfl 29 rfl ?_
  refine gGetF X336 H hZ hown (hw _ wd20) Via.refl e336 q323 d5_29 32 rfl ?_
  intro T337 X337 e337
  refine gIloadN X337 H d5_32 rfl 33 rfl ?_
  refine gIastore X337 H hZ e337 q339 ⟨by decide, by decide⟩ (i := 2) rfl (Nat.le_of_ble_eq_true rfl) (vs' := [(.int vi4), (.int vi5), (.int vi1), (.int 0), (.int 0), (.int 0), (.int 0), (.int 0), (.int 0), (.int 0), (.int 0), (.int 0), (.int 0), (.int 0), (.int 0), (.int 0)]) rfl d5_33 34 rfl ?_
  intro T338 h338 X338 e338 W338 V338
  have O338 := extW O W338 q340
  have N338 := Fr.snoc X338 N335 q340
  refine gAloadN X338 H d5_34 rfl rfl 35 rfl ?_
  refine gDup X338 H d5_35 rfl 36 rfl ?_
  have c342 := (q323.other W338 (Or.inl q341))
  refine gGetF X338 H hZ hown (hw _ wd20) Via.refl e338 c342 d5_36 39 rfl ?_
  intro T343 X343 e343
  refine gIconst X343 H d5_39 (z := 1) rfl 40 rfl ?_
  refine g_iadd X343 H d5_40 (z := 3) (by decide) 41 rfl ?_
  have c345 := (q330.wr W338)
  refine gPutF X343 H hZ hown (hw _ wd20) Via.refl e343 c342 c345 (Or.inl (hw _ wd21)) (hw _ wd3) (ty := .int) (by decide) (v' := (.int 3)) rfl rfl d5_41 44 rfl ?_
  intro T344 h344 X344 e344 W344 F344
  have O344 := extW O338 W344 q346
  have N344 := Fr.snoc X344 N338 q346
  have c347 := (V338.other W344 (Ne.symm q341))
  have c348 := ((q325.other W338 (Or.inl q341)).other W344 (Or.inr (sn2 hw)))
  have c349 := (c345.wr W344)
  have c350 := ((q334.other W338 (Or.inl q341)).other W344 (Or.inr (sn3 hw)))
  have K_351 := (Keep.refl h [ro2, ro0]).wr W338 (Or.inl (List.mem_of_getElem? (i := 0) rfl))
  have K_352 := K_351.wr W344 (Or.inl (List.mem_of_getElem? (i := 1) rfl))
  exact gRetV X344 H hlk hret d5_44 e344 ⟨rfl, N344, K_352, F344, c348, c349, c350, c347⟩
theorem rm379_3 (B : Bg Z a0 w_Trail_NO_ROOM k_w_Trail_NO_ROOM) (ro0 : Addr) (vi1 : Int32) (ro2 : Addr) (ck3 : ClassId) (vi4 vi5 : Int32) (h : Heap) (O : Ext Z.heap h) (q359 : Fld Z h ro0 cs0 "depth" "I" (.int 3)) (q361 : Fld Z h ro0 cs0 "entries" "[I" (.ref ro2)) (q364 : Arv Z h ro2 ck3 .int (16 : Int32) [(.int vi1), (.int vi4), (.int vi5), (.int 0), (.int 0), (.int 0), (.int 0), (.int 0), (.int 0), (.int 0), (.int 0), (.int 0), (.int 0), (.int 0), (.int 0), (.int 0)] (.int 0)) (q372 : Exa Z h ro0 cs0) (q373 : Z.heap.size ≤ ro0) (q376 : Fld Z h ro0 cs0 "unchanged" "B" (.int 0)) (hk358 : ¬ (vi1 = (-1 : Int32))) (hk365 : ¬ (vi5 = vi1)) (hk368 : ¬ (vi4 = vi1)) :
    Con l Z yM3 prog_22_method_9_code 3 none ({ frames := 0, cells := 0, slots := 0, locals := 0 } : Room) #[(.ref ro0), (.int vi1)] h (fun v h' L => v = none ∧ Fr Z.heap.size L ∧ Keep h h' [ro0] ∧ Fld Z h' ro0 cs0 "depth" "I" (.int 1) ∧ Fld Z h' ro0 cs0 "entries" "[I" (.ref ro2) ∧ Exa Z h' ro0 cs0 ∧ Fld Z h' ro0 cs0 "unchanged" "B" (.int 0)) := by
  have hw := B.1
  refine Con.of (plainFor_of_name pn3) (Ls := #[vR ro0, vI vi1, .unset]) (fun _ => rfl) ?_
  intro p e s m below meth c T0 X0 H hml hZ hown hnm hret hlk e0
  have N0 := Fr.nil Z.heap.size
  refine gIloadN X0 H d3_0 rfl 1 rfl ?_
  refine gIconst X0 H d3_1 (z := (-1)) rfl 2 rfl ?_
  refine gCmpY X0 H d3_2 (feq hk358).2 (by decide) 11 rfl ?_
  refine gAloadN X0 H d3_11 rfl rfl 12 rfl ?_
  refine gGetF X0 H hZ hown (hw _ wd20) Via.refl e0 q359 d3_12 15 rfl ?_
  intro T360 X360 e360
  refine gIstoreN X360 H d3_15 (Ls' := #[vR ro0, vI vi1, vI 3]) rfl 16 rfl ?_
  refine gAloadN X360 H d3_16 rfl rfl 17 rfl ?_
  refine gGetF X360 H hZ hown (hw _ wd13) Via.refl e360 q361 d3_17 20 rfl ?_
  intro T362 X362 e362
  refine gIloadN X362 H d3_20 rfl 21 rfl ?_
  refine gIconst X362 H d3_21 (z := 1) rfl 22 rfl ?_
  refine g_isub X362 H d3_22 (z := 2) (by decide) 23 rfl ?_
  refine gIaload X362 H hZ e362 q364 ⟨by decide, by decide⟩ (v := (.int vi5)) rfl d3_23 24 rfl ?_
  refine gIloadN X362 H d3_24 rfl 25 rfl ?_
  refine gCmpN X362 H d3_25 (feq hk365).1 28 rfl ?_
  refine gIinc X362 H d3_28 rfl (Ls' := #[vR ro0, vI vi1, vI 2]) rfl 31 rfl ?_
  refine gGoto X362 H d3_31 (by decide) 16 rfl ?_
  refine gAloadN X362 H d3_16 rfl rfl 17 rfl ?_
  refine gGetF X362 H hZ hown (hw _ wd13) Via.refl e362 q361 d3_17 20 rfl ?_
  intro T366 X366 e366
  refine gIloadN X366 H d3_20 rfl 21 rfl ?_
  refine gIconst X366 H d3_21 (z := 1) rfl 22 rfl ?_
  refine g_isub X366 H d3_22 (z := 1) (by decide) 23 rfl ?_
  refine gIaload X366 H hZ e366 q364 ⟨by decide, by decide⟩ (v := (.int vi4)) rfl d3_23 24 rfl ?_
  refine gIloadN X366 H d3_24 rfl 25 rfl ?_
  refine gCmpN X366 H d3_25 (feq hk368).1 28 rfl ?_
  refine gIinc X366 H d3_28 rfl (Ls' := #[vR ro0, vI vi1, vI 1]) rfl 31 rfl ?_
  refine gGoto X366 H d3_31 (by decide) 16 rfl ?_
  refine gAloadN X366 H d3_16 rfl rfl 17 rfl ?_
  refine gGetF X366 H hZ hown (hw _ wd13) Via.refl e366 q361 d3_17 20 rfl ?_
  intro T369 X369 e369
  refine gIloadN X369 H d3_20 rfl 21 rfl ?_
  refine gIconst X369 H d3_21 (z := 1) rfl 22 rfl ?_
  refine g_isub X369 H d3_22 (z := 0) (by decide) 23 rfl ?_
  refine gIaload X369 H hZ e369 q364 ⟨by decide, by decide⟩ (v := (.int vi1)) rfl d3_23 24 rfl ?_
  refine gIloadN X369 H d3_24 rfl 25 rfl ?_
  refine gCmpY X369 H d3_25 (teq rfl).1 (by decide) 34 rfl ?_
  refine gAloadN X369 H d3_34 rfl rfl 35 rfl ?_
  refine gIloadN X369 H d3_35 rfl 36 rfl ?_
  refine gPutF X369 H hZ hown (hw _ wd20) Via.refl e369 q359 q372 (Or.inl (hw _ wd21)) (hw _ wd3) (ty := .int) (by decide) (v' := (.int 1)) rfl rfl d3_36 39 rfl ?_
  intro T371 h371 X371 e371 W371 F371
  have O371 := extW O W371 q373
  have N371 := Fr.snoc X371 N0 q373
  have c374 := (q361.other W371 (Or.inr (sn2 hw)))
  have c375 := (q372.wr W371)
  have c377 := (q376.other W371 (Or.inr (sn3 hw)))
  have K_378 := (Keep.refl h [ro0]).wr W371 (Or.inl (List.mem_of_getElem? (i := 0) rfl))
  exact gRetV X371 H hlk hret d3_39 e371 ⟨rfl, N371, K_378, F371, c374, c375, c377⟩
theorem rm386_11 (B : Bg Z a0 w_Trail_NO_ROOM k_w_Trail_NO_ROOM) (ro0 ro1 : Addr) (ck2 : ClassId) (vi3 vi4 vi5 : Int32) (h : Heap) (O : Ext Z.heap h) (q382 : Fld Z h ro0 cs0 "entries" "[I" (.ref ro1)) (q385 : Arv Z h ro1 ck2 .int (16 : Int32) [(.int vi3), (.int vi4), (.int vi5), (.int 0), (.int 0), (.int 0), (.int 0), (.int 0), (.int 0), (.int 0), (.int 0), (.int 0), (.int 0), (.int 0), (.int 0), (.int 0)] (.int 0)) :
    Con l Z yM11 prog_22_method_3_code 2 (some .int) ({ frames := 0, cells := 0, slots := 0, locals := 0 } : Room) #[(.ref ro0), (.int 0)] h (fun v h' L => v = some (.int vi3) ∧ h' = h ∧ L = []) := by
  have hw := B.1
  refine Con.of (plainFor_of_name pn11) (Ls := #[vR ro0, vI 0]) (fun _ => rfl) ?_
  intro p e s m below meth c T0 X0 H hml hZ hown hnm hret hlk e0
  refine gAloadN X0 H d11_0 rfl rfl 1 rfl ?_
  refine gGetF X0 H hZ hown (hw _ wd13) Via.refl e0 q382 d11_1 4 rfl ?_
  intro T383 X383 e383
  refine gIloadN X383 H d11_4 rfl 5 rfl ?_
  refine gIaload X383 H hZ e383 q385 ⟨by decide, by decide⟩ (v := (.int vi3)) rfl d11_5 6 rfl ?_
  exact gRetI X383 H hlk hret d11_6 e383 ⟨rfl, rfl, rfl⟩
theorem rm395_11 (B : Bg Z a0 w_Trail_NO_ROOM k_w_Trail_NO_ROOM) (ro0 ro1 : Addr) (ck2 : ClassId) (vi3 vi4 vi5 : Int32) (h : Heap) (O : Ext Z.heap h) (q391 : Fld Z h ro0 cs0 "entries" "[I" (.ref ro1)) (q394 : Arv Z h ro1 ck2 .int (16 : Int32) [(.int vi3), (.int vi4), (.int vi5), (.int 0), (.int 0), (.int 0), (.int 0), (.int 0), (.int 0), (.int 0), (.int 0), (.int 0), (.int 0), (.int 0), (.int 0), (.int 0)] (.int 0)) :
    Con l Z yM11 prog_22_method_3_code 2 (some .int) ({ frames := 0, cells := 0, slots := 0, locals := 0 } : Room) #[(.ref ro0), (.int 1)] h (fun v h' L => v = some (.int vi4) ∧ h' = h ∧ L = []) := by
  have hw := B.1
  refine Con.of (plainFor_of_name pn11) (Ls := #[vR ro0, vI 1]) (fun _ => rfl) ?_
  intro p e s m below meth c T0 X0 H hml hZ hown hnm hret hlk e0
  refine gAloadN X0 H d11_0 rfl rfl 1 rfl ?_
  refine gGetF X0 H hZ hown (hw _ wd13) Via.refl e0 q391 d11_1 4 rfl ?_
  intro T392 X392 e392
  refine gIloadN X392 H d11_4 rfl 5 rfl ?_
  refine gIaload X392 H hZ e392 q394 ⟨by decide, by decide⟩ (v := (.int vi4)) rfl d11_5 6 rfl ?_
  exact gRetI X392 H hlk hret d11_6 e392 ⟨rfl, rfl, rfl⟩
theorem rm402_11 (B : Bg Z a0 w_Trail_NO_ROOM k_w_Trail_NO_ROOM) (ro0 ro1 : Addr) (ck2 : ClassId) (vi3 vi4 vi5 : Int32) (h : Heap) (O : Ext Z.heap h) (q398 : Fld Z h ro0 cs0 "entries" "[I" (.ref ro1)) (q401 : Arv Z h ro1 ck2 .int (16 : Int32) [(.int vi3), (.int vi4), (.int vi5), (.int 0), (.int 0), (.int 0), (.int 0), (.int 0), (.int 0), (.int 0), (.int 0), (.int 0), (.int 0), (.int 0), (.int 0), (.int 0)] (.int 0)) :
    Con l Z yM11 prog_22_method_3_code 2 (some .int) ({ frames := 0, cells := 0, slots := 0, locals := 0 } : Room) #[(.ref ro0), (.int 2)] h (fun v h' L => v = some (.int vi5) ∧ h' = h ∧ L = []) := by
  have hw := B.1
  refine Con.of (plainFor_of_name pn11) (Ls := #[vR ro0, vI 2]) (fun _ => rfl) ?_
  intro p e s m below meth c T0 X0 H hml hZ hown hnm hret hlk e0
  refine gAloadN X0 H d11_0 rfl rfl 1 rfl ?_
  refine gGetF X0 H hZ hown (hw _ wd13) Via.refl e0 q398 d11_1 4 rfl ?_
  intro T399 X399 e399
  refine gIloadN X399 H d11_4 rfl 5 rfl ?_
  refine gIaload X399 H hZ e399 q401 ⟨by decide, by decide⟩ (v := (.int vi5)) rfl d11_5 6 rfl ?_
  exact gRetI X399 H hlk hret d11_6 e399 ⟨rfl, rfl, rfl⟩
theorem rm425_3 (B : Bg Z a0 w_Trail_NO_ROOM k_w_Trail_NO_ROOM) (ro0 : Addr) (vi1 : Int32) (ro2 : Addr) (ck3 : ClassId) (vi4 vi5 : Int32) (h : Heap) (O : Ext Z.heap h) (q408 : Fld Z h ro0 cs0 "depth" "I" (.int 3)) (q410 : Fld Z h ro0 cs0 "entries" "[I" (.ref ro2)) (q413 : Arv Z h ro2 ck3 .int (16 : Int32) [(.int vi4), (.int vi1), (.int vi5), (.int 0), (.int 0), (.int 0), (.int 0), (.int 0), (.int 0), (.int 0), (.int 0), (.int 0), (.int 0), (.int 0), (.int 0), (.int 0)] (.int 0)) (q418 : Exa Z h ro0 cs0) (q419 : Z.heap.size ≤ ro0) (q422 : Fld Z h ro0 cs0 "unchanged" "B" (.int 0)) (hk407 : ¬ (vi1 = (-1 : Int32))) (hk414 : ¬ (vi5 = vi1)) :
    Con l Z yM3 prog_22_method_9_code 3 none ({ frames := 0, cells := 0, slots := 0, locals := 0 } : Room) #[(.ref ro0), (.int vi1)] h (fun v h' L => v = none ∧ Fr Z.heap.size L ∧ Keep h h' [ro0] ∧ Fld Z h' ro0 cs0 "depth" "I" (.int 2) ∧ Fld Z h' ro0 cs0 "entries" "[I" (.ref ro2) ∧ Exa Z h' ro0 cs0 ∧ Fld Z h' ro0 cs0 "unchanged" "B" (.int 0)) := by
  have hw := B.1
  refine Con.of (plainFor_of_name pn3) (Ls := #[vR ro0, vI vi1, .unset]) (fun _ => rfl) ?_
  intro p e s m below meth c T0 X0 H hml hZ hown hnm hret hlk e0
  have N0 := Fr.nil Z.heap.size
  refine gIloadN X0 H d3_0 rfl 1 rfl ?_
  refine gIconst X0 H d3_1 (z := (-1)) rfl 2 rfl ?_
  refine gCmpY X0 H d3_2 (feq hk407).2 (by decide) 11 rfl ?_
  refine gAloadN X0 H d3_11 rfl rfl 12 rfl ?_
  refine gGetF X0 H hZ hown (hw _ wd20) Via.refl e0 q408 d3_12 15 rfl ?_
  intro T409 X409 e409
  refine gIstoreN X409 H d3_15 (Ls' := #[vR ro0, vI vi1, vI 3]) rfl 16 rfl ?_
  refine gAloadN X409 H d3_16 rfl rfl 17 rfl ?_
  refine gGetF X409 H hZ hown (hw _ wd13) Via.refl e409 q410 d3_17 20 rfl ?_
  intro T411 X411 e411
  refine gIloadN X411 H d3_20 rfl 21 rfl ?_
  refine gIconst X411 H d3_21 (z := 1) rfl 22 rfl ?_
  refine g_isub X411 H d3_22 (z := 2) (by decide) 23 rfl ?_
  refine gIaload X411 H hZ e411 q413 ⟨by decide, by decide⟩ (v := (.int vi5)) rfl d3_23 24 rfl ?_
  refine gIloadN X411 H d3_24 rfl 25 rfl ?_
  refine gCmpN X411 H d3_25 (feq hk414).1 28 rfl ?_
  refine gIinc X411 H d3_28 rfl (Ls' := #[vR ro0, vI vi1, vI 2]) rfl 31 rfl ?_
  refine gGoto X411 H d3_31 (by decide) 16 rfl ?_
  refine gAloadN X411 H d3_16 rfl rfl 17 rfl ?_
  refine gGetF X411 H hZ hown (hw _ wd13) Via.refl e411 q410 d3_17 20 rfl ?_
  intro T415 X415 e415
  refine gIloadN X415 H d3_20 rfl 21 rfl ?_
  refine gIconst X415 H d3_21 (z := 1) rfl 22 rfl ?_
  refine g_isub X415 H d3_22 (z := 1) (by decide) 23 rfl ?_
  refine gIaload X415 H hZ e415 q413 ⟨by decide, by decide⟩ (v := (.int vi1)) rfl d3_23 24 rfl ?_
  refine gIloadN X415 H d3_24 rfl 25 rfl ?_
  refine gCmpY X415 H d3_25 (teq rfl).1 (by decide) 34 rfl ?_
  refine gAloadN X415 H d3_34 rfl rfl 35 rfl ?_
  refine gIloadN X415 H d3_35 rfl 36 rfl ?_
  refine gPutF X415 H hZ hown (hw _ wd20) Via.refl e415 q408 q418 (Or.inl (hw _ wd21)) (hw _ wd3) (ty := .int) (by decide) (v' := (.int 2)) rfl rfl d3_36 39 rfl ?_
  intro T417 h417 X417 e417 W417 F417
  have O417 := extW O W417 q419
  have N417 := Fr.snoc X417 N0 q419
  have c420 := (q410.other W417 (Or.inr (sn2 hw)))
  have c421 := (q418.wr W417)
  have c423 := (q422.other W417 (Or.inr (sn3 hw)))
  have K_424 := (Keep.refl h [ro0]).wr W417 (Or.inl (List.mem_of_getElem? (i := 0) rfl))
  exact gRetV X417 H hlk hret d3_39 e417 ⟨rfl, N417, K_424, F417, c420, c421, c423⟩
theorem rm453_3 (B : Bg Z a0 w_Trail_NO_ROOM k_w_Trail_NO_ROOM) (ro0 : Addr) (vi1 : Int32) (ro2 : Addr) (ck3 : ClassId) (vi4 vi5 : Int32) (h : Heap) (O : Ext Z.heap h) (q439 : Fld Z h ro0 cs0 "depth" "I" (.int 3)) (q441 : Fld Z h ro0 cs0 "entries" "[I" (.ref ro2)) (q444 : Arv Z h ro2 ck3 .int (16 : Int32) [(.int vi4), (.int vi5), (.int vi1), (.int 0), (.int 0), (.int 0), (.int 0), (.int 0), (.int 0), (.int 0), (.int 0), (.int 0), (.int 0), (.int 0), (.int 0), (.int 0)] (.int 0)) (q446 : Exa Z h ro0 cs0) (q447 : Z.heap.size ≤ ro0) (q450 : Fld Z h ro0 cs0 "unchanged" "B" (.int 0)) (hk438 : ¬ (vi1 = (-1 : Int32))) :
    Con l Z yM3 prog_22_method_9_code 3 none ({ frames := 0, cells := 0, slots := 0, locals := 0 } : Room) #[(.ref ro0), (.int vi1)] h (fun v h' L => v = none ∧ Fr Z.heap.size L ∧ Keep h h' [ro0] ∧ Fld Z h' ro0 cs0 "depth" "I" (.int 3) ∧ Fld Z h' ro0 cs0 "entries" "[I" (.ref ro2) ∧ Exa Z h' ro0 cs0 ∧ Fld Z h' ro0 cs0 "unchanged" "B" (.int 0)) := by
  have hw := B.1
  refine Con.of (plainFor_of_name pn3) (Ls := #[vR ro0, vI vi1, .unset]) (fun _ => rfl) ?_
  intro p e s m below meth c T0 X0 H hml hZ hown hnm hret hlk e0
  have N0 := Fr.nil Z.heap.size
  refine gIloadN X0 H d3_0 rfl 1 rfl ?_
  refine gIconst X0 H d3_1 (z := (-1)) rfl 2 rfl ?_
  refine gCmpY X0 H d3_2 (feq hk438).2 (by decide) 11 rfl ?_
  refine gAloadN X0 H d3_11 rfl rfl 12 rfl ?_
  refine gGetF X0 H hZ hown (hw _ wd20) Via.refl e0 q439 d3_12 15 rfl ?_
  intro T440 X440 e440
  refine gIstoreN X440 H d3_15 (Ls' := #[vR ro0, vI vi1, vI 3]) rfl 16 rfl ?_
  refine gAloadN X440 H d3_16 rfl rfl 17 rfl ?_
  refine gGetF X440 H hZ hown (hw _ wd13) Via.refl e440 q441 d3_17 20 rfl ?_
  intro T442 X442 e442
  refine gIloadN X442 H d3_20 rfl 21 rfl ?_
  refine gIconst X442 H d3_21 (z := 1) rfl 22 rfl ?_
  refine g_isub X442 H d3_22 (z := 2) (by decide) 23 rfl ?_
  refine gIaload X442 H hZ e442 q444 ⟨by decide, by decide⟩ (v := (.int vi1)) rfl d3_23 24 rfl ?_
  refine gIloadN X442 H d3_24 rfl 25 rfl ?_
  refine gCmpY X442 H d3_25 (teq rfl).1 (by decide) 34 rfl ?_
  refine gAloadN X442 H d3_34 rfl rfl 35 rfl ?_
  refine gIloadN X442 H d3_35 rfl 36 rfl ?_
  refine gPutF X442 H hZ hown (hw _ wd20) Via.refl e442 q439 q446 (Or.inl (hw _ wd21)) (hw _ wd3) (ty := .int) (by decide) (v' := (.int 3)) rfl rfl d3_36 39 rfl ?_
  intro T445 h445 X445 e445 W445 F445
  have O445 := extW O W445 q447
  have N445 := Fr.snoc X445 N0 q447
  have c448 := (q441.other W445 (Or.inr (sn2 hw)))
  have c449 := (q446.wr W445)
  have c451 := (q450.other W445 (Or.inr (sn3 hw)))
  have K_452 := (Keep.refl h [ro0]).wr W445 (Or.inl (List.mem_of_getElem? (i := 0) rfl))
  exact gRetV X445 H hlk hret d3_39 e445 ⟨rfl, N445, K_452, F445, c448, c449, c451⟩
theorem rm457_4 (B : Bg Z a0 w_Trail_NO_ROOM k_w_Trail_NO_ROOM) (ro0 : Addr) (h : Heap) (O : Ext Z.heap h) (q455 : Fld Z h ro0 cs0 "depth" "I" (.int 3)) :
    Con l Z yM4 prog_22_method_2_code 1 (some .int) ({ frames := 0, cells := 0, slots := 0, locals := 0 } : Room) #[(.ref ro0)] h (fun v h' L => v = some (.int 3) ∧ h' = h ∧ L = []) := by
  have hw := B.1
  refine Con.of (plainFor_of_name pn4) (Ls := #[vR ro0]) (fun _ => rfl) ?_
  intro p e s m below meth c T0 X0 H hml hZ hown hnm hret hlk e0
  refine gAloadN X0 H d4_0 rfl rfl 1 rfl ?_
  refine gGetF X0 H hZ hown (hw _ wd20) Via.refl e0 q455 d4_1 4 rfl ?_
  intro T456 X456 e456
  exact gRetI X456 H hlk hret d4_4 e456 ⟨rfl, rfl, rfl⟩
theorem rm477_3 (B : Bg Z a0 w_Trail_NO_ROOM k_w_Trail_NO_ROOM) (ro0 ro1 : Addr) (h : Heap) (O : Ext Z.heap h) (q468 : Exa Z h ro0 cs0) (q469 : Fld Z h ro0 cs0 "depth" "I" (.int 3)) (q470 : Z.heap.size ≤ ro0) (q472 : Fld Z h ro0 cs0 "entries" "[I" (.ref ro1)) (q474 : Fld Z h ro0 cs0 "unchanged" "B" (.int 0)) :
    Con l Z yM3 prog_22_method_9_code 3 none ({ frames := 0, cells := 0, slots := 0, locals := 0 } : Room) #[(.ref ro0), (.int (-1))] h (fun v h' L => v = none ∧ Fr Z.heap.size L ∧ Keep h h' [ro0] ∧ Exa Z h' ro0 cs0 ∧ Fld Z h' ro0 cs0 "depth" "I" (.int 0) ∧ Fld Z h' ro0 cs0 "entries" "[I" (.ref ro1) ∧ Fld Z h' ro0 cs0 "unchanged" "B" (.int 0)) := by
  have hw := B.1
  refine Con.of (plainFor_of_name pn3) (Ls := #[vR ro0, vI (-1), .unset]) (fun _ => rfl) ?_
  intro p e s m below meth c T0 X0 H hml hZ hown hnm hret hlk e0
  have N0 := Fr.nil Z.heap.size
  refine gIloadN X0 H d3_0 rfl 1 rfl ?_
  refine gIconst X0 H d3_1 (z := (-1)) rfl 2 rfl ?_
  refine gCmpN X0 H d3_2 (by decide) 5 rfl ?_
  refine gAloadN X0 H d3_5 rfl rfl 6 rfl ?_
  refine gIconst X0 H d3_6 (z := 0) rfl 7 rfl ?_
  refine gPutF X0 H hZ hown (hw _ wd20) Via.refl e0 q469 q468 (Or.inl (hw _ wd21)) (hw _ wd3) (ty := .int) (by decide) (v' := (.int 0)) rfl rfl d3_7 10 rfl ?_
  intro T467 h467 X467 e467 W467 F467
  have O467 := extW O W467 q470
  have N467 := Fr.snoc X467 N0 q470
  have c471 := (q468.wr W467)
  have c473 := (q472.other W467 (Or.inr (sn2 hw)))
  have c475 := (q474.other W467 (Or.inr (sn3 hw)))
  have K_476 := (Keep.refl h [ro0]).wr W467 (Or.inl (List.mem_of_getElem? (i := 0) rfl))
  exact gRetV X467 H hlk hret d3_10 e467 ⟨rfl, N467, K_476, c471, F467, c473, c475⟩
theorem lawAll_3 (B : Bg Z a0 w_Trail_NO_ROOM k_w_Trail_NO_ROOM) (p0 : Int32) (p1 : Int32) (p2 : Int32) (p3 : Int32) (p4 : Int32) (p5 : Int32) (ha0 : ((p0 &&& (7 : Int32)) % (5 : Int32)) = (3 : Int32)) :
    Con l Z x code maxLocals ret room_1 #[(.int p0), (.int p1), (.int p2), (.int p3), (.int p4), (.int p5)] Z.heap (fun v h' L => v = some (.int 1) ∧ Fr Z.heap.size L) := by
  have hw := B.1
  obtain ⟨S_w_Trail_NO_ROOM, V_w_Trail_NO_ROOM⟩ := B.2
  refine Con.of (plainFor_of_name pn0) (Ls := #[vI p0, vI p1, vI p2, vI p3, vI p4, vI p5, .unset, .unset, .unset, .unset, .unset, .unset]) (fun _ => rfl) ?_
  intro p e s m below meth c T0 X0 H hml hZ hown hnm hret hlk e0
  have O0 := extR Z.heap
  have M0 := Nat.le_refl Z.heap.size
  have N0 := Fr.nil Z.heap.size
  refine gIloadN X0 H at_0 rfl 1 rfl ?_
  refine gBipush X0 H at_1 (z := 7) rfl 3 rfl ?_
  refine g_iand X0 H at_3 (z := (p0 &&& (7 : Int32))) rfl 4 rfl ?_
  refine gIconst X0 H at_4 (z := 5) rfl 5 rfl ?_
  refine g_irem X0 H at_5 (by decide) (z := 3) ha0 6 rfl ?_
  refine gIstore X0 H at_6 (Ls' := #[vI p0, vI p1, vI p2, vI p3, vI p4, vI p5, vI 3, .unset, .unset, .unset, .unset, .unset]) rfl 8 rfl ?_
  refine gIconst X0 H at_8 (z := 4) rfl 9 rfl ?_
  refine gNewP X0 H hZ (aty := .int) (hw _ wd0) e0 (by decide) (cap := 4) (by decide) (by decide) (vs := [(.int 0), (.int 0), (.int 0), (.int 0)]) rfl (by decide) (by decide) at_9 11 rfl ?_
  intro T297 h297 b297 k297 X297 e297 z297 E297 V297
  have G_b297 := Nat.le_trans O0.1 (Nat.le_of_eq z297)
  have sz_b297 := Nat.le_trans M0 (Nat.le_of_eq z297)
  have O297 := extT O0 E297
  refine gDup X297 H at_11 rfl 12 rfl ?_
  refine gIconst X297 H at_12 (z := 0) rfl 13 rfl ?_
  refine gIloadN X297 H at_13 rfl 14 rfl ?_
  refine gLdc X297 H hZ hown (hw _ wd1) at_14 16 rfl ?_
  refine g_iand X297 H at_16 (z := (p1 &&& (2147483647 : Int32))) rfl 17 rfl ?_
  refine gIastore X297 H hZ e297 V297 ⟨by decide, by decide⟩ (i := 0) rfl (Nat.le_of_ble_eq_true rfl) (vs' := [(.int (p1 &&& (2147483647 : Int32))), (.int 0), (.int 0), (.int 0)]) rfl at_17 18 rfl ?_
  intro T298 h298 X298 e298 W298 V298
  have O298 := extW O297 W298 G_b297
  have N298 := Fr.snoc X298 N0 G_b297
  refine gDup X298 H at_18 rfl 19 rfl ?_
  refine gIconst X298 H at_19 (z := 1) rfl 20 rfl ?_
  refine gIloadN X298 H at_20 rfl 21 rfl ?_
  refine gLdc X298 H hZ hown (hw _ wd1) at_21 23 rfl ?_
  refine g_iand X298 H at_23 (z := (p2 &&& (2147483647 : Int32))) rfl 24 rfl ?_
  refine gIastore X298 H hZ e298 V298 ⟨by decide, by decide⟩ (i := 1) rfl (Nat.le_of_ble_eq_true rfl) (vs' := [(.int (p1 &&& (2147483647 : Int32))), (.int (p2 &&& (2147483647 : Int32))), (.int 0), (.int 0)]) rfl at_24 25 rfl ?_
  intro T299 h299 X299 e299 W299 V299
  have O299 := extW O298 W299 G_b297
  have N299 := Fr.snoc X299 N298 G_b297
  refine gDup X299 H at_25 rfl 26 rfl ?_
  refine gIconst X299 H at_26 (z := 2) rfl 27 rfl ?_
  refine gIloadN X299 H at_27 rfl 28 rfl ?_
  refine gLdc X299 H hZ hown (hw _ wd1) at_28 30 rfl ?_
  refine g_iand X299 H at_30 (z := (p3 &&& (2147483647 : Int32))) rfl 31 rfl ?_
  refine gIastore X299 H hZ e299 V299 ⟨by decide, by decide⟩ (i := 2) rfl (Nat.le_of_ble_eq_true rfl) (vs' := [(.int (p1 &&& (2147483647 : Int32))), (.int (p2 &&& (2147483647 : Int32))), (.int (p3 &&& (2147483647 : Int32))), (.int 0)]) rfl at_31 32 rfl ?_
  intro T300 h300 X300 e300 W300 V300
  have O300 := extW O299 W300 G_b297
  have N300 := Fr.snoc X300 N299 G_b297
  refine gDup X300 H at_32 rfl 33 rfl ?_
  refine gIconst X300 H at_33 (z := 3) rfl 34 rfl ?_
  refine gIload X300 H at_34 rfl 36 rfl ?_
  refine gLdc X300 H hZ hown (hw _ wd1) at_36 38 rfl ?_
  refine g_iand X300 H at_38 (z := (p4 &&& (2147483647 : Int32))) rfl 39 rfl ?_
  refine gIastore X300 H hZ e300 V300 ⟨by decide, by decide⟩ (i := 3) rfl (Nat.le_of_ble_eq_true rfl) (vs' := [(.int (p1 &&& (2147483647 : Int32))), (.int (p2 &&& (2147483647 : Int32))), (.int (p3 &&& (2147483647 : Int32))), (.int (p4 &&& (2147483647 : Int32)))]) rfl at_39 40 rfl ?_
  intro T301 h301 X301 e301 W301 V301
  have O301 := extW O300 W301 G_b297
  have N301 := Fr.snoc X301 N300 G_b297
  refine gAstore X301 H at_40 rfl (Ls' := #[vI p0, vI p1, vI p2, vI p3, vI p4, vI p5, vI 3, vR b297, .unset, .unset, .unset, .unset]) rfl 42 rfl ?_
  refine gIload X301 H at_42 rfl 44 rfl ?_
  refine gIconst X301 H at_44 (z := 2) rfl 45 rfl ?_
  refine gCmpN X301 H at_45 (by decide) 48 rfl ?_
  refine gAload X301 H at_48 rfl rfl 50 rfl ?_
  refine gIconst X301 H at_50 (z := 0) rfl 51 rfl ?_
  refine gIaload X301 H hZ e301 V301 ⟨by decide, by decide⟩ (v := (.int (p1 &&& (2147483647 : Int32)))) rfl at_51 52 rfl ?_
  refine gAload X301 H at_52 rfl rfl 54 rfl ?_
  refine gIconst X301 H at_54 (z := 1) rfl 55 rfl ?_
  refine gIaload X301 H hZ e301 V301 ⟨by decide, by decide⟩ (v := (.int (p2 &&& (2147483647 : Int32)))) rfl at_55 56 rfl ?_
  by_cases hc304 : (p1 &&& (2147483647 : Int32)) = (p2 &&& (2147483647 : Int32))
  · refine gCmpN X301 H at_56 (teq hc304).2 59 rfl ?_
    refine gIconst X301 H at_59 (z := 1) rfl 60 rfl ?_
    exact gRetN X301 H hlk hret (t := .boolean) (by simp) at_60 e301 ⟨rfl, N301⟩
  · refine gCmpY X301 H at_56 (feq hc304).2 (by decide) 61 rfl ?_
    refine gIload X301 H at_61 rfl 63 rfl ?_
    refine gIconst X301 H at_63 (z := 3) rfl 64 rfl ?_
    refine gCmpN X301 H at_64 (by decide) 67 rfl ?_
    refine gAload X301 H at_67 rfl rfl 69 rfl ?_
    refine gIconst X301 H at_69 (z := 0) rfl 70 rfl ?_
    refine gIaload X301 H hZ e301 V301 ⟨by decide, by decide⟩ (v := (.int (p1 &&& (2147483647 : Int32)))) rfl at_70 71 rfl ?_
    refine gAload X301 H at_71 rfl rfl 73 rfl ?_
    refine gIconst X301 H at_73 (z := 2) rfl 74 rfl ?_
    refine gIaload X301 H hZ e301 V301 ⟨by decide, by decide⟩ (v := (.int (p3 &&& (2147483647 : Int32)))) rfl at_74 75 rfl ?_
    by_cases hc307 : (p1 &&& (2147483647 : Int32)) = (p3 &&& (2147483647 : Int32))
    · refine gCmpY X301 H at_75 (teq hc307).1 (by decide) 89 rfl ?_
      refine gIconst X301 H at_89 (z := 1) rfl 90 rfl ?_
      exact gRetN X301 H hlk hret (t := .boolean) (by simp) at_90 e301 ⟨rfl, N301⟩
    · refine gCmpN X301 H at_75 (feq hc307).1 78 rfl ?_
      refine gAload X301 H at_78 rfl rfl 80 rfl ?_
      refine gIconst X301 H at_80 (z := 1) rfl 81 rfl ?_
      refine gIaload X301 H hZ e301 V301 ⟨by decide, by decide⟩ (v := (.int (p2 &&& (2147483647 : Int32)))) rfl at_81 82 rfl ?_
      refine gAload X301 H at_82 rfl rfl 84 rfl ?_
      refine gIconst X301 H at_84 (z := 2) rfl 85 rfl ?_
      refine gIaload X301 H hZ e301 V301 ⟨by decide, by decide⟩ (v := (.int (p3 &&& (2147483647 : Int32)))) rfl at_85 86 rfl ?_
      by_cases hc310 : (p2 &&& (2147483647 : Int32)) = (p3 &&& (2147483647 : Int32))
      · refine gCmpN X301 H at_86 (teq hc310).2 89 rfl ?_
        refine gIconst X301 H at_89 (z := 1) rfl 90 rfl ?_
        exact gRetN X301 H hlk hret (t := .boolean) (by simp) at_90 e301 ⟨rfl, N301⟩
      · refine gCmpY X301 H at_86 (feq hc310).2 (by decide) 91 rfl ?_
        refine gIload X301 H at_91 rfl 93 rfl ?_
        refine gIconst X301 H at_93 (z := 4) rfl 94 rfl ?_
        refine gCmpY X301 H at_94 (by decide) (by decide) 132 rfl ?_
        refine gNew X301 H hZ hown (hw _ wd2) (hw _ wd3) (hw _ wd4) e301 (by decide) (by decide) at_132 135 rfl ?_
        intro T311 h311 b311 X311 e311 z311 E311 A311 D311
        have M312 := (leW (leW (leW (leW (Nat.le_trans M0 E297.1) W298) W299) W300) W301)
        have G_b311 := Nat.le_trans O301.1 (Nat.le_of_eq z311)
        have sz_b311 := Nat.le_trans M312 (Nat.le_of_eq z311)
        have ne_b297_b311 : b297 ≠ b311 := neB V301.lt (Nat.le_of_eq z311)
        have O311 := extT O301 E311
        have F311_entries : Fld Z h311 b311 cs0 "entries" "[I" .null := D311 (Or.inl (hw _ wd14)) (ty := (.array .int)) (by decide)
        have F311_depth : Fld Z h311 b311 cs0 "depth" "I" (.int 0) := D311 (Or.inl (hw _ wd21)) (ty := .int) (by decide)
        have F311_unchanged : Fld Z h311 b311 cs0 "unchanged" "B" (.int 0) := D311 (Or.inl (hw _ wd56)) (ty := .byte) (by decide)
        refine gDup X311 H at_135 rfl 136 rfl ?_
        refine gSpecial X311 H hZ hown rfl rfl (hw _ wd5) (hw _ wd6) (by decide) (hw _ wd7) (hw _ wd4) (rm20_1 B b311 _ O311 A311 F311_entries G_b311 F311_depth F311_unchanged) e311 hml rfl pd0 rfl (W := 1) (argsL := []) (rest := [(.ref b311)]) rfl rfl at_136 139 rfl ?_
        intro v313 T313 L313 hq313 X313
        obtain ⟨rfl, N313q, K313, f313_0, f313_1, f313_2, f313_3⟩ := hq313
        have O313 := extK O311 K313 (allS G_b311 all0)
        have N313 := Fr.app N301 N313q
        show Go _ _ _ _ (State.setTop _ (mkF _ 139 _ [(.ref b311)]))
        refine gAstore X313 H at_139 rfl (Ls' := #[vI p0, vI p1, vI p2, vI p3, vI p4, vI p5, vI 3, vR b297, vR b311, .unset, .unset, .unset]) rfl 141 rfl ?_
        refine gIload X313 H at_141 rfl 143 rfl ?_
        refine gIconst X313 H at_143 (z := 1) rfl 144 rfl ?_
        refine gCmpN X313 H at_144 (by decide) 147 rfl ?_
        refine gAload X313 H at_147 rfl rfl 149 rfl ?_
        refine gAload X313 H at_149 rfl rfl 151 rfl ?_
        refine gIconst X313 H at_151 (z := 0) rfl 152 rfl ?_
        have c315 := ((V301.ext E311).keep K313 (ninS ne_b297_b311 nin0))
        refine gIaload X313 H hZ rfl c315 ⟨by decide, by decide⟩ (v := (.int (p1 &&& (2147483647 : Int32)))) rfl at_152 153 rfl ?_
        refine gVirt X313 H hZ hown (hw _ wd27) (hw _ wd28) (hw _ wd30) (hw _ wd29) (by decide) f313_0 (hw _ wd31) (hw _ wd4) (rm107_5 B b311 ((p1 &&& (2147483647 : Int32))) _ O313 f313_2 f313_1 f313_0 G_b311 f313_3) rfl hml rfl pd1 rfl (W := 0) (argsL := [(.int (p1 &&& (2147483647 : Int32)))]) (rest := []) rfl rfl at_153 156 rfl ?_
        intro v316 T316 L316 hq316 X316
        obtain ⟨b316_0, k316_0, rfl, N316q, K316, s316_0, f316_0, f316_1, f316_2, f316_3, f316_4⟩ := hq316
        have M317 := (Nat.le_trans (Nat.le_trans M312 E311.1) K313.1)
        have G_b316_0 := Nat.le_trans O313.1 s316_0
        have sz_b316_0 := Nat.le_trans M317 s316_0
        have ne_b297_b316_0 : b297 ≠ b316_0 := neB c315.lt s316_0
        have ne_b311_b316_0 : b311 ≠ b316_0 := neB f313_0.lt s316_0
        have O316 := extK O313 K316 (allS G_b311 all0)
        have N316 := Fr.app N313 N316q
        show Go _ _ _ _ (State.setTop _ (mkF _ 156 _ []))
        refine gIload X316 H at_156 rfl 158 rfl ?_
        refine gIconst X316 H at_158 (z := 2) rfl 159 rfl ?_
        refine gCmpN X316 H at_159 (by decide) 162 rfl ?_
        refine gAload X316 H at_162 rfl rfl 164 rfl ?_
        refine gAload X316 H at_164 rfl rfl 166 rfl ?_
        refine gIconst X316 H at_166 (z := 1) rfl 167 rfl ?_
        have c319 := (c315.keep K316 (ninS ne_b297_b311 nin0))
        refine gIaload X316 H hZ rfl c319 ⟨by decide, by decide⟩ (v := (.int (p2 &&& (2147483647 : Int32)))) rfl at_167 168 rfl ?_
        refine gVirt X316 H hZ hown (hw _ wd27) (hw _ wd28) (hw _ wd30) (hw _ wd29) (by decide) f316_2 (hw _ wd31) (hw _ wd4) (rm207_5 B b311 ((p2 &&& (2147483647 : Int32))) b316_0 k316_0 ((p1 &&& (2147483647 : Int32))) _ O316 f316_0 f316_1 (Arv.arl f316_4) f316_2 f316_3 f316_4 G_b316_0 ne_b311_b316_0 G_b311) rfl hml rfl pd1 rfl (W := 0) (argsL := [(.int (p2 &&& (2147483647 : Int32)))]) (rest := []) rfl rfl at_168 171 rfl ?_
        intro v320 T320 L320 hq320 X320
        obtain ⟨rfl, N320q, K320, f320_0, f320_1, f320_2, f320_3, f320_4⟩ := hq320
        have O320 := extK O316 K320 (allS G_b316_0 (allS G_b311 all0))
        have N320 := Fr.app N316 N320q
        show Go _ _ _ _ (State.setTop _ (mkF _ 171 _ []))
        refine gIload X320 H at_171 rfl 173 rfl ?_
        refine gIconst X320 H at_173 (z := 3) rfl 174 rfl ?_
        refine gCmpN X320 H at_174 (by decide) 177 rfl ?_
        refine gAload X320 H at_177 rfl rfl 179 rfl ?_
        refine gAload X320 H at_179 rfl rfl 181 rfl ?_
        refine gIconst X320 H at_181 (z := 2) rfl 182 rfl ?_
        have c322 := (c319.keep K320 (ninS ne_b297_b316_0 (ninS ne_b297_b311 nin0)))
        refine gIaload X320 H hZ rfl c322 ⟨by decide, by decide⟩ (v := (.int (p3 &&& (2147483647 : Int32)))) rfl at_182 183 rfl ?_
        refine gVirt X320 H hZ hown (hw _ wd27) (hw _ wd28) (hw _ wd30) (hw _ wd29) (by decide) f320_2 (hw _ wd31) (hw _ wd4) (rm353_5 B b311 ((p3 &&& (2147483647 : Int32))) b316_0 k316_0 ((p1 &&& (2147483647 : Int32))) ((p2 &&& (2147483647 : Int32))) _ O320 f320_0 f320_1 (Arv.arl f320_4) f320_2 f320_3 f320_4 G_b316_0 ne_b311_b316_0 G_b311) rfl hml rfl pd1 rfl (W := 0) (argsL := [(.int (p3 &&& (2147483647 : Int32)))]) (rest := []) rfl rfl at_183 186 rfl ?_
        intro v354 T354 L354 hq354 X354
        obtain ⟨rfl, N354q, K354, f354_0, f354_1, f354_2, f354_3, f354_4⟩ := hq354
        have O354 := extK O320 K354 (allS G_b316_0 (allS G_b311 all0))
        have N354 := Fr.app N320 N354q
        show Go _ _ _ _ (State.setTop _ (mkF _ 186 _ []))
        refine gIload X354 H at_186 rfl 188 rfl ?_
        refine gIconst X354 H at_188 (z := 4) rfl 189 rfl ?_
        refine gCmpY X354 H at_189 (by decide) (by decide) 201 rfl ?_
        refine gIload X354 H at_201 rfl 203 rfl ?_
        refine gLdc X354 H hZ hown (hw _ wd1) at_203 205 rfl ?_
        refine g_iand X354 H at_205 (z := (p5 &&& (2147483647 : Int32))) rfl 206 rfl ?_
        refine gIload X354 H at_206 rfl 208 rfl ?_
        refine gIconst X354 H at_208 (z := 1) rfl 209 rfl ?_
        refine g_iadd X354 H at_209 (z := 4) (by decide) 210 rfl ?_
        rcases mod_4 p5 with hn355 | hn355 | hn355 | hn355
        · refine g_irem X354 H at_210 (by decide) (z := 0) hn355 211 rfl ?_
          refine gIstore X354 H at_211 (Ls' := #[vI p0, vI p1, vI p2, vI p3, vI p4, vI p5, vI 3, vR b297, vR b311, vI 0, .unset, .unset]) rfl 213 rfl ?_
          refine gIload X354 H at_213 rfl 215 rfl ?_
          refine gIload X354 H at_215 rfl 217 rfl ?_
          refine gCmpY X354 H at_217 (by decide) (by decide) 229 rfl ?_
          refine gAload X354 H at_229 rfl rfl 231 rfl ?_
          refine gIload X354 H at_231 rfl 233 rfl ?_
          have c357 := (c322.keep K354 (ninS ne_b297_b316_0 (ninS ne_b297_b311 nin0)))
          refine gIaload X354 H hZ rfl c357 ⟨by decide, by decide⟩ (v := (.int (p1 &&& (2147483647 : Int32)))) rfl at_233 234 rfl ?_
          refine gIstore X354 H at_234 (Ls' := #[vI p0, vI p1, vI p2, vI p3, vI p4, vI p5, vI 3, vR b297, vR b311, vI 0, vI (p1 &&& (2147483647 : Int32)), .unset]) rfl 236 rfl ?_
          refine gIload X354 H at_236 rfl 238 rfl ?_
          refine gIconst X354 H at_238 (z := 1) rfl 239 rfl ?_
          refine g_iadd X354 H at_239 (z := 1) (by decide) 240 rfl ?_
          refine gIstore X354 H at_240 (Ls' := #[vI p0, vI p1, vI p2, vI p3, vI p4, vI p5, vI 3, vR b297, vR b311, vI 0, vI (p1 &&& (2147483647 : Int32)), vI 1]) rfl 242 rfl ?_
          refine gAload X354 H at_242 rfl rfl 244 rfl ?_
          refine gIload X354 H at_244 rfl 246 rfl ?_
          refine gVirt X354 H hZ hown (hw _ wd15) (hw _ wd16) (hw _ wd18) (hw _ wd17) (by decide) f354_2 (hw _ wd19) (hw _ wd4) (rm379_3 B b311 ((p1 &&& (2147483647 : Int32))) b316_0 k316_0 ((p2 &&& (2147483647 : Int32))) ((p3 &&& (2147483647 : Int32))) _ O354 f354_0 f354_1 f354_4 f354_2 G_b311 f354_3 (mask_ne p1) (Ne.symm hc307) (Ne.symm hc304)) rfl hml rfl pd1 rfl (W := 0) (argsL := [(.int (p1 &&& (2147483647 : Int32)))]) (rest := []) rfl rfl at_246 249 rfl ?_
          intro v380 T380 L380 hq380 X380
          obtain ⟨rfl, N380q, K380, f380_0, f380_1, f380_2, f380_3⟩ := hq380
          have O380 := extK O354 K380 (allS G_b311 all0)
          have N380 := Fr.app N354 N380q
          show Go _ _ _ _ (State.setTop _ (mkF _ 249 _ []))
          refine gAload X380 H at_249 rfl rfl 251 rfl ?_
          refine gVirt X380 H hZ hown (hw _ wd22) (hw _ wd23) (hw _ wd25) (hw _ wd24) (by decide) f380_2 (hw _ wd26) (hw _ wd4) (rm132_4 B b311 _ O380 f380_0) rfl hml rfl pd2 rfl (W := 0) (argsL := []) (rest := []) rfl rfl at_251 254 rfl ?_
          intro v381 T381 L381 hq381 X381
          obtain ⟨rfl, e381, rfl⟩ := hq381
          have N381 := Fr.app N380 (Fr.nil _)
          show Go _ _ _ _ (State.setTop _ (mkF _ 254 _ [(.int 1)]))
          refine gIload X381 H at_254 rfl 256 rfl ?_
          refine gCmpY X381 H at_256 (by decide) (by decide) 261 rfl ?_
          refine gIload X381 H at_261 rfl 263 rfl ?_
          refine gIconst X381 H at_263 (z := 1) rfl 264 rfl ?_
          refine gCmpN X381 H at_264 (by decide) 267 rfl ?_
          refine gAload X381 H at_267 rfl rfl 269 rfl ?_
          refine gIconst X381 H at_269 (z := 0) rfl 270 rfl ?_
          have c387 := (f354_4.keep K380 (ninS (Ne.symm ne_b311_b316_0) nin0))
          refine gVirt X381 H hZ hown (hw _ wd57) (hw _ wd58) (hw _ wd60) (hw _ wd59) (by decide) f380_2 (hw _ wd61) (hw _ wd4) (rm386_11 B b311 b316_0 k316_0 ((p1 &&& (2147483647 : Int32))) ((p2 &&& (2147483647 : Int32))) ((p3 &&& (2147483647 : Int32))) _ O380 f380_1 c387) e381 hml rfl pd5 rfl (W := 0) (argsL := [(.int 0)]) (rest := []) rfl rfl at_270 273 rfl ?_
          intro v388 T388 L388 hq388 X388
          obtain ⟨rfl, e388, rfl⟩ := hq388
          have N388 := Fr.app N381 (Fr.nil _)
          show Go _ _ _ _ (State.setTop _ (mkF _ 273 _ [(.int (p1 &&& (2147483647 : Int32)))]))
          refine gAload X388 H at_273 rfl rfl 275 rfl ?_
          refine gIconst X388 H at_275 (z := 0) rfl 276 rfl ?_
          have c390 := (c357.keep K380 (ninS ne_b297_b311 nin0))
          refine gIaload X388 H hZ e388 c390 ⟨by decide, by decide⟩ (v := (.int (p1 &&& (2147483647 : Int32)))) rfl at_276 277 rfl ?_
          refine gCmpY X388 H at_277 (teq rfl).1 (by decide) 282 rfl ?_
          refine gIload X388 H at_282 rfl 284 rfl ?_
          refine gIconst X388 H at_284 (z := 2) rfl 285 rfl ?_
          refine gCmpN X388 H at_285 (by decide) 288 rfl ?_
          refine gAload X388 H at_288 rfl rfl 290 rfl ?_
          refine gIconst X388 H at_290 (z := 1) rfl 291 rfl ?_
          refine gVirt X388 H hZ hown (hw _ wd57) (hw _ wd58) (hw _ wd60) (hw _ wd59) (by decide) f380_2 (hw _ wd61) (hw _ wd4) (rm395_11 B b311 b316_0 k316_0 ((p1 &&& (2147483647 : Int32))) ((p2 &&& (2147483647 : Int32))) ((p3 &&& (2147483647 : Int32))) _ O380 f380_1 c387) e388 hml rfl pd5 rfl (W := 0) (argsL := [(.int 1)]) (rest := []) rfl rfl at_291 294 rfl ?_
          intro v396 T396 L396 hq396 X396
          obtain ⟨rfl, e396, rfl⟩ := hq396
          have N396 := Fr.app N388 (Fr.nil _)
          show Go _ _ _ _ (State.setTop _ (mkF _ 294 _ [(.int (p2 &&& (2147483647 : Int32)))]))
          refine gAload X396 H at_294 rfl rfl 296 rfl ?_
          refine gIconst X396 H at_296 (z := 1) rfl 297 rfl ?_
          refine gIaload X396 H hZ e396 c390 ⟨by decide, by decide⟩ (v := (.int (p2 &&& (2147483647 : Int32)))) rfl at_297 298 rfl ?_
          refine gCmpY X396 H at_298 (teq rfl).1 (by decide) 303 rfl ?_
          refine gIload X396 H at_303 rfl 305 rfl ?_
          refine gIconst X396 H at_305 (z := 3) rfl 306 rfl ?_
          refine gCmpN X396 H at_306 (by decide) 309 rfl ?_
          refine gAload X396 H at_309 rfl rfl 311 rfl ?_
          refine gIconst X396 H at_311 (z := 2) rfl 312 rfl ?_
          refine gVirt X396 H hZ hown (hw _ wd57) (hw _ wd58) (hw _ wd60) (hw _ wd59) (by decide) f380_2 (hw _ wd61) (hw _ wd4) (rm402_11 B b311 b316_0 k316_0 ((p1 &&& (2147483647 : Int32))) ((p2 &&& (2147483647 : Int32))) ((p3 &&& (2147483647 : Int32))) _ O380 f380_1 c387) e396 hml rfl pd5 rfl (W := 0) (argsL := [(.int 2)]) (rest := []) rfl rfl at_312 315 rfl ?_
          intro v403 T403 L403 hq403 X403
          obtain ⟨rfl, e403, rfl⟩ := hq403
          have N403 := Fr.app N396 (Fr.nil _)
          show Go _ _ _ _ (State.setTop _ (mkF _ 315 _ [(.int (p3 &&& (2147483647 : Int32)))]))
          refine gAload X403 H at_315 rfl rfl 317 rfl ?_
          refine gIconst X403 H at_317 (z := 2) rfl 318 rfl ?_
          refine gIaload X403 H hZ e403 c390 ⟨by decide, by decide⟩ (v := (.int (p3 &&& (2147483647 : Int32)))) rfl at_318 319 rfl ?_
          refine gCmpY X403 H at_319 (teq rfl).1 (by decide) 324 rfl ?_
          refine gIload X403 H at_324 rfl 326 rfl ?_
          refine gIconst X403 H at_326 (z := 4) rfl 327 rfl ?_
          refine gCmpY X403 H at_327 (by decide) (by decide) 345 rfl ?_
          refine gIconst X403 H at_345 (z := 1) rfl 346 rfl ?_
          exact gRetN X403 H hlk hret (t := .boolean) (by simp) at_346 e403 ⟨rfl, N403⟩
        · refine g_irem X354 H at_210 (by decide) (z := 1) hn355 211 rfl ?_
          refine gIstore X354 H at_211 (Ls' := #[vI p0, vI p1, vI p2, vI p3, vI p4, vI p5, vI 3, vR b297, vR b311, vI 1, .unset, .unset]) rfl 213 rfl ?_
          refine gIload X354 H at_213 rfl 215 rfl ?_
          refine gIload X354 H at_215 rfl 217 rfl ?_
          refine gCmpY X354 H at_217 (by decide) (by decide) 229 rfl ?_
          refine gAload X354 H at_229 rfl rfl 231 rfl ?_
          refine gIload X354 H at_231 rfl 233 rfl ?_
          have c406 := (c322.keep K354 (ninS ne_b297_b316_0 (ninS ne_b297_b311 nin0)))
          refine gIaload X354 H hZ rfl c406 ⟨by decide, by decide⟩ (v := (.int (p2 &&& (2147483647 : Int32)))) rfl at_233 234 rfl ?_
          refine gIstore X354 H at_234 (Ls' := #[vI p0, vI p1, vI p2, vI p3, vI p4, vI p5, vI 3, vR b297, vR b311, vI 1, vI (p2 &&& (2147483647 : Int32)), .unset]) rfl 236 rfl ?_
          refine gIload X354 H at_236 rfl 238 rfl ?_
          refine gIconst X354 H at_238 (z := 1) rfl 239 rfl ?_
          refine g_iadd X354 H at_239 (z := 2) (by decide) 240 rfl ?_
          refine gIstore X354 H at_240 (Ls' := #[vI p0, vI p1, vI p2, vI p3, vI p4, vI p5, vI 3, vR b297, vR b311, vI 1, vI (p2 &&& (2147483647 : Int32)), vI 2]) rfl 242 rfl ?_
          refine gAload X354 H at_242 rfl rfl 244 rfl ?_
          refine gIload X354 H at_244 rfl 246 rfl ?_
          refine gVirt X354 H hZ hown (hw _ wd15) (hw _ wd16) (hw _ wd18) (hw _ wd17) (by decide) f354_2 (hw _ wd19) (hw _ wd4) (rm425_3 B b311 ((p2 &&& (2147483647 : Int32))) b316_0 k316_0 ((p1 &&& (2147483647 : Int32))) ((p3 &&& (2147483647 : Int32))) _ O354 f354_0 f354_1 f354_4 f354_2 G_b311 f354_3 (mask_ne p2) (Ne.symm hc310)) rfl hml rfl pd1 rfl (W := 0) (argsL := [(.int (p2 &&& (2147483647 : Int32)))]) (rest := []) rfl rfl at_246 249 rfl ?_
          intro v426 T426 L426 hq426 X426
          obtain ⟨rfl, N426q, K426, f426_0, f426_1, f426_2, f426_3⟩ := hq426
          have O426 := extK O354 K426 (allS G_b311 all0)
          have N426 := Fr.app N354 N426q
          show Go _ _ _ _ (State.setTop _ (mkF _ 249 _ []))
          refine gAload X426 H at_249 rfl rfl 251 rfl ?_
          refine gVirt X426 H hZ hown (hw _ wd22) (hw _ wd23) (hw _ wd25) (hw _ wd24) (by decide) f426_2 (hw _ wd26) (hw _ wd4) (rm270_4 B b311 _ O426 f426_0) rfl hml rfl pd2 rfl (W := 0) (argsL := []) (rest := []) rfl rfl at_251 254 rfl ?_
          intro v427 T427 L427 hq427 X427
          obtain ⟨rfl, e427, rfl⟩ := hq427
          have N427 := Fr.app N426 (Fr.nil _)
          show Go _ _ _ _ (State.setTop _ (mkF _ 254 _ [(.int 2)]))
          refine gIload X427 H at_254 rfl 256 rfl ?_
          refine gCmpY X427 H at_256 (by decide) (by decide) 261 rfl ?_
          refine gIload X427 H at_261 rfl 263 rfl ?_
          refine gIconst X427 H at_263 (z := 1) rfl 264 rfl ?_
          refine gCmpN X427 H at_264 (by decide) 267 rfl ?_
          refine gAload X427 H at_267 rfl rfl 269 rfl ?_
          refine gIconst X427 H at_269 (z := 0) rfl 270 rfl ?_
          have c428 := (f354_4.keep K426 (ninS (Ne.symm ne_b311_b316_0) nin0))
          refine gVirt X427 H hZ hown (hw _ wd57) (hw _ wd58) (hw _ wd60) (hw _ wd59) (by decide) f426_2 (hw _ wd61) (hw _ wd4) (rm386_11 B b311 b316_0 k316_0 ((p1 &&& (2147483647 : Int32))) ((p2 &&& (2147483647 : Int32))) ((p3 &&& (2147483647 : Int32))) _ O426 f426_1 c428) e427 hml rfl pd5 rfl (W := 0) (argsL := [(.int 0)]) (rest := []) rfl rfl at_270 273 rfl ?_
          intro v429 T429 L429 hq429 X429
          obtain ⟨rfl, e429, rfl⟩ := hq429
          have N429 := Fr.app N427 (Fr.nil _)
          show Go _ _ _ _ (State.setTop _ (mkF _ 273 _ [(.int (p1 &&& (2147483647 : Int32)))]))
          refine gAload X429 H at_273 rfl rfl 275 rfl ?_
          refine gIconst X429 H at_275 (z := 0) rfl 276 rfl ?_
          have c431 := (c406.keep K426 (ninS ne_b297_b311 nin0))
          refine gIaload X429 H hZ e429 c431 ⟨by decide, by decide⟩ (v := (.int (p1 &&& (2147483647 : Int32)))) rfl at_276 277 rfl ?_
          refine gCmpY X429 H at_277 (teq rfl).1 (by decide) 282 rfl ?_
          refine gIload X429 H at_282 rfl 284 rfl ?_
          refine gIconst X429 H at_284 (z := 2) rfl 285 rfl ?_
          refine gCmpN X429 H at_285 (by decide) 288 rfl ?_
          refine gAload X429 H at_288 rfl rfl 290 rfl ?_
          refine gIconst X429 H at_290 (z := 1) rfl 291 rfl ?_
          refine gVirt X429 H hZ hown (hw _ wd57) (hw _ wd58) (hw _ wd60) (hw _ wd59) (by decide) f426_2 (hw _ wd61) (hw _ wd4) (rm395_11 B b311 b316_0 k316_0 ((p1 &&& (2147483647 : Int32))) ((p2 &&& (2147483647 : Int32))) ((p3 &&& (2147483647 : Int32))) _ O426 f426_1 c428) e429 hml rfl pd5 rfl (W := 0) (argsL := [(.int 1)]) (rest := []) rfl rfl at_291 294 rfl ?_
          intro v432 T432 L432 hq432 X432
          obtain ⟨rfl, e432, rfl⟩ := hq432
          have N432 := Fr.app N429 (Fr.nil _)
          show Go _ _ _ _ (State.setTop _ (mkF _ 294 _ [(.int (p2 &&& (2147483647 : Int32)))]))
          refine gAload X432 H at_294 rfl rfl 296 rfl ?_
          refine gIconst X432 H at_296 (z := 1) rfl 297 rfl ?_
          refine gIaload X432 H hZ e432 c431 ⟨by decide, by decide⟩ (v := (.int (p2 &&& (2147483647 : Int32)))) rfl at_297 298 rfl ?_
          refine gCmpY X432 H at_298 (teq rfl).1 (by decide) 303 rfl ?_
          refine gIload X432 H at_303 rfl 305 rfl ?_
          refine gIconst X432 H at_305 (z := 3) rfl 306 rfl ?_
          refine gCmpN X432 H at_306 (by decide) 309 rfl ?_
          refine gAload X432 H at_309 rfl rfl 311 rfl ?_
          refine gIconst X432 H at_311 (z := 2) rfl 312 rfl ?_
          refine gVirt X432 H hZ hown (hw _ wd57) (hw _ wd58) (hw _ wd60) (hw _ wd59) (by decide) f426_2 (hw _ wd61) (hw _ wd4) (rm402_11 B b311 b316_0 k316_0 ((p1 &&& (2147483647 : Int32))) ((p2 &&& (2147483647 : Int32))) ((p3 &&& (2147483647 : Int32))) _ O426 f426_1 c428) e432 hml rfl pd5 rfl (W := 0) (argsL := [(.int 2)]) (rest := []) rfl rfl at_312 315 rfl ?_
          intro v434 T434 L434 hq434 X434
          obtain ⟨rfl, e434, rfl⟩ := hq434
          have N434 := Fr.app N432 (Fr.nil _)
          show Go _ _ _ _ (State.setTop _ (mkF _ 315 _ [(.int (p3 &&& (2147483647 : Int32)))]))
          refine gAload X434 H at_315 rfl rfl 317 rfl ?_
          refine gIconst X434 H at_317 (z := 2) rfl 318 rfl ?_
          refine gIaload X434 H hZ e434 c431 ⟨by decide, by decide⟩ (v := (.int (p3 &&& (2147483647 : Int32)))) rfl at_318 319 rfl ?_
          refine gCmpY X434 H at_319 (teq rfl).1 (by decide) 324 rfl ?_
          refine gIload X434 H at_324 rfl 326 rfl ?_
          refine gIconst X434 H at_326 (z := 4) rfl 327 rfl ?_
          refine gCmpY X434 H at_327 (by decide) (by decide) 345 rfl ?_
          refine gIconst X434 H at_345 (z := 1) rfl 346 rfl ?_
          exact gRetN X434 H hlk hret (t := .boolean) (by simp) at_346 e434 ⟨rfl, N434⟩
        · refine g_irem X354 H at_210 (by decide) (z := 2) hn355 211 rfl ?_
          refine gIstore X354 H at_211 (Ls' := #[vI p0, vI p1, vI p2, vI p3, vI p4, vI p5, vI 3, vR b297, vR b311, vI 2, .unset, .unset]) rfl 213 rfl ?_
          refine gIload X354 H at_213 rfl 215 rfl ?_
          refine gIload X354 H at_215 rfl 217 rfl ?_
          refine gCmpY X354 H at_217 (by decide) (by decide) 229 rfl ?_
          refine gAload X354 H at_229 rfl rfl 231 rfl ?_
          refine gIload X354 H at_231 rfl 233 rfl ?_
          have c437 := (c322.keep K354 (ninS ne_b297_b316_0 (ninS ne_b297_b311 nin0)))
          refine gIaload X354 H hZ rfl c437 ⟨by decide, by decide⟩ (v := (.int (p3 &&& (2147483647 : Int32)))) rfl at_233 234 rfl ?_
          refine gIstore X354 H at_234 (Ls' := #[vI p0, vI p1, vI p2, vI p3, vI p4, vI p5, vI 3, vR b297, vR b311, vI 2, vI (p3 &&& (2147483647 : Int32)), .unset]) rfl 236 rfl ?_
          refine gIload X354 H at_236 rfl 238 rfl ?_
          refine gIconst X354 H at_238 (z := 1) rfl 239 rfl ?_
          refine g_iadd X354 H at_239 (z := 3) (by decide) 240 rfl ?_
          refine gIstore X354 H at_240 (Ls' := #[vI p0, vI p1, vI p2, vI p3, vI p4, vI p5, vI 3, vR b297, vR b311, vI 2, vI (p3 &&& (2147483647 : Int32)), vI 3]) rfl 242 rfl ?_
          refine gAload X354 H at_242 rfl rfl 244 rfl ?_
          refine gIload X354 H at_244 rfl 246 rfl ?_
          refine gVirt X354 H hZ hown (hw _ wd15) (hw _ wd16) (hw _ wd18) (hw _ wd17) (by decide) f354_2 (hw _ wd19) (hw _ wd4) (rm453_3 B b311 ((p3 &&& (2147483647 : Int32))) b316_0 k316_0 ((p1 &&& (2147483647 : Int32))) ((p2 &&& (2147483647 : Int32))) _ O354 f354_0 f354_1 f354_4 f354_2 G_b311 f354_3 (mask_ne p3)) rfl hml rfl pd1 rfl (W := 0) (argsL := [(.int (p3 &&& (2147483647 : Int32)))]) (rest := []) rfl rfl at_246 249 rfl ?_
          intro v454 T454 L454 hq454 X454
          obtain ⟨rfl, N454q, K454, f454_0, f454_1, f454_2, f454_3⟩ := hq454
          have O454 := extK O354 K454 (allS G_b311 all0)
          have N454 := Fr.app N354 N454q
          show Go _ _ _ _ (State.setTop _ (mkF _ 249 _ []))
          refine gAload X454 H at_249 rfl rfl 251 rfl ?_
          refine gVirt X454 H hZ hown (hw _ wd22) (hw _ wd23) (hw _ wd25) (hw _ wd24) (by decide) f454_2 (hw _ wd26) (hw _ wd4) (rm457_4 B b311 _ O454 f454_0) rfl hml rfl pd2 rfl (W := 0) (argsL := []) (rest := []) rfl rfl at_251 254 rfl ?_
          intro v458 T458 L458 hq458 X458
          obtain ⟨rfl, e458, rfl⟩ := hq458
          have N458 := Fr.app N454 (Fr.nil _)
          show Go _ _ _ _ (State.setTop _ (mkF _ 254 _ [(.int 3)]))
          refine gIload X458 H at_254 rfl 256 rfl ?_
          refine gCmpY X458 H at_256 (by decide) (by decide) 261 rfl ?_
          refine gIload X458 H at_261 rfl 263 rfl ?_
          refine gIconst X458 H at_263 (z := 1) rfl 264 rfl ?_
          refine gCmpN X458 H at_264 (by decide) 267 rfl ?_
          refine gAload X458 H at_267 rfl rfl 269 rfl ?_
          refine gIconst X458 H at_269 (z := 0) rfl 270 rfl ?_
          have c459 := (f354_4.keep K454 (ninS (Ne.symm ne_b311_b316_0) nin0))
          refine gVirt X458 H hZ hown (hw _ wd57) (hw _ wd58) (hw _ wd60) (hw _ wd59) (by decide) f454_2 (hw _ wd61) (hw _ wd4) (rm386_11 B b311 b316_0 k316_0 ((p1 &&& (2147483647 : Int32))) ((p2 &&& (2147483647 : Int32))) ((p3 &&& (2147483647 : Int32))) _ O454 f454_1 c459) e458 hml rfl pd5 rfl (W := 0) (argsL := [(.int 0)]) (rest := []) rfl rfl at_270 273 rfl ?_
          intro v460 T460 L460 hq460 X460
          obtain ⟨rfl, e460, rfl⟩ := hq460
          have N460 := Fr.app N458 (Fr.nil _)
          show Go _ _ _ _ (State.setTop _ (mkF _ 273 _ [(.int (p1 &&& (2147483647 : Int32)))]))
          refine gAload X460 H at_273 rfl rfl 275 rfl ?_
          refine gIconst X460 H at_275 (z := 0) rfl 276 rfl ?_
          have c462 := (c437.keep K454 (ninS ne_b297_b311 nin0))
          refine gIaload X460 H hZ e460 c462 ⟨by decide, by decide⟩ (v := (.int (p1 &&& (2147483647 : Int32)))) rfl at_276 277 rfl ?_
          refine gCmpY X460 H at_277 (teq rfl).1 (by decide) 282 rfl ?_
          refine gIload X460 H at_282 rfl 284 rfl ?_
          refine gIconst X460 H at_284 (z := 2) rfl 285 rfl ?_
          refine gCmpN X460 H at_285 (by decide) 288 rfl ?_
          refine gAload X460 H at_288 rfl rfl 290 rfl ?_
          refine gIconst X460 H at_290 (z := 1) rfl 291 rfl ?_
          refine gVirt X460 H hZ hown (hw _ wd57) (hw _ wd58) (hw _ wd60) (hw _ wd59) (by decide) f454_2 (hw _ wd61) (hw _ wd4) (rm395_11 B b311 b316_0 k316_0 ((p1 &&& (2147483647 : Int32))) ((p2 &&& (2147483647 : Int32))) ((p3 &&& (2147483647 : Int32))) _ O454 f454_1 c459) e460 hml rfl pd5 rfl (W := 0) (argsL := [(.int 1)]) (rest := []) rfl rfl at_291 294 rfl ?_
          intro v463 T463 L463 hq463 X463
          obtain ⟨rfl, e463, rfl⟩ := hq463
          have N463 := Fr.app N460 (Fr.nil _)
          show Go _ _ _ _ (State.setTop _ (mkF _ 294 _ [(.int (p2 &&& (2147483647 : Int32)))]))
          refine gAload X463 H at_294 rfl rfl 296 rfl ?_
          refine gIconst X463 H at_296 (z := 1) rfl 297 rfl ?_
          refine gIaload X463 H hZ e463 c462 ⟨by decide, by decide⟩ (v := (.int (p2 &&& (2147483647 : Int32)))) rfl at_297 298 rfl ?_
          refine gCmpY X463 H at_298 (teq rfl).1 (by decide) 303 rfl ?_
          refine gIload X463 H at_303 rfl 305 rfl ?_
          refine gIconst X463 H at_305 (z := 3) rfl 306 rfl ?_
          refine gCmpN X463 H at_306 (by decide) 309 rfl ?_
          refine gAload X463 H at_309 rfl rfl 311 rfl ?_
          refine gIconst X463 H at_311 (z := 2) rfl 312 rfl ?_
          refine gVirt X463 H hZ hown (hw _ wd57) (hw _ wd58) (hw _ wd60) (hw _ wd59) (by decide) f454_2 (hw _ wd61) (hw _ wd4) (rm402_11 B b311 b316_0 k316_0 ((p1 &&& (2147483647 : Int32))) ((p2 &&& (2147483647 : Int32))) ((p3 &&& (2147483647 : Int32))) _ O454 f454_1 c459) e463 hml rfl pd5 rfl (W := 0) (argsL := [(.int 2)]) (rest := []) rfl rfl at_312 315 rfl ?_
          intro v465 T465 L465 hq465 X465
          obtain ⟨rfl, e465, rfl⟩ := hq465
          have N465 := Fr.app N463 (Fr.nil _)
          show Go _ _ _ _ (State.setTop _ (mkF _ 315 _ [(.int (p3 &&& (2147483647 : Int32)))]))
          refine gAload X465 H at_315 rfl rfl 317 rfl ?_
          refine gIconst X465 H at_317 (z := 2) rfl 318 rfl ?_
          refine gIaload X465 H hZ e465 c462 ⟨by decide, by decide⟩ (v := (.int (p3 &&& (2147483647 : Int32)))) rfl at_318 319 rfl ?_
          refine gCmpY X465 H at_319 (teq rfl).1 (by decide) 324 rfl ?_
          refine gIload X465 H at_324 rfl 326 rfl ?_
          refine gIconst X465 H at_326 (z := 4) rfl 327 rfl ?_
          refine gCmpY X465 H at_327 (by decide) (by decide) 345 rfl ?_
          refine gIconst X465 H at_345 (z := 1) rfl 346 rfl ?_
          exact gRetN X465 H hlk hret (t := .boolean) (by simp) at_346 e465 ⟨rfl, N465⟩
        · refine g_irem X354 H at_210 (by decide) (z := 3) hn355 211 rfl ?_
          refine gIstore X354 H at_211 (Ls' := #[vI p0, vI p1, vI p2, vI p3, vI p4, vI p5, vI 3, vR b297, vR b311, vI 3, .unset, .unset]) rfl 213 rfl ?_
          refine gIload X354 H at_213 rfl 215 rfl ?_
          refine gIload X354 H at_215 rfl 217 rfl ?_
          refine gCmpN X354 H at_217 (by decide) 220 rfl ?_
          refine gIconst X354 H at_220 (z := (-1)) rfl 221 rfl ?_
          refine gIstore X354 H at_221 (Ls' := #[vI p0, vI p1, vI p2, vI p3, vI p4, vI p5, vI 3, vR b297, vR b311, vI 3, vI (-1), .unset]) rfl 223 rfl ?_
          refine gIconst X354 H at_223 (z := 0) rfl 224 rfl ?_
          refine gIstore X354 H at_224 (Ls' := #[vI p0, vI p1, vI p2, vI p3, vI p4, vI p5, vI 3, vR b297, vR b311, vI 3, vI (-1), vI 0]) rfl 226 rfl ?_
          refine gGoto X354 H at_226 (by decide) 242 rfl ?_
          refine gAload X354 H at_242 rfl rfl 244 rfl ?_
          refine gIload X354 H at_244 rfl 246 rfl ?_
          refine gVirt X354 H hZ hown (hw _ wd15) (hw _ wd16) (hw _ wd18) (hw _ wd17) (by decide) f354_2 (hw _ wd19) (hw _ wd4) (rm477_3 B b311 b316_0 _ O354 f354_2 f354_0 G_b311 f354_1 f354_3) rfl hml rfl pd1 rfl (W := 0) (argsL := [(.int (-1))]) (rest := []) rfl rfl at_246 249 rfl ?_
          intro v478 T478 L478 hq478 X478
          obtain ⟨rfl, N478q, K478, f478_0, f478_1, f478_2, f478_3⟩ := hq478
          have O478 := extK O354 K478 (allS G_b311 all0)
          have N478 := Fr.app N354 N478q
          show Go _ _ _ _ (State.setTop _ (mkF _ 249 _ []))
          refine gAload X478 H at_249 rfl rfl 251 rfl ?_
          refine gVirt X478 H hZ hown (hw _ wd22) (hw _ wd23) (hw _ wd25) (hw _ wd24) (by decide) f478_0 (hw _ wd26) (hw _ wd4) (rm37_4 B b311 _ O478 f478_1) rfl hml rfl pd2 rfl (W := 0) (argsL := []) (rest := []) rfl rfl at_251 254 rfl ?_
          intro v479 T479 L479 hq479 X479
          obtain ⟨rfl, e479, rfl⟩ := hq479
          have N479 := Fr.app N478 (Fr.nil _)
          show Go _ _ _ _ (State.setTop _ (mkF _ 254 _ [(.int 0)]))
          refine gIload X479 H at_254 rfl 256 rfl ?_
          refine gCmpY X479 H at_256 (by decide) (by decide) 261 rfl ?_
          refine gIload X479 H at_261 rfl 263 rfl ?_
          refine gIconst X479 H at_263 (z := 1) rfl 264 rfl ?_
          refine gCmpN X479 H at_264 (by decide) 267 rfl ?_
          refine gAload X479 H at_267 rfl rfl 269 rfl ?_
          refine gIconst X479 H at_269 (z := 0) rfl 270 rfl ?_
          have c480 := (f354_4.keep K478 (ninS (Ne.symm ne_b311_b316_0) nin0))
          refine gVirt X479 H hZ hown (hw _ wd57) (hw _ wd58) (hw _ wd60) (hw _ wd59) (by decide) f478_0 (hw _ wd61) (hw _ wd4) (rm386_11 B b311 b316_0 k316_0 ((p1 &&& (2147483647 : Int32))) ((p2 &&& (2147483647 : Int32))) ((p3 &&& (2147483647 : Int32))) _ O478 f478_2 c480) e479 hml rfl pd5 rfl (W := 0) (argsL := [(.int 0)]) (rest := []) rfl rfl at_270 273 rfl ?_
          intro v481 T481 L481 hq481 X481
          obtain ⟨rfl, e481, rfl⟩ := hq481
          have N481 := Fr.app N479 (Fr.nil _)
          show Go _ _ _ _ (State.setTop _ (mkF _ 273 _ [(.int (p1 &&& (2147483647 : Int32)))]))
          refine gAload X481 H at_273 rfl rfl 275 rfl ?_
          refine gIconst X481 H at_275 (z := 0) rfl 276 rfl ?_
          have c483 := ((c322.keep K354 (ninS ne_b297_b316_0 (ninS ne_b297_b311 nin0))).keep K478 (ninS ne_b297_b311 nin0))
          refine gIaload X481 H hZ e481 c483 ⟨by decide, by decide⟩ (v := (.int (p1 &&& (2147483647 : Int32)))) rfl at_276 277 rfl ?_
          refine gCmpY X481 H at_277 (teq rfl).1 (by decide) 282 rfl ?_
          refine gIload X481 H at_282 rfl 284 rfl ?_
          refine gIconst X481 H at_284 (z := 2) rfl 285 rfl ?_
          refine gCmpN X481 H at_285 (by decide) 288 rfl ?_
          refine gAload X481 H at_288 rfl rfl 290 rfl ?_
          refine gIconst X481 H at_290 (z := 1) rfl 291 rfl ?_
          refine gVirt X481 H hZ hown (hw _ wd57) (hw _ wd58) (hw _ wd60) (hw _ wd59) (by decide) f478_0 (hw _ wd61) (hw _ wd4) (rm395_11 B b311 b316_0 k316_0 ((p1 &&& (2147483647 : Int32))) ((p2 &&& (2147483647 : Int32))) ((p3 &&& (2147483647 : Int32))) _ O478 f478_2 c480) e481 hml rfl pd5 rfl (W := 0) (argsL := [(.int 1)]) (rest := []) rfl rfl at_291 294 rfl ?_
          intro v484 T484 L484 hq484 X484
          obtain ⟨rfl, e484, rfl⟩ := hq484
          have N484 := Fr.app N481 (Fr.nil _)
          show Go _ _ _ _ (State.setTop _ (mkF _ 294 _ [(.int (p2 &&& (2147483647 : Int32)))]))
          refine gAload X484 H at_294 rfl rfl 296 rfl ?_
          refine gIconst X484 H at_296 (z := 1) rfl 297 rfl ?_
          refine gIaload X484 H hZ e484 c483 ⟨by decide, by decide⟩ (v := (.int (p2 &&& (2147483647 : Int32)))) rfl at_297 298 rfl ?_
          refine gCmpY X484 H at_298 (teq rfl).1 (by decide) 303 rfl ?_
          refine gIload X484 H at_303 rfl 305 rfl ?_
          refine gIconst X484 H at_305 (z := 3) rfl 306 rfl ?_
          refine gCmpN X484 H at_306 (by decide) 309 rfl ?_
          refine gAload X484 H at_309 rfl rfl 311 rfl ?_
          refine gIconst X484 H at_311 (z := 2) rfl 312 rfl ?_
          refine gVirt X484 H hZ hown (hw _ wd57) (hw _ wd58) (hw _ wd60) (hw _ wd59) (by decide) f478_0 (hw _ wd61) (hw _ wd4) (rm402_11 B b311 b316_0 k316_0 ((p1 &&& (2147483647 : Int32))) ((p2 &&& (2147483647 : Int32))) ((p3 &&& (2147483647 : Int32))) _ O478 f478_2 c480) e484 hml rfl pd5 rfl (W := 0) (argsL := [(.int 2)]) (rest := []) rfl rfl at_312 315 rfl ?_
          intro v486 T486 L486 hq486 X486
          obtain ⟨rfl, e486, rfl⟩ := hq486
          have N486 := Fr.app N484 (Fr.nil _)
          show Go _ _ _ _ (State.setTop _ (mkF _ 315 _ [(.int (p3 &&& (2147483647 : Int32)))]))
          refine gAload X486 H at_315 rfl rfl 317 rfl ?_
          refine gIconst X486 H at_317 (z := 2) rfl 318 rfl ?_
          refine gIaload X486 H hZ e486 c483 ⟨by decide, by decide⟩ (v := (.int (p3 &&& (2147483647 : Int32)))) rfl at_318 319 rfl ?_
          refine gCmpY X486 H at_319 (teq rfl).1 (by decide) 324 rfl ?_
          refine gIload X486 H at_324 rfl 326 rfl ?_
          refine gIconst X486 H at_326 (z := 4) rfl 327 rfl ?_
          refine gCmpY X486 H at_327 (by decide) (by decide) 345 rfl ?_
          refine gIconst X486 H at_345 (z := 1) rfl 346 rfl ?_
          exact gRetN X486 H hlk hret (t := .boolean) (by simp) at_346 e486 ⟨rfl, N486⟩
theorem rm536_10 (B : Bg Z a0 w_Trail_NO_ROOM k_w_Trail_NO_ROOM) (ro0 : Addr) (h : Heap) (O : Ext Z.heap h) (q534 : Fld Z h ro0 cs0 "unchanged" "B" (.int 0)) :
    Con l Z yM10 prog_22_method_15_code 2 none ({ frames := 0, cells := 0, slots := 0, locals := 0 } : Room) #[(.ref ro0), (.int 3)] h (fun v h' L => v = none ∧ h' = h ∧ L = []) := by
  have hw := B.1
  refine Con.of (plainFor_of_name pn10) (Ls := #[vR ro0, vI 3]) (fun _ => rfl) ?_
  intro p e s m below meth c T0 X0 H hml hZ hown hnm hret hlk e0
  refine gIloadN X0 H d10_0 rfl 1 rfl ?_
  refine gAloadN X0 H d10_1 rfl rfl 2 rfl ?_
  refine gGetF X0 H hZ hown (hw _ wd55) Via.refl e0 q534 d10_2 5 rfl ?_
  intro T535 X535 e535
  refine gCmpY X535 H d10_5 (by decide) (by decide) 14 rfl ?_
  exact gRetV X535 H hlk hret d10_14 e535 ⟨rfl, rfl, rfl⟩
theorem rm556_5 (B : Bg Z a0 w_Trail_NO_ROOM k_w_Trail_NO_ROOM) (ro0 : Addr) (vi1 : Int32) (ro2 : Addr) (ck3 : ClassId) (vi4 vi5 vi6 : Int32) (h : Heap) (O : Ext Z.heap h) (q526 : Fld Z h ro0 cs0 "depth" "I" (.int 3)) (q528 : Fld Z h ro0 cs0 "entries" "[I" (.ref ro2)) (q531 : Arl Z h ro2 (16 : Int32)) (q533 : Exa Z h ro0 cs0) (q537 : Fld Z h ro0 cs0 "unchanged" "B" (.int 0)) (q542 : Arv Z h ro2 ck3 .int (16 : Int32) [(.int vi4), (.int vi5), (.int vi6), (.int 0), (.int 0), (.int 0), (.int 0), (.int 0), (.int 0), (.int 0), (.int 0), (.int 0), (.int 0), (.int 0), (.int 0), (.int 0)] (.int 0)) (q543 : Z.heap.size ≤ ro2) (q544 : ro0 ≠ ro2) (q549 : Z.heap.size ≤ ro0) :
    Con l Z yM5 prog_22_method_6_code 2 none ({ frames := 1, cells := 0, slots := 0, locals := 13 } : Room) #[(.ref ro0), (.int vi1)] h (fun v h' L => v = none ∧ Fr Z.heap.size L ∧ Keep h h' [ro2, ro0] ∧ Fld Z h' ro0 cs0 "depth" "I" (.int 4) ∧ Fld Z h' ro0 cs0 "entries" "[I" (.ref ro2) ∧ Exa Z h' ro0 cs0 ∧ Fld Z h' ro0 cs0 "unchanged" "B" (.int 0) ∧ Arv Z h' ro2 ck3 .int (16 : Int32) [(.int vi4), (.int vi5), (.int vi6), (.int vi1), (.int 0), (.int 0), (.int 0), (.int 0), (.int 0), (.int 0), (.int 0), (.int 0), (.int 0), (.int 0), (.int 0), (.int 0)] (.int 0)) := by
  have hw := B.1
  refine Con.of (plainFor_of_name pn5) (Ls := #[vR ro0, vI vi1]) (fun _ => rfl) ?_
  intro p e s m below meth c T0 X0 H hml hZ hown hnm hret hlk e0
  have N0 := Fr.nil Z.heap.size
  refine gAloadN X0 H d5_0 rfl rfl 1 rfl ?_
  refine gGetF X0 H hZ hown (hw _ wd20) Via.refl e0 q526 d5_1 4 rfl ?_
  intro T527 X527 e527
  refine gAloadN X527 H d5_4 rfl rfl 5 rfl ?_
  refine gGetF X527 H hZ hown (hw _ wd13) Via.refl e527 q528 d5_5 8 rfl ?_
  intro T529 X529 e529
  refine gLen X529 H hZ e529 q531 d5_8 9 rfl ?_
  refine gCmpY X529 H d5_9 (by decide) (by decide) 16 rfl ?_
  refine gAloadN X529 H d5_16 rfl rfl 17 rfl ?_
  refine gAloadN X529 H d5_17 rfl rfl 18 rfl ?_
  refine gGetF X529 H hZ hown (hw _ wd20) Via.refl e529 q526 d5_18 21 rfl ?_
  intro T532 X532 e532
  refine gPrivate X532 H hZ hown (hw _ wd51) (hw _ wd52) (hw _ wd53) (hw _ wd3) (by decide) q533 (hw _ wd54) (hw _ wd4) (rm536_10 B ro0 _ O q537) e532 hml rfl pd1 rfl (W := 0) (argsL := [(.int 3)]) (rest := []) rfl rfl d5_21 24 rfl ?_
  intro v538 T538 L538 hq538 X538
  obtain ⟨rfl, e538, rfl⟩ := hq538
  have N538 := Fr.app N0 (Fr.nil _)
  show Go _ _ _ _ (State.setTop _ (mkF _ 24 _ []))
  refine gAloadN X538 H d5_24 rfl rfl 25 rfl ?_
  refine gGetF X538 H hZ hown (hw _ wd13) Via.refl e538 q528 d5_25 28 rfl ?_
  intro T539 X539 e539
  refine gAloadN X539 H d5_28 rfl rfl 29 rfl ?_
  refine gGetF X539 H hZ hown (hw _ wd20) Via.refl e539 q526 d5_29 32 rfl ?_
  intro T540 X540 e540
  refine gIloadN X540 H d5_32 rfl 33 rfl ?_
  refine gIastore X540 H hZ e540 q542 ⟨by decide, by decide⟩ (i := 3) rfl (Nat.le_of_ble_eq_true rfl) (vs' := [(.int vi4), (.int vi5), (.int vi6), (.int vi1), (.int 0), (.int 0), (.int 0), (.int 0), (.int 0), (.int 0), (.int 0), (.int 0), (.int 0), (.int 0), (.int 0), (.int 0)]) rfl d5_33 34 rfl ?_
  intro T541 h541 X541 e541 W541 V541
  have O541 := extW O W541 q543
  have N541 := Fr.snoc X541 N538 q543
  refine gAloadN X541 H d5_34 rfl rfl 35 rfl ?_
  refine gDup X541 H d5_35 rfl 36 rfl ?_
  have c545 := (q526.other W541 (Or.inl q544))
  refine gGetF X541 H hZ hown (hw _ wd20) Via.refl e541 c545 d5_36 39 rfl ?_
  intro T546 X546 e546
  refine gIconst X546 H d5_39 (z := 1) rfl 40 rfl ?_
  refine g_iadd X546 H d5_40 (z := 4) (by decide) 41 rfl ?_
  have c548 := (q533.wr W541)
  refine gPutF X546 H hZ hown (hw _ wd20) Via.refl e546 c545 c548 (Or.inl (hw _ wd21)) (hw _ wd3) (ty := .int) (by decide) (v' := (.int 4)) rfl rfl d5_41 44 rfl ?_
  intro T547 h547 X547 e547 W547 F547
  have O547 := extW O541 W547 q549
  have N547 := Fr.snoc X547 N541 q549
  have c550 := (V541.other W547 (Ne.symm q544))
  have c551 := ((q528.other W541 (Or.inl q544)).other W547 (Or.inr (sn2 hw)))
  have c552 := (c548.wr W547)
  have c553 := ((q537.other W541 (Or.inl q544)).other W547 (Or.inr (sn3 hw)))
  have K_554 := (Keep.refl h [ro2, ro0]).wr W541 (Or.inl (List.mem_of_getElem? (i := 0) rfl))
  have K_555 := K_554.wr W547 (Or.inl (List.mem_of_getElem? (i := 1) rfl))
  exact gRetV X547 H hlk hret d5_44 e547 ⟨rfl, N547, K_555, F547, c551, c552, c553, c550⟩
theorem rm585_3 (B : Bg Z a0 w_Trail_NO_ROOM k_w_Trail_NO_ROOM) (ro0 : Addr) (vi1 : Int32) (ro2 : Addr) (ck3 : ClassId) (vi4 vi5 vi6 : Int32) (h : Heap) (O : Ext Z.heap h) (q562 : Fld Z h ro0 cs0 "depth" "I" (.int 4)) (q564 : Fld Z h ro0 cs0 "entries" "[I" (.ref ro2)) (q567 : Arv Z h ro2 ck3 .int (16 : Int32) [(.int vi1), (.int vi4), (.int vi5), (.int vi6), (.int 0), (.int 0), (.int 0), (.int 0), (.int 0), (.int 0), (.int 0), (.int 0), (.int 0), (.int 0), (.int 0), (.int 0)] (.int 0)) (q578 : Exa Z h ro0 cs0) (q579 : Z.heap.size ≤ ro0) (q582 : Fld Z h ro0 cs0 "unchanged" "B" (.int 0)) (hk561 : ¬ (vi1 = (-1 : Int32))) (hk568 : ¬ (vi6 = vi1)) (hk571 : ¬ (vi5 = vi1)) (hk574 : ¬ (vi4 = vi1)) :
    Con l Z yM3 prog_22_method_9_code 3 none ({ frames := 0, cells := 0, slots := 0, locals := 0 } : Room) #[(.ref ro0), (.int vi1)] h (fun v h' L => v = none ∧ Fr Z.heap.size L ∧ Keep h h' [ro0] ∧ Fld Z h' ro0 cs0 "depth" "I" (.int 1) ∧ Fld Z h' ro0 cs0 "entries" "[I" (.ref ro2) ∧ Exa Z h' ro0 cs0 ∧ Fld Z h' ro0 cs0 "unchanged" "B" (.int 0)) := by
  have hw := B.1
  refine Con.of (plainFor_of_name pn3) (Ls := #[vR ro0, vI vi1, .unset]) (fun _ => rfl) ?_
  intro p e s m below meth c T0 X0 H hml hZ hown hnm hret hlk e0
  have N0 := Fr.nil Z.heap.size
  refine gIloadN X0 H d3_0 rfl 1 rfl ?_
  refine gIconst X0 H d3_1 (z := (-1)) rfl 2 rfl ?_
  refine gCmpY X0 H d3_2 (feq hk561).2 (by decide) 11 rfl ?_
  refine gAloadN X0 H d3_11 rfl rfl 12 rfl ?_
  refine gGetF X0 H hZ hown (hw _ wd20) Via.refl e0 q562 d3_12 15 rfl ?_
  intro T563 X563 e563
  refine gIstoreN X563 H d3_15 (Ls' := #[vR ro0, vI vi1, vI 4]) rfl 16 rfl ?_
  refine gAloadN X563 H d3_16 rfl rfl 17 rfl ?_
  refine gGetF X563 H hZ hown (hw _ wd13) Via.refl e563 q564 d3_17 20 rfl ?_
  intro T565 X565 e565
  refine gIloadN X565 H d3_20 rfl 21 rfl ?_
  refine gIconst X565 H d3_21 (z := 1) rfl 22 rfl ?_
  refine g_isub X565 H d3_22 (z := 3) (by decide) 23 rfl ?_
  refine gIaload X565 H hZ e565 q567 ⟨by decide, by decide⟩ (v := (.int vi6)) rfl d3_23 24 rfl ?_
  refine gIloadN X565 H d3_24 rfl 25 rfl ?_
  refine gCmpN X565 H d3_25 (feq hk568).1 28 rfl ?_
  refine gIinc X565 H d3_28 rfl (Ls' := #[vR ro0, vI vi1, vI 3]) rfl 31 rfl ?_
  refine gGoto X565 H d3_31 (by decide) 16 rfl ?_
  refine gAloadN X565 H d3_16 rfl rfl 17 rfl ?_
  refine gGetF X565 H hZ hown (hw _ wd13) Via.refl e565 q564 d3_17 20 rfl ?_
  intro T569 X569 e569
  refine gIloadN X569 H d3_20 rfl 21 rfl ?_
  refine gIconst X569 H d3_21 (z := 1) rfl 22 rfl ?_
  refine g_isub X569 H d3_22 (z := 2) (by decide) 23 rfl ?_
  refine gIaload X569 H hZ e569 q567 ⟨by decide, by decide⟩ (v := (.int vi5)) rfl d3_23 24 rfl ?_
  refine gIloadN X569 H d3_24 rfl 25 rfl ?_
  refine gCmpN X569 H d3_25 (feq hk571).1 28 rfl ?_
  refine gIinc X569 H d3_28 rfl (Ls' := #[vR ro0, vI vi1, vI 2]) rfl 31 rfl ?_
  refine gGoto X569 H d3_31 (by decide) 16 rfl ?_
  refine gAloadN X569 H d3_16 rfl rfl 17 rfl ?_
  refine gGetF X569 H hZ hown (hw _ wd13) Via.refl e569 q564 d3_17 20 rfl ?_
  intro T572 X572 e572
  refine gIloadN X572 H d3_20 rfl 21 rfl ?_
  refine gIconst X572 H d3_21 (z := 1) rfl 22 rfl ?_
  refine g_isub X572 H d3_22 (z := 1) (by decide) 23 rfl ?_
  refine gIaload X572 H hZ e572 q567 ⟨by decide, by decide⟩ (v := (.int vi4)) rfl d3_23 24 rfl ?_
  refine gIloadN X572 H d3_24 rfl 25 rfl ?_
  refine gCmpN X572 H d3_25 (feq hk574).1 28 rfl ?_
  refine gIinc X572 H d3_28 rfl (Ls' := #[vR ro0, vI vi1, vI 1]) rfl 31 rfl ?_
  refine gGoto X572 H d3_31 (by decide) 16 rfl ?_
  refine gAloadN X572 H d3_16 rfl rfl 17 rfl ?_
  refine gGetF X572 H hZ hown (hw _ wd13) Via.refl e572 q564 d3_17 20 rfl ?_
  intro T575 X575 e575
  refine gIloadN X575 H d3_20 rfl 21 rfl ?_
  refine gIconst X575 H d3_21 (z := 1) rfl 22 rfl ?_
  refine g_isub X575 H d3_22 (z := 0) (by decide) 23 rfl ?_
  refine gIaload X575 H hZ e575 q567 ⟨by decide, by decide⟩ (v := (.int vi1)) rfl d3_23 24 rfl ?_
  refine gIloadN X575 H d3_24 rfl 25 rfl ?_
  refine gCmpY X575 H d3_25 (teq rfl).1 (by decide) 34 rfl ?_
  refine gAloadN X575 H d3_34 rfl rfl 35 rfl ?_
  refine gIloadN X575 H d3_35 rfl 36 rfl ?_
  refine gPutF X575 H hZ hown (hw _ wd20) Via.refl e575 q562 q578 (Or.inl (hw _ wd21)) (hw _ wd3) (ty := .int) (by decide) (v' := (.int 1)) rfl rfl d3_36 39 rfl ?_
  intro T577 h577 X577 e577 W577 F577
  have O577 := extW O W577 q579
  have N577 := Fr.snoc X577 N0 q579
  have c580 := (q564.other W577 (Or.inr (sn2 hw)))
  have c581 := (q578.wr W577)
  have c583 := (q582.other W577 (Or.inr (sn3 hw)))
  have K_584 := (Keep.refl h [ro0]).wr W577 (Or.inl (List.mem_of_getElem? (i := 0) rfl))
  exact gRetV X577 H hlk hret d3_39 e577 ⟨rfl, N577, K_584, F577, c580, c581, c583⟩
theorem rm592_11 (B : Bg Z a0 w_Trail_NO_ROOM k_w_Trail_NO_ROOM) (ro0 ro1 : Addr) (ck2 : ClassId) (vi3 vi4 vi5 vi6 : Int32) (h : Heap) (O : Ext Z.heap h) (q588 : Fld Z h ro0 cs0 "entries" "[I" (.ref ro1)) (q591 : Arv Z h ro1 ck2 .int (16 : Int32) [(.int vi3), (.int vi4), (.int vi5), (.int vi6), (.int 0), (.int 0), (.int 0), (.int 0), (.int 0), (.int 0), (.int 0), (.int 0), (.int 0), (.int 0), (.int 0), (.int 0)] (.int 0)) :
    Con l Z yM11 prog_22_method_3_code 2 (some .int) ({ frames := 0, cells := 0, slots := 0, locals := 0 } : Room) #[(.ref ro0), (.int 0)] h (fun v h' L => v = some (.int vi3) ∧ h' = h ∧ L = []) := by
  have hw := B.1
  refine Con.of (plainFor_of_name pn11) (Ls := #[vR ro0, vI 0]) (fun _ => rfl) ?_
  intro p e s m below meth c T0 X0 H hml hZ hown hnm hret hlk e0
  refine gAloadN X0 H d11_0 rfl rfl 1 rfl ?_
  refine gGetF X0 H hZ hown (hw _ wd13) Via.refl e0 q588 d11_1 4 rfl ?_
  intro T589 X589 e589
  refine gIloadN X589 H d11_4 rfl 5 rfl ?_
  refine gIaload X589 H hZ e589 q591 ⟨by decide, by decide⟩ (v := (.int vi3)) rfl d11_5 6 rfl ?_
  exact gRetI X589 H hlk hret d11_6 e589 ⟨rfl, rfl, rfl⟩
theorem rm601_11 (B : Bg Z a0 w_Trail_NO_ROOM k_w_Trail_NO_ROOM) (ro0 ro1 : Addr) (ck2 : ClassId) (vi3 vi4 vi5 vi6 : Int32) (h : Heap) (O : Ext Z.heap h) (q597 : Fld Z h ro0 cs0 "entries" "[I" (.ref ro1)) (q600 : Arv Z h ro1 ck2 .int (16 : Int32) [(.int vi3), (.int vi4), (.int vi5), (.int vi6), (.int 0), (.int 0), (.int 0), (.int 0), (.int 0), (.int 0), (.int 0), (.int 0), (.int 0), (.int 0), (.int 0), (.int 0)] (.int 0)) :
    Con l Z yM11 prog_22_method_3_code 2 (some .int) ({ frames := 0, cells := 0, slots := 0, locals := 0 } : Room) #[(.ref ro0), (.int 1)] h (fun v h' L => v = some (.int vi4) ∧ h' = h ∧ L = []) := by
  have hw := B.1
  refine Con.of (plainFor_of_name pn11) (Ls := #[vR ro0, vI 1]) (fun _ => rfl) ?_
  intro p e s m below meth c T0 X0 H hml hZ hown hnm hret hlk e0
  refine gAloadN X0 H d11_0 rfl rfl 1 rfl ?_
  refine gGetF X0 H hZ hown (hw _ wd13) Via.refl e0 q597 d11_1 4 rfl ?_
  intro T598 X598 e598
  refine gIloadN X598 H d11_4 rfl 5 rfl ?_
  refine gIaload X598 H hZ e598 q600 ⟨by decide, by decide⟩ (v := (.int vi4)) rfl d11_5 6 rfl ?_
  exact gRetI X598 H hlk hret d11_6 e598 ⟨rfl, rfl, rfl⟩
theorem rm608_11 (B : Bg Z a0 w_Trail_NO_ROOM k_w_Trail_NO_ROOM) (ro0 ro1 : Addr) (ck2 : ClassId) (vi3 vi4 vi5 vi6 : Int32) (h : Heap) (O : Ext Z.heap h) (q604 : Fld Z h ro0 cs0 "entries" "[I" (.ref ro1)) (q607 : Arv Z h ro1 ck2 .int (16 : Int32) [(.int vi3), (.int vi4), (.int vi5), (.int vi6), (.int 0), (.int 0), (.int 0), (.int 0), (.int 0), (.int 0), (.int 0), (.int 0), (.int 0), (.int 0), (.int 0), (.int 0)] (.int 0)) :
    Con l Z yM11 prog_22_method_3_code 2 (some .int) ({ frames := 0, cells := 0, slots := 0, locals := 0 } : Room) #[(.ref ro0), (.int 2)] h (fun v h' L => v = some (.int vi5) ∧ h' = h ∧ L = []) := by
  have hw := B.1
  refine Con.of (plainFor_of_name pn11) (Ls := #[vR ro0, vI 2]) (fun _ => rfl) ?_
  intro p e s m below meth c T0 X0 H hml hZ hown hnm hret hlk e0
  refine gAloadN X0 H d11_0 rfl rfl 1 rfl ?_
  refine gGetF X0 H hZ hown (hw _ wd13) Via.refl e0 q604 d11_1 4 rfl ?_
  intro T605 X605 e605
  refine gIloadN X605 H d11_4 rfl 5 rfl ?_
  refine gIaload X605 H hZ e605 q607 ⟨by decide, by decide⟩ (v := (.int vi5)) rfl d11_5 6 rfl ?_
  exact gRetI X605 H hlk hret d11_6 e605 ⟨rfl, rfl, rfl⟩
theorem rm615_11 (B : Bg Z a0 w_Trail_NO_ROOM k_w_Trail_NO_ROOM) (ro0 ro1 : Addr) (ck2 : ClassId) (vi3 vi4 vi5 vi6 : Int32) (h : Heap) (O : Ext Z.heap h) (q611 : Fld Z h ro0 cs0 "entries" "[I" (.ref ro1)) (q614 : Arv Z h ro1 ck2 .int (16 : Int32) [(.int vi3), (.int vi4), (.int vi5), (.int vi6), (.int 0), (.int 0), (.int 0), (.int 0), (.int 0), (.int 0), (.int 0), (.int 0), (.int 0), (.int 0), (.int 0), (.int 0)] (.int 0)) :
    Con l Z yM11 prog_22_method_3_code 2 (some .int) ({ frames := 0, cells := 0, slots := 0, locals := 0 } : Room) #[(.ref ro0), (.int 3)] h (fun v h' L => v = some (.int vi6) ∧ h' = h ∧ L = []) := by
  have hw := B.1
  refine Con.of (plainFor_of_name pn11) (Ls := #[vR ro0, vI 3]) (fun _ => rfl) ?_
  intro p e s m below meth c T0 X0 H hml hZ hown hnm hret hlk e0
  refine gAloadN X0 H d11_0 rfl rfl 1 rfl ?_
  refine gGetF X0 H hZ hown (hw _ wd13) Via.refl e0 q611 d11_1 4 rfl ?_
  intro T612 X612 e612
  refine gIloadN X612 H d11_4 rfl 5 rfl ?_
  refine gIaload X612 H hZ e612 q614 ⟨by decide, by decide⟩ (v := (.int vi6)) rfl d11_5 6 rfl ?_
  exact gRetI X612 H hlk hret d11_6 e612 ⟨rfl, rfl, rfl⟩
theorem rm641_3 (B : Bg Z a0 w_Trail_NO_ROOM k_w_Trail_NO_ROOM) (ro0 : Addr) (vi1 : Int32) (ro2 : Addr) (ck3 : ClassId) (vi4 vi5 vi6 : Int32) (h : Heap) (O : Ext Z.heap h) (q621 : Fld Z h ro0 cs0 "depth" "I" (.int 4)) (q623 : Fld Z h ro0 cs0 "entries" "[I" (.ref ro2)) (q626 : Arv Z h ro2 ck3 .int (16 : Int32) [(.int vi4), (.int vi1), (.int vi5), (.int vi6), (.int 0), (.int 0), (.int 0), (.int 0), (.int 0), (.int 0), (.int 0), (.int 0), (.int 0), (.int 0), (.int 0), (.int 0)] (.int 0)) (q634 : Exa Z h ro0 cs0) (q635 : Z.heap.size ≤ ro0) (q638 : Fld Z h ro0 cs0 "unchanged" "B" (.int 0)) (hk620 : ¬ (vi1 = (-1 : Int32))) (hk627 : ¬ (vi6 = vi1)) (hk630 : ¬ (vi5 = vi1)) :
    Con l Z yM3 prog_22_method_9_code 3 none ({ frames := 0, cells := 0, slots := 0, locals := 0 } : Room) #[(.ref ro0), (.int vi1)] h (fun v h' L => v = none ∧ Fr Z.heap.size L ∧ Keep h h' [ro0] ∧ Fld Z h' ro0 cs0 "depth" "I" (.int 2) ∧ Fld Z h' ro0 cs0 "entries" "[I" (.ref ro2) ∧ Exa Z h' ro0 cs0 ∧ Fld Z h' ro0 cs0 "unchanged" "B" (.int 0)) := by
  have hw := B.1
  refine Con.of (plainFor_of_name pn3) (Ls := #[vR ro0, vI vi1, .unset]) (fun _ => rfl) ?_
  intro p e s m below meth c T0 X0 H hml hZ hown hnm hret hlk e0
  have N0 := Fr.nil Z.heap.size
  refine gIloadN X0 H d3_0 rfl 1 rfl ?_
  refine gIconst X0 H d3_1 (z := (-1)) rfl 2 rfl ?_
  refine gCmpY X0 H d3_2 (feq hk620).2 (by decide) 11 rfl ?_
  refine gAloadN X0 H d3_11 rfl rfl 12 rfl ?_
  refine gGetF X0 H hZ hown (hw _ wd20) Via.refl e0 q621 d3_12 15 rfl ?_
  intro T622 X622 e622
  refine gIstoreN X622 H d3_15 (Ls' := #[vR ro0, vI vi1, vI 4]) rfl 16 rfl ?_
  refine gAloadN X622 H d3_16 rfl rfl 17 rfl ?_
  refine gGetF X622 H hZ hown (hw _ wd13) Via.refl e622 q623 d3_17 20 rfl ?_
  intro T624 X624 e624
  refine gIloadN X624 H d3_20 rfl 21 rfl ?_
  refine gIconst X624 H d3_21 (z := 1) rfl 22 rfl ?_
  refine g_isub X624 H d3_22 (z := 3) (by decide) 23 rfl ?_
  refine gIaload X624 H hZ e624 q626 ⟨by decide, by decide⟩ (v := (.int vi6)) rfl d3_23 24 rfl ?_
  refine gIloadN X624 H d3_24 rfl 25 rfl ?_
  refine gCmpN X624 H d3_25 (feq hk627).1 28 rfl ?_
  refine gIinc X624 H d3_28 rfl (Ls' := #[vR ro0, vI vi1, vI 3]) rfl 31 rfl ?_
  refine gGoto X624 H d3_31 (by decide) 16 rfl ?_
  refine gAloadN X624 H d3_16 rfl rfl 17 rfl ?_
  refine gGetF X624 H hZ hown (hw _ wd13) Via.refl e624 q623 d3_17 20 rfl ?_
  intro T628 X628 e628
  refine gIloadN X628 H d3_20 rfl 21 rfl ?_
  refine gIconst X628 H d3_21 (z := 1) rfl 22 rfl ?_
  refine g_isub X628 H d3_22 (z := 2) (by decide) 23 rfl ?_
  refine gIaload X628 H hZ e628 q626 ⟨by decide, by decide⟩ (v := (.int vi5)) rfl d3_23 24 rfl ?_
  refine gIloadN X628 H d3_24 rfl 25 rfl ?_
  refine gCmpN X628 H d3_25 (feq hk630).1 28 rfl ?_
  refine gIinc X628 H d3_28 rfl (Ls' := #[vR ro0, vI vi1, vI 2]) rfl 31 rfl ?_
  refine gGoto X628 H d3_31 (by decide) 16 rfl ?_
  refine gAloadN X628 H d3_16 rfl rfl 17 rfl ?_
  refine gGetF X628 H hZ hown (hw _ wd13) Via.refl e628 q623 d3_17 20 rfl ?_
  intro T631 X631 e631
  refine gIloadN X631 H d3_20 rfl 21 rfl ?_
  refine gIconst X631 H d3_21 (z := 1) rfl 22 rfl ?_
  refine g_isub X631 H d3_22 (z := 1) (by decide) 23 rfl ?_
  refine gIaload X631 H hZ e631 q626 ⟨by decide, by decide⟩ (v := (.int vi1)) rfl d3_23 24 rfl ?_
  refine gIloadN X631 H d3_24 rfl 25 rfl ?_
  refine gCmpY X631 H d3_25 (teq rfl).1 (by decide) 34 rfl ?_
  refine gAloadN X631 H d3_34 rfl rfl 35 rfl ?_
  refine gIloadN X631 H d3_35 rfl 36 rfl ?_
  refine gPutF X631 H hZ hown (hw _ wd20) Via.refl e631 q621 q634 (Or.inl (hw _ wd21)) (hw _ wd3) (ty := .int) (by decide) (v' := (.int 2)) rfl rfl d3_36 39 rfl ?_
  intro T633 h633 X633 e633 W633 F633
  have O633 := extW O W633 q635
  have N633 := Fr.snoc X633 N0 q635
  have c636 := (q623.other W633 (Or.inr (sn2 hw)))
  have c637 := (q634.wr W633)
  have c639 := (q638.other W633 (Or.inr (sn3 hw)))
  have K_640 := (Keep.refl h [ro0]).wr W633 (Or.inl (List.mem_of_getElem? (i := 0) rfl))
  exact gRetV X633 H hlk hret d3_39 e633 ⟨rfl, N633, K_640, F633, c636, c637, c639⟩
theorem rm674_3 (B : Bg Z a0 w_Trail_NO_ROOM k_w_Trail_NO_ROOM) (ro0 : Addr) (vi1 : Int32) (ro2 : Addr) (ck3 : ClassId) (vi4 vi5 vi6 : Int32) (h : Heap) (O : Ext Z.heap h) (q657 : Fld Z h ro0 cs0 "depth" "I" (.int 4)) (q659 : Fld Z h ro0 cs0 "entries" "[I" (.ref ro2)) (q662 : Arv Z h ro2 ck3 .int (16 : Int32) [(.int vi4), (.int vi5), (.int vi1), (.int vi6), (.int 0), (.int 0), (.int 0), (.int 0), (.int 0), (.int 0), (.int 0), (.int 0), (.int 0), (.int 0), (.int 0), (.int 0)] (.int 0)) (q667 : Exa Z h ro0 cs0) (q668 : Z.heap.size ≤ ro0) (q671 : Fld Z h ro0 cs0 "unchanged" "B" (.int 0)) (hk656 : ¬ (vi1 = (-1 : Int32))) (hk663 : ¬ (vi6 = vi1)) :
    Con l Z yM3 prog_22_method_9_code 3 none ({ frames := 0, cells := 0, slots := 0, locals := 0 } : Room) #[(.ref ro0), (.int vi1)] h (fun v h' L => v = none ∧ Fr Z.heap.size L ∧ Keep h h' [ro0] ∧ Fld Z h' ro0 cs0 "depth" "I" (.int 3) ∧ Fld Z h' ro0 cs0 "entries" "[I" (.ref ro2) ∧ Exa Z h' ro0 cs0 ∧ Fld Z h' ro0 cs0 "unchanged" "B" (.int 0)) := by
  have hw := B.1
  refine Con.of (plainFor_of_name pn3) (Ls := #[vR ro0, vI vi1, .unset]) (fun _ => rfl) ?_
  intro p e s m below meth c T0 X0 H hml hZ hown hnm hret hlk e0
  have N0 := Fr.nil Z.heap.size
  refine gIloadN X0 H d3_0 rfl 1 rfl ?_
  refine gIconst X0 H d3_1 (z := (-1)) rfl 2 rfl ?_
  refine gCmpY X0 H d3_2 (feq hk656).2 (by decide) 11 rfl ?_
  refine gAloadN X0 H d3_11 rfl rfl 12 rfl ?_
  refine gGetF X0 H hZ hown (hw _ wd20) Via.refl e0 q657 d3_12 15 rfl ?_
  intro T658 X658 e658
  refine gIstoreN X658 H d3_15 (Ls' := #[vR ro0, vI vi1, vI 4]) rfl 16 rfl ?_
  refine gAloadN X658 H d3_16 rfl rfl 17 rfl ?_
  refine gGetF X658 H hZ hown (hw _ wd13) Via.refl e658 q659 d3_17 20 rfl ?_
  intro T660 X660 e660
  refine gIloadN X660 H d3_20 rfl 21 rfl ?_
  refine gIconst X660 H d3_21 (z := 1) rfl 22 rfl ?_
  refine g_isub X660 H d3_22 (z := 3) (by decide) 23 rfl ?_
  refine gIaload X660 H hZ e660 q662 ⟨by decide, by decide⟩ (v := (.int vi6)) rfl d3_23 24 rfl ?_
  refine gIloadN X660 H d3_24 rfl 25 rfl ?_
  refine gCmpN X660 H d3_25 (feq hk663).1 28 rfl ?_
  refine gIinc X660 H d3_28 rfl (Ls' := #[vR ro0, vI vi1, vI 3]) rfl 31 rfl ?_
  refine gGoto X660 H d3_31 (by decide) 16 rfl ?_
  refine gAloadN X660 H d3_16 rfl rfl 17 rfl ?_
  refine gGetF X660 H hZ hown (hw _ wd13) Via.refl e660 q659 d3_17 20 rfl ?_
  intro T664 X664 e664
  refine gIloadN X664 H d3_20 rfl 21 rfl ?_
  refine gIconst X664 H d3_21 (z := 1) rfl 22 rfl ?_
  refine g_isub X664 H d3_22 (z := 2) (by decide) 23 rfl ?_
  refine gIaload X664 H hZ e664 q662 ⟨by decide, by decide⟩ (v := (.int vi1)) rfl d3_23 24 rfl ?_
  refine gIloadN X664 H d3_24 rfl 25 rfl ?_
  refine gCmpY X664 H d3_25 (teq rfl).1 (by decide) 34 rfl ?_
  refine gAloadN X664 H d3_34 rfl rfl 35 rfl ?_
  refine gIloadN X664 H d3_35 rfl 36 rfl ?_
  refine gPutF X664 H hZ hown (hw _ wd20) Via.refl e664 q657 q667 (Or.inl (hw _ wd21)) (hw _ wd3) (ty := .int) (by decide) (v' := (.int 3)) rfl rfl d3_36 39 rfl ?_
  intro T666 h666 X666 e666 W666 F666
  have O666 := extW O W666 q668
  have N666 := Fr.snoc X666 N0 q668
  have c669 := (q659.other W666 (Or.inr (sn2 hw)))
  have c670 := (q667.wr W666)
  have c672 := (q671.other W666 (Or.inr (sn3 hw)))
  have K_673 := (Keep.refl h [ro0]).wr W666 (Or.inl (List.mem_of_getElem? (i := 0) rfl))
  exact gRetV X666 H hlk hret d3_39 e666 ⟨rfl, N666, K_673, F666, c669, c670, c672⟩
theorem rm704_3 (B : Bg Z a0 w_Trail_NO_ROOM k_w_Trail_NO_ROOM) (ro0 : Addr) (vi1 : Int32) (ro2 : Addr) (ck3 : ClassId) (vi4 vi5 vi6 : Int32) (h : Heap) (O : Ext Z.heap h) (q690 : Fld Z h ro0 cs0 "depth" "I" (.int 4)) (q692 : Fld Z h ro0 cs0 "entries" "[I" (.ref ro2)) (q695 : Arv Z h ro2 ck3 .int (16 : Int32) [(.int vi4), (.int vi5), (.int vi6), (.int vi1), (.int 0), (.int 0), (.int 0), (.int 0), (.int 0), (.int 0), (.int 0), (.int 0), (.int 0), (.int 0), (.int 0), (.int 0)] (.int 0)) (q697 : Exa Z h ro0 cs0) (q698 : Z.heap.size ≤ ro0) (q701 : Fld Z h ro0 cs0 "unchanged" "B" (.int 0)) (hk689 : ¬ (vi1 = (-1 : Int32))) :
    Con l Z yM3 prog_22_method_9_code 3 none ({ frames := 0, cells := 0, slots := 0, locals := 0 } : Room) #[(.ref ro0), (.int vi1)] h (fun v h' L => v = none ∧ Fr Z.heap.size L ∧ Keep h h' [ro0] ∧ Fld Z h' ro0 cs0 "depth" "I" (.int 4) ∧ Fld Z h' ro0 cs0 "entries" "[I" (.ref ro2) ∧ Exa Z h' ro0 cs0 ∧ Fld Z h' ro0 cs0 "unchanged" "B" (.int 0)) := by
  have hw := B.1
  refine Con.of (plainFor_of_name pn3) (Ls := #[vR ro0, vI vi1, .unset]) (fun _ => rfl) ?_
  intro p e s m below meth c T0 X0 H hml hZ hown hnm hret hlk e0
  have N0 := Fr.nil Z.heap.size
  refine gIloadN X0 H d3_0 rfl 1 rfl ?_
  refine gIconst X0 H d3_1 (z := (-1)) rfl 2 rfl ?_
  refine gCmpY X0 H d3_2 (feq hk689).2 (by decide) 11 rfl ?_
  refine gAloadN X0 H d3_11 rfl rfl 12 rfl ?_
  refine gGetF X0 H hZ hown (hw _ wd20) Via.refl e0 q690 d3_12 15 rfl ?_
  intro T691 X691 e691
  refine gIstoreN X691 H d3_15 (Ls' := #[vR ro0, vI vi1, vI 4]) rfl 16 rfl ?_
  refine gAloadN X691 H d3_16 rfl rfl 17 rfl ?_
  refine gGetF X691 H hZ hown (hw _ wd13) Via.refl e691 q692 d3_17 20 rfl ?_
  intro T693 X693 e693
  refine gIloadN X693 H d3_20 rfl 21 rfl ?_
  refine gIconst X693 H d3_21 (z := 1) rfl 22 rfl ?_
  refine g_isub X693 H d3_22 (z := 3) (by decide) 23 rfl ?_
  refine gIaload X693 H hZ e693 q695 ⟨by decide, by decide⟩ (v := (.int vi1)) rfl d3_23 24 rfl ?_
  refine gIloadN X693 H d3_24 rfl 25 rfl ?_
  refine gCmpY X693 H d3_25 (teq rfl).1 (by decide) 34 rfl ?_
  refine gAloadN X693 H d3_34 rfl rfl 35 rfl ?_
  refine gIloadN X693 H d3_35 rfl 36 rfl ?_
  refine gPutF X693 H hZ hown (hw _ wd20) Via.refl e693 q690 q697 (Or.inl (hw _ wd21)) (hw _ wd3) (ty := .int) (by decide) (v' := (.int 4)) rfl rfl d3_36 39 rfl ?_
  intro T696 h696 X696 e696 W696 F696
  have O696 := extW O W696 q698
  have N696 := Fr.snoc X696 N0 q698
  have c699 := (q692.other W696 (Or.inr (sn2 hw)))
  have c700 := (q697.wr W696)
  have c702 := (q701.other W696 (Or.inr (sn3 hw)))
  have K_703 := (Keep.refl h [ro0]).wr W696 (Or.inl (List.mem_of_getElem? (i := 0) rfl))
  exact gRetV X696 H hlk hret d3_39 e696 ⟨rfl, N696, K_703, F696, c699, c700, c702⟩
theorem rm708_4 (B : Bg Z a0 w_Trail_NO_ROOM k_w_Trail_NO_ROOM) (ro0 : Addr) (h : Heap) (O : Ext Z.heap h) (q706 : Fld Z h ro0 cs0 "depth" "I" (.int 4)) :
    Con l Z yM4 prog_22_method_2_code 1 (some .int) ({ frames := 0, cells := 0, slots := 0, locals := 0 } : Room) #[(.ref ro0)] h (fun v h' L => v = some (.int 4) ∧ h' = h ∧ L = []) := by
  have hw := B.1
  refine Con.of (plainFor_of_name pn4) (Ls := #[vR ro0]) (fun _ => rfl) ?_
  intro p e s m below meth c T0 X0 H hml hZ hown hnm hret hlk e0
  refine gAloadN X0 H d4_0 rfl rfl 1 rfl ?_
  refine gGetF X0 H hZ hown (hw _ wd20) Via.refl e0 q706 d4_1 4 rfl ?_
  intro T707 X707 e707
  exact gRetI X707 H hlk hret d4_4 e707 ⟨rfl, rfl, rfl⟩
theorem rm730_3 (B : Bg Z a0 w_Trail_NO_ROOM k_w_Trail_NO_ROOM) (ro0 ro1 : Addr) (h : Heap) (O : Ext Z.heap h) (q721 : Exa Z h ro0 cs0) (q722 : Fld Z h ro0 cs0 "depth" "I" (.int 4)) (q723 : Z.heap.size ≤ ro0) (q725 : Fld Z h ro0 cs0 "entries" "[I" (.ref ro1)) (q727 : Fld Z h ro0 cs0 "unchanged" "B" (.int 0)) :
    Con l Z yM3 prog_22_method_9_code 3 none ({ frames := 0, cells := 0, slots := 0, locals := 0 } : Room) #[(.ref ro0), (.int (-1))] h (fun v h' L => v = none ∧ Fr Z.heap.size L ∧ Keep h h' [ro0] ∧ Exa Z h' ro0 cs0 ∧ Fld Z h' ro0 cs0 "depth" "I" (.int 0) ∧ Fld Z h' ro0 cs0 "entries" "[I" (.ref ro1) ∧ Fld Z h' ro0 cs0 "unchanged" "B" (.int 0)) := by
  have hw := B.1
  refine Con.of (plainFor_of_name pn3) (Ls := #[vR ro0, vI (-1), .unset]) (fun _ => rfl) ?_
  intro p e s m below meth c T0 X0 H hml hZ hown hnm hret hlk e0
  have N0 := Fr.nil Z.heap.size
  refine gIloadN X0 H d3_0 rfl 1 rfl ?_
  refine gIconst X0 H d3_1 (z := (-1)) rfl 2 rfl ?_
  refine gCmpN X0 H d3_2 (by decide) 5 rfl ?_
  refine gAloadN X0 H d3_5 rfl rfl 6 rfl ?_
  refine gIconst X0 H d3_6 (z := 0) rfl 7 rfl ?_
  refine gPutF X0 H hZ hown (hw _ wd20) Via.refl e0 q722 q721 (Or.inl (hw _ wd21)) (hw _ wd3) (ty := .int) (by decide) (v' := (.int 0)) rfl rfl d3_7 10 rfl ?_
  intro T720 h720 X720 e720 W720 F720
  have O720 := extW O W720 q723
  have N720 := Fr.snoc X720 N0 q723
  have c724 := (q721.wr W720)
  have c726 := (q725.other W720 (Or.inr (sn2 hw)))
  have c728 := (q727.other W720 (Or.inr (sn3 hw)))
  have K_729 := (Keep.refl h [ro0]).wr W720 (Or.inl (List.mem_of_getElem? (i := 0) rfl))
  exact gRetV X720 H hlk hret d3_10 e720 ⟨rfl, N720, K_729, c724, F720, c726, c728⟩
theorem lawAll_4 (B : Bg Z a0 w_Trail_NO_ROOM k_w_Trail_NO_ROOM) (p0 : Int32) (p1 : Int32) (p2 : Int32) (p3 : Int32) (p4 : Int32) (p5 : Int32) (ha0 : ((p0 &&& (7 : Int32)) % (5 : Int32)) = (4 : Int32)) :
    Con l Z x code maxLocals ret room_1 #[(.int p0), (.int p1), (.int p2), (.int p3), (.int p4), (.int p5)] Z.heap (fun v h' L => v = some (.int 1) ∧ Fr Z.heap.size L) := by
  have hw := B.1
  obtain ⟨S_w_Trail_NO_ROOM, V_w_Trail_NO_ROOM⟩ := B.2
  refine Con.of (plainFor_of_name pn0) (Ls := #[vI p0, vI p1, vI p2, vI p3, vI p4, vI p5, .unset, .unset, .unset, .unset, .unset, .unset]) (fun _ => rfl) ?_
  intro p e s m below meth c T0 X0 H hml hZ hown hnm hret hlk e0
  have O0 := extR Z.heap
  have M0 := Nat.le_refl Z.heap.size
  have N0 := Fr.nil Z.heap.size
  refine gIloadN X0 H at_0 rfl 1 rfl ?_
  refine gBipush X0 H at_1 (z := 7) rfl 3 rfl ?_
  refine g_iand X0 H at_3 (z := (p0 &&& (7 : Int32))) rfl 4 rfl ?_
  refine gIconst X0 H at_4 (z := 5) rfl 5 rfl ?_
  refine g_irem X0 H at_5 (by decide) (z := 4) ha0 6 rfl ?_
  refine gIstore X0 H at_6 (Ls' := #[vI p0, vI p1, vI p2, vI p3, vI p4, vI p5, vI 4, .unset, .unset, .unset, .unset, .unset]) rfl 8 rfl ?_
  refine gIconst X0 H at_8 (z := 4) rfl 9 rfl ?_
  refine gNewP X0 H hZ (aty := .int) (hw _ wd0) e0 (by decide) (cap := 4) (by decide) (by decide) (vs := [(.int 0), (.int 0), (.int 0), (.int 0)]) rfl (by decide) (by decide) at_9 11 rfl ?_
  intro T488 h488 b488 k488 X488 e488 z488 E488 V488
  have G_b488 := Nat.le_trans O0.1 (Nat.le_of_eq z488)
  have sz_b488 := Nat.le_trans M0 (Nat.le_of_eq z488)
  have O488 := extT O0 E488
  refine gDup X488 H at_11 rfl 12 rfl ?_
  refine gIconst X488 H at_12 (z := 0) rfl 13 rfl ?_
  refine gIloadN X488 H at_13 rfl 14 rfl ?_
  refine gLdc X488 H hZ hown (hw _ wd1) at_14 16 rfl ?_
  refine g_iand X488 H at_16 (z := (p1 &&& (2147483647 : Int32))) rfl 17 rfl ?_
  refine gIastore X488 H hZ e488 V488 ⟨by decide, by decide⟩ (i := 0) rfl (Nat.le_of_ble_eq_true rfl) (vs' := [(.int (p1 &&& (2147483647 : Int32))), (.int 0), (.int 0), (.int 0)]) rfl at_17 18 rfl ?_
  intro T489 h489 X489 e489 W489 V489
  have O489 := extW O488 W489 G_b488
  have N489 := Fr.snoc X489 N0 G_b488
  refine gDup X489 H at_18 rfl 19 rfl ?_
  refine gIconst X489 H at_19 (z := 1) rfl 20 rfl ?_
  refine gIloadN X489 H at_20 rfl 21 rfl ?_
  refine gLdc X489 H hZ hown (hw _ wd1) at_21 23 rfl ?_
  refine g_iand X489 H at_23 (z := (p2 &&& (2147483647 : Int32))) rfl 24 rfl ?_
  refine gIastore X489 H hZ e489 V489 ⟨by decide, by decide⟩ (i := 1) rfl (Nat.le_of_ble_eq_true rfl) (vs' := [(.int (p1 &&& (2147483647 : Int32))), (.int (p2 &&& (2147483647 : Int32))), (.int 0), (.int 0)]) rfl at_24 25 rfl ?_
  intro T490 h490 X490 e490 W490 V490
  have O490 := extW O489 W490 G_b488
  have N490 := Fr.snoc X490 N489 G_b488
  refine gDup X490 H at_25 rfl 26 rfl ?_
  refine gIconst X490 H at_26 (z := 2) rfl 27 rfl ?_
  refine gIloadN X490 H at_27 rfl 28 rfl ?_
  refine gLdc X490 H hZ hown (hw _ wd1) at_28 30 rfl ?_
  refine g_iand X490 H at_30 (z := (p3 &&& (2147483647 : Int32))) rfl 31 rfl ?_
  refine gIastore X490 H hZ e490 V490 ⟨by decide, by decide⟩ (i := 2) rfl (Nat.le_of_ble_eq_true rfl) (vs' := [(.int (p1 &&& (2147483647 : Int32))), (.int (p2 &&& (2147483647 : Int32))), (.int (p3 &&& (2147483647 : Int32))), (.int 0)]) rfl at_31 32 rfl ?_
  intro T491 h491 X491 e491 W491 V491
  have O491 := extW O490 W491 G_b488
  have N491 := Fr.snoc X491 N490 G_b488
  refine gDup X491 H at_32 rfl 33 rfl ?_
  refine gIconst X491 H at_33 (z := 3) rfl 34 rfl ?_
  refine gIload X491 H at_34 rfl 36 rfl ?_
  refine gLdc X491 H hZ hown (hw _ wd1) at_36 38 rfl ?_
  refine g_iand X491 H at_38 (z := (p4 &&& (2147483647 : Int32))) rfl 39 rfl ?_
  refine gIastore X491 H hZ e491 V491 ⟨by decide, by decide⟩ (i := 3) rfl (Nat.le_of_ble_eq_true rfl) (vs' := [(.int (p1 &&& (2147483647 : Int32))), (.int (p2 &&& (2147483647 : Int32))), (.int (p3 &&& (2147483647 : Int32))), (.int (p4 &&& (2147483647 : Int32)))]) rfl at_39 40 rfl ?_
  intro T492 h492 X492 e492 W492 V492
  have O492 := extW O491 W492 G_b488
  have N492 := Fr.snoc X492 N491 G_b488
  refine gAstore X492 H at_40 rfl (Ls' := #[vI p0, vI p1, vI p2, vI p3, vI p4, vI p5, vI 4, vR b488, .unset, .unset, .unset, .unset]) rfl 42 rfl ?_
  refine gIload X492 H at_42 rfl 44 rfl ?_
  refine gIconst X492 H at_44 (z := 2) rfl 45 rfl ?_
  refine gCmpN X492 H at_45 (by decide) 48 rfl ?_
  refine gAload X492 H at_48 rfl rfl 50 rfl ?_
  refine gIconst X492 H at_50 (z := 0) rfl 51 rfl ?_
  refine gIaload X492 H hZ e492 V492 ⟨by decide, by decide⟩ (v := (.int (p1 &&& (2147483647 : Int32)))) rfl at_51 52 rfl ?_
  refine gAload X492 H at_52 rfl rfl 54 rfl ?_
  refine gIconst X492 H at_54 (z := 1) rfl 55 rfl ?_
  refine gIaload X492 H hZ e492 V492 ⟨by decide, by decide⟩ (v := (.int (p2 &&& (2147483647 : Int32)))) rfl at_55 56 rfl ?_
  by_cases hc495 : (p1 &&& (2147483647 : Int32)) = (p2 &&& (2147483647 : Int32))
  · refine gCmpN X492 H at_56 (teq hc495).2 59 rfl ?_
    refine gIconst X492 H at_59 (z := 1) rfl 60 rfl ?_
    exact gRetN X492 H hlk hret (t := .boolean) (by simp) at_60 e492 ⟨rfl, N492⟩
  · refine gCmpY X492 H at_56 (feq hc495).2 (by decide) 61 rfl ?_
    refine gIload X492 H at_61 rfl 63 rfl ?_
    refine gIconst X492 H at_63 (z := 3) rfl 64 rfl ?_
    refine gCmpN X492 H at_64 (by decide) 67 rfl ?_
    refine gAload X492 H at_67 rfl rfl 69 rfl ?_
    refine gIconst X492 H at_69 (z := 0) rfl 70 rfl ?_
    refine gIaload X492 H hZ e492 V492 ⟨by decide, by decide⟩ (v := (.int (p1 &&& (2147483647 : Int32)))) rfl at_70 71 rfl ?_
    refine gAload X492 H at_71 rfl rfl 73 rfl ?_
    refine gIconst X492 H at_73 (z := 2) rfl 74 rfl ?_
    refine gIaload X492 H hZ e492 V492 ⟨by decide, by decide⟩ (v := (.int (p3 &&& (2147483647 : Int32)))) rfl at_74 75 rfl ?_
    by_cases hc498 : (p1 &&& (2147483647 : Int32)) = (p3 &&& (2147483647 : Int32))
    · refine gCmpY X492 H at_75 (teq hc498).1 (by decide) 89 rfl ?_
      refine gIconst X492 H at_89 (z := 1) rfl 90 rfl ?_
      exact gRetN X492 H hlk hret (t := .boolean) (by simp) at_90 e492 ⟨rfl, N492⟩
    · refine gCmpN X492 H at_75 (feq hc498).1 78 rfl ?_
      refine gAload X492 H at_78 rfl rfl 80 rfl ?_
      refine gIconst X492 H at_80 (z := 1) rfl 81 rfl ?_
      refine gIaload X492 H hZ e492 V492 ⟨by decide, by decide⟩ (v := (.int (p2 &&& (2147483647 : Int32)))) rfl at_81 82 rfl ?_
      refine gAload X492 H at_82 rfl rfl 84 rfl ?_
      refine gIconst X492 H at_84 (z := 2) rfl 85 rfl ?_
      refine gIaload X492 H hZ e492 V492 ⟨by decide, by decide⟩ (v := (.int (p3 &&& (2147483647 : Int32)))) rfl at_85 86 rfl ?_
      by_cases hc501 : (p2 &&& (2147483647 : Int32)) = (p3 &&& (2147483647 : Int32))
      · refine gCmpN X492 H at_86 (teq hc501).2 89 rfl ?_
        refine gIconst X492 H at_89 (z := 1) rfl 90 rfl ?_
        exact gRetN X492 H hlk hret (t := .boolean) (by simp) at_90 e492 ⟨rfl, N492⟩
      · refine gCmpY X492 H at_86 (feq hc501).2 (by decide) 91 rfl ?_
        refine gIload X492 H at_91 rfl 93 rfl ?_
        refine gIconst X492 H at_93 (z := 4) rfl 94 rfl ?_
        refine gCmpN X492 H at_94 (by decide) 97 rfl ?_
        refine gAload X492 H at_97 rfl rfl 99 rfl ?_
        refine gIconst X492 H at_99 (z := 0) rfl 100 rfl ?_
        refine gIaload X492 H hZ e492 V492 ⟨by decide, by decide⟩ (v := (.int (p1 &&& (2147483647 : Int32)))) rfl at_100 101 rfl ?_
        refine gAload X492 H at_101 rfl rfl 103 rfl ?_
        refine gIconst X492 H at_103 (z := 3) rfl 104 rfl ?_
        refine gIaload X492 H hZ e492 V492 ⟨by decide, by decide⟩ (v := (.int (p4 &&& (2147483647 : Int32)))) rfl at_104 105 rfl ?_
        by_cases hc504 : (p1 &&& (2147483647 : Int32)) = (p4 &&& (2147483647 : Int32))
        · refine gCmpY X492 H at_105 (teq hc504).1 (by decide) 130 rfl ?_
          refine gIconst X492 H at_130 (z := 1) rfl 131 rfl ?_
          exact gRetN X492 H hlk hret (t := .boolean) (by simp) at_131 e492 ⟨rfl, N492⟩
        · refine gCmpN X492 H at_105 (feq hc504).1 108 rfl ?_
          refine gAload X492 H at_108 rfl rfl 110 rfl ?_
          refine gIconst X492 H at_110 (z := 1) rfl 111 rfl ?_
          refine gIaload X492 H hZ e492 V492 ⟨by decide, by decide⟩ (v := (.int (p2 &&& (2147483647 : Int32)))) rfl at_111 112 rfl ?_
          refine gAload X492 H at_112 rfl rfl 114 rfl ?_
          refine gIconst X492 H at_114 (z := 3) rfl 115 rfl ?_
          refine gIaload X492 H hZ e492 V492 ⟨by decide, by decide⟩ (v := (.int (p4 &&& (2147483647 : Int32)))) rfl at_115 116 rfl ?_
          by_cases hc507 : (p2 &&& (2147483647 : Int32)) = (p4 &&& (2147483647 : Int32))
          · refine gCmpY X492 H at_116 (teq hc507).1 (by decide) 130 rfl ?_
            refine gIconst X492 H at_130 (z := 1) rfl 131 rfl ?_
            exact gRetN X492 H hlk hret (t := .boolean) (by simp) at_131 e492 ⟨rfl, N492⟩
          · refine gCmpN X492 H at_116 (feq hc507).1 119 rfl ?_
            refine gAload X492 H at_119 rfl rfl 121 rfl ?_
            refine gIconst X492 H at_121 (z := 2) rfl 122 rfl ?_
            refine gIaload X492 H hZ e492 V492 ⟨by decide, by decide⟩ (v := (.int (p3 &&& (2147483647 : Int32)))) rfl at_122 123 rfl ?_
            refine gAload X492 H at_123 rfl rfl 125 rfl ?_
            refine gIconst X492 H at_125 (z := 3) rfl 126 rfl ?_
            refine gIaload X492 H hZ e492 V492 ⟨by decide, by decide⟩ (v := (.int (p4 &&& (2147483647 : Int32)))) rfl at_126 127 rfl ?_
            by_cases hc510 : (p3 &&& (2147483647 : Int32)) = (p4 &&& (2147483647 : Int32))
            · refine gCmpN X492 H at_127 (teq hc510).2 130 rfl ?_
              refine gIconst X492 H at_130 (z := 1) rfl 131 rfl ?_
              exact gRetN X492 H hlk hret (t := .boolean) (by simp) at_131 e492 ⟨rfl, N492⟩
            · refine gCmpY X492 H at_127 (feq hc510).2 (by decide) 132 rfl ?_
              refine gNew X492 H hZ hown (hw _ wd2) (hw _ wd3) (hw _ wd4) e492 (by decide) (by decide) at_132 135 rfl ?_
              intro T511 h511 b511 X511 e511 z511 E511 A511 D511
              have M512 := (leW (leW (leW (leW (Nat.le_trans M0 E488.1) W489) W490) W491) W492)
              have G_b511 := Nat.le_trans O492.1 (Nat.le_of_eq z511)
              have sz_b511 := Nat.le_trans M512 (Nat.le_of_eq z511)
              have ne_b488_b511 : b488 ≠ b511 := neB V492.lt (Nat.le_of_eq z511)
              have O511 := extT O492 E511
              have F511_entries : Fld Z h511 b511 cs0 "entries" "[I" .null := D511 (Or.inl (hw _ wd14)) (ty := (.array .int)) (by decide)
              have F511_depth : Fld Z h511 b511 cs0 "depth" "I" (.int 0) := D511 (Or.inl (hw _ wd21)) (ty := .int) (by decide)
              have F511_unchanged : Fld Z h511 b511 cs0 "unchanged" "B" (.int 0) := D511 (Or.inl (hw _ wd56)) (ty := .byte) (by decide)
              refine gDup X511 H at_135 rfl 136 rfl ?_
              refine gSpecial X511 H hZ hown rfl rfl (hw _ wd5) (hw _ wd6) (by decide) (hw _ wd7) (hw _ wd4) (rm20_1 B b511 _ O511 A511 F511_entries G_b511 F511_depth F511_unchanged) e511 hml rfl pd0 rfl (W := 1) (argsL := []) (rest := [(.ref b511)]) rfl rfl at_136 139 rfl ?_
              intro v513 T513 L513 hq513 X513
              obtain ⟨rfl, N513q, K513, f513_0, f513_1, f513_2, f513_3⟩ := hq513
              have O513 := extK O511 K513 (allS G_b511 all0)
              have N513 := Fr.app N492 N513q
              show Go _ _ _ _ (State.setTop _ (mkF _ 139 _ [(.ref b511)]))
              refine gAstore X513 H at_139 rfl (Ls' := #[vI p0, vI p1, vI p2, vI p3, vI p4, vI p5, vI 4, vR b488, vR b511, .unset, .unset, .unset]) rfl 141 rfl ?_
              refine gIload X513 H at_141 rfl 143 rfl ?_
              refine gIconst X513 H at_143 (z := 1) rfl 144 rfl ?_
              refine gCmpN X513 H at_144 (by decide) 147 rfl ?_
              refine gAload X513 H at_147 rfl rfl 149 rfl ?_
              refine gAload X513 H at_149 rfl rfl 151 rfl ?_
              refine gIconst X513 H at_151 (z := 0) rfl 152 rfl ?_
              have c515 := ((V492.ext E511).keep K513 (ninS ne_b488_b511 nin0))
              refine gIaload X513 H hZ rfl c515 ⟨by decide, by decide⟩ (v := (.int (p1 &&& (2147483647 : Int32)))) rfl at_152 153 rfl ?_
              refine gVirt X513 H hZ hown (hw _ wd27) (hw _ wd28) (hw _ wd30) (hw _ wd29) (by decide) f513_0 (hw _ wd31) (hw _ wd4) (rm107_5 B b511 ((p1 &&& (2147483647 : Int32))) _ O513 f513_2 f513_1 f513_0 G_b511 f513_3) rfl hml rfl pd1 rfl (W := 0) (argsL := [(.int (p1 &&& (2147483647 : Int32)))]) (rest := []) rfl rfl at_153 156 rfl ?_
              intro v516 T516 L516 hq516 X516
              obtain ⟨b516_0, k516_0, rfl, N516q, K516, s516_0, f516_0, f516_1, f516_2, f516_3, f516_4⟩ := hq516
              have M517 := (Nat.le_trans (Nat.le_trans M512 E511.1) K513.1)
              have G_b516_0 := Nat.le_trans O513.1 s516_0
              have sz_b516_0 := Nat.le_trans M517 s516_0
              have ne_b488_b516_0 : b488 ≠ b516_0 := neB c515.lt s516_0
              have ne_b511_b516_0 : b511 ≠ b516_0 := neB f513_0.lt s516_0
              have O516 := extK O513 K516 (allS G_b511 all0)
              have N516 := Fr.app N513 N516q
              show Go _ _ _ _ (State.setTop _ (mkF _ 156 _ []))
              refine gIload X516 H at_156 rfl 158 rfl ?_
              refine gIconst X516 H at_158 (z := 2) rfl 159 rfl ?_
              refine gCmpN X516 H at_159 (by decide) 162 rfl ?_
              refine gAload X516 H at_162 rfl rfl 164 rfl ?_
              refine gAload X516 H at_164 rfl rfl 166 rfl ?_
              refine gIconst X516 H at_166 (z := 1) rfl 167 rfl ?_
              have c519 := (c515.keep K516 (ninS ne_b488_b511 nin0))
              refine gIaload X516 H hZ rfl c519 ⟨by decide, by decide⟩ (v := (.int (p2 &&& (2147483647 : Int32)))) rfl at_167 168 rfl ?_
              refine gVirt X516 H hZ hown (hw _ wd27) (hw _ wd28) (hw _ wd30) (hw _ wd29) (by decide) f516_2 (hw _ wd31) (hw _ wd4) (rm207_5 B b511 ((p2 &&& (2147483647 : Int32))) b516_0 k516_0 ((p1 &&& (2147483647 : Int32))) _ O516 f516_0 f516_1 (Arv.arl f516_4) f516_2 f516_3 f516_4 G_b516_0 ne_b511_b516_0 G_b511) rfl hml rfl pd1 rfl (W := 0) (argsL := [(.int (p2 &&& (2147483647 : Int32)))]) (rest := []) rfl rfl at_168 171 rfl ?_
              intro v520 T520 L520 hq520 X520
              obtain ⟨rfl, N520q, K520, f520_0, f520_1, f520_2, f520_3, f520_4⟩ := hq520
              have O520 := extK O516 K520 (allS G_b516_0 (allS G_b511 all0))
              have N520 := Fr.app N516 N520q
              show Go _ _ _ _ (State.setTop _ (mkF _ 171 _ []))
              refine gIload X520 H at_171 rfl 173 rfl ?_
              refine gIconst X520 H at_173 (z := 3) rfl 174 rfl ?_
              refine gCmpN X520 H at_174 (by decide) 177 rfl ?_
              refine gAload X520 H at_177 rfl rfl 179 rfl ?_
              refine gAload X520 H at_179 rfl rfl 181 rfl ?_
              refine gIconst X520 H at_181 (z := 2) rfl 182 rfl ?_
              have c522 := (c519.keep K520 (ninS ne_b488_b516_0 (ninS ne_b488_b511 nin0)))
              refine gIaload X520 H hZ rfl c522 ⟨by decide, by decide⟩ (v := (.int (p3 &&& (2147483647 : Int32)))) rfl at_182 183 rfl ?_
              refine gVirt X520 H hZ hown (hw _ wd27) (hw _ wd28) (hw _ wd30) (hw _ wd29) (by decide) f520_2 (hw _ wd31) (hw _ wd4) (rm353_5 B b511 ((p3 &&& (2147483647 : Int32))) b516_0 k516_0 ((p1 &&& (2147483647 : Int32))) ((p2 &&& (2147483647 : Int32))) _ O520 f520_0 f520_1 (Arv.arl f520_4) f520_2 f520_3 f520_4 G_b516_0 ne_b511_b516_0 G_b511) rfl hml rfl pd1 rfl (W := 0) (argsL := [(.int (p3 &&& (2147483647 : Int32)))]) (rest := []) rfl rfl at_183 186 rfl ?_
              intro v523 T523 L523 hq523 X523
              obtain ⟨rfl, N523q, K523, f523_0, f523_1, f523_2, f523_3, f523_4⟩ := hq523
              have O523 := extK O520 K523 (allS G_b516_0 (allS G_b511 all0))
              have N523 := Fr.app N520 N523q
              show Go _ _ _ _ (State.setTop _ (mkF _ 186 _ []))
              refine gIload X523 H at_186 rfl 188 rfl ?_
              refine gIconst X523 H at_188 (z := 4) rfl 189 rfl ?_
              refine gCmpN X523 H at_189 (by decide) 192 rfl ?_
              refine gAload X523 H at_192 rfl rfl 194 rfl ?_
              refine gAload X523 H at_194 rfl rfl 196 rfl ?_
              refine gIconst X523 H at_196 (z := 3) rfl 197 rfl ?_
              have c525 := (c522.keep K523 (ninS ne_b488_b516_0 (ninS ne_b488_b511 nin0)))
              refine gIaload X523 H hZ rfl c525 ⟨by decide, by decide⟩ (v := (.int (p4 &&& (2147483647 : Int32)))) rfl at_197 198 rfl ?_
              refine gVirt X523 H hZ hown (hw _ wd27) (hw _ wd28) (hw _ wd30) (hw _ wd29) (by decide) f523_2 (hw _ wd31) (hw _ wd4) (rm556_5 B b511 ((p4 &&& (2147483647 : Int32))) b516_0 k516_0 ((p1 &&& (2147483647 : Int32))) ((p2 &&& (2147483647 : Int32))) ((p3 &&& (2147483647 : Int32))) _ O523 f523_0 f523_1 (Arv.arl f523_4) f523_2 f523_3 f523_4 G_b516_0 ne_b511_b516_0 G_b511) rfl hml rfl pd1 rfl (W := 0) (argsL := [(.int (p4 &&& (2147483647 : Int32)))]) (rest := []) rfl rfl at_198 201 rfl ?_
              intro v557 T557 L557 hq557 X557
              obtain ⟨rfl, N557q, K557, f557_0, f557_1, f557_2, f557_3, f557_4⟩ := hq557
              have O557 := extK O523 K557 (allS G_b516_0 (allS G_b511 all0))
              have N557 := Fr.app N523 N557q
              show Go _ _ _ _ (State.setTop _ (mkF _ 201 _ []))
              refine gIload X557 H at_201 rfl 203 rfl ?_
              refine gLdc X557 H hZ hown (hw _ wd1) at_203 205 rfl ?_
              refine g_iand X557 H at_205 (z := (p5 &&& (2147483647 : Int32))) rfl 206 rfl ?_
              refine gIload X557 H at_206 rfl 208 rfl ?_
              refine gIconst X557 H at_208 (z := 1) rfl 209 rfl ?_
              refine g_iadd X557 H at_209 (z := 5) (by decide) 210 rfl ?_
              rcases mod_5 p5 with hn558 | hn558 | hn558 | hn558 | hn558
              · refine g_irem X557 H at_210 (by decide) (z := 0) hn558 211 rfl ?_
                refine gIstore X557 H at_211 (Ls' := #[vI p0, vI p1, vI p2, vI p3, vI p4, vI p5, vI 4, vR b488, vR b511, vI 0, .unset, .unset]) rfl 213 rfl ?_
                refine gIload X557 H at_213 rfl 215 rfl ?_
                refine gIload X557 H at_215 rfl 217 rfl ?_
                refine gCmpY X557 H at_217 (by decide) (by decide) 229 rfl ?_
                refine gAload X557 H at_229 rfl rfl 231 rfl ?_
                refine gIload X557 H at_231 rfl 233 rfl ?_
                have c560 := (c525.keep K557 (ninS ne_b488_b516_0 (ninS ne_b488_b511 nin0)))
                refine gIaload X557 H hZ rfl c560 ⟨by decide, by decide⟩ (v := (.int (p1 &&& (2147483647 : Int32)))) rfl at_233 234 rfl ?_
                refine gIstore X557 H at_234 (Ls' := #[vI p0, vI p1, vI p2, vI p3, vI p4, vI p5, vI 4, vR b488, vR b511, vI 0, vI (p1 &&& (2147483647 : Int32)), .unset]) rfl 236 rfl ?_
                refine gIload X557 H at_236 rfl 238 rfl ?_
                refine gIconst X557 H at_238 (z := 1) rfl 239 rfl ?_
                refine g_iadd X557 H at_239 (z := 1) (by decide) 240 rfl ?_
                refine gIstore X557 H at_240 (Ls' := #[vI p0, vI p1, vI p2, vI p3, vI p4, vI p5, vI 4, vR b488, vR b511, vI 0, vI (p1 &&& (2147483647 : Int32)), vI 1]) rfl 242 rfl ?_
                refine gAload X557 H at_242 rfl rfl 244 rfl ?_
                refine gIload X557 H at_244 rfl 246 rfl ?_
                refine gVirt X557 H hZ hown (hw _ wd15) (hw _ wd16) (hw _ wd18) (hw _ wd17) (by decide) f557_2 (hw _ wd19) (hw _ wd4) (rm585_3 B b511 ((p1 &&& (2147483647 : Int32))) b516_0 k516_0 ((p2 &&& (2147483647 : Int32))) ((p3 &&& (2147483647 : Int32))) ((p4 &&& (2147483647 : Int32))) _ O557 f557_0 f557_1 f557_4 f557_2 G_b511 f557_3 (mask_ne p1) (Ne.symm hc504) (Ne.symm hc498) (Ne.symm hc495)) rfl hml rfl pd1 rfl (W := 0) (argsL := [(.int (p1 &&& (2147483647 : Int32)))]) (rest := []) rfl rfl at_246 249 rfl ?_
                intro v586 T586 L586 hq586 X586
                obtain ⟨rfl, N586q, K586, f586_0, f586_1, f586_2, f586_3⟩ := hq586
                have O586 := extK O557 K586 (allS G_b511 all0)
                have N586 := Fr.app N557 N586q
                show Go _ _ _ _ (State.setTop _ (mkF _ 249 _ []))
                refine gAload X586 H at_249 rfl rfl 251 rfl ?_
                refine gVirt X586 H hZ hown (hw _ wd22) (hw _ wd23) (hw _ wd25) (hw _ wd24) (by decide) f586_2 (hw _ wd26) (hw _ wd4) (rm132_4 B b511 _ O586 f586_0) rfl hml rfl pd2 rfl (W := 0) (argsL := []) (rest := []) rfl rfl at_251 254 rfl ?_
                intro v587 T587 L587 hq587 X587
                obtain ⟨rfl, e587, rfl⟩ := hq587
                have N587 := Fr.app N586 (Fr.nil _)
                show Go _ _ _ _ (State.setTop _ (mkF _ 254 _ [(.int 1)]))
                refine gIload X587 H at_254 rfl 256 rfl ?_
                refine gCmpY X587 H at_256 (by decide) (by decide) 261 rfl ?_
                refine gIload X587 H at_261 rfl 263 rfl ?_
                refine gIconst X587 H at_263 (z := 1) rfl 264 rfl ?_
                refine gCmpN X587 H at_264 (by decide) 267 rfl ?_
                refine gAload X587 H at_267 rfl rfl 269 rfl ?_
                refine gIconst X587 H at_269 (z := 0) rfl 270 rfl ?_
                have c593 := (f557_4.keep K586 (ninS (Ne.symm ne_b511_b516_0) nin0))
                refine gVirt X587 H hZ hown (hw _ wd57) (hw _ wd58) (hw _ wd60) (hw _ wd59) (by decide) f586_2 (hw _ wd61) (hw _ wd4) (rm592_11 B b511 b516_0 k516_0 ((p1 &&& (2147483647 : Int32))) ((p2 &&& (2147483647 : Int32))) ((p3 &&& (2147483647 : Int32))) ((p4 &&& (2147483647 : Int32))) _ O586 f586_1 c593) e587 hml rfl pd5 rfl (W := 0) (argsL := [(.int 0)]) (rest := []) rfl rfl at_270 273 rfl ?_
                intro v594 T594 L594 hq594 X594
                obtain ⟨rfl, e594, rfl⟩ := hq594
                have N594 := Fr.app N587 (Fr.nil _)
                show Go _ _ _ _ (State.setTop _ (mkF _ 273 _ [(.int (p1 &&& (2147483647 : Int32)))]))
                refine gAload X594 H at_273 rfl rfl 275 rfl ?_
                refine gIconst X594 H at_275 (z := 0) rfl 276 rfl ?_
                have c596 := (c560.keep K586 (ninS ne_b488_b511 nin0))
                refine gIaload X594 H hZ e594 c596 ⟨by decide, by decide⟩ (v := (.int (p1 &&& (2147483647 : Int32)))) rfl at_276 277 rfl ?_
                refine gCmpY X594 H at_277 (teq rfl).1 (by decide) 282 rfl ?_
                refine gIload X594 H at_282 rfl 284 rfl ?_
                refine gIconst X594 H at_284 (z := 2) rfl 285 rfl ?_
                refine gCmpN X594 H at_285 (by decide) 288 rfl ?_
                refine gAload X594 H at_288 rfl rfl 290 rfl ?_
                refine gIconst X594 H at_290 (z := 1) rfl 291 rfl ?_
                refine gVirt X594 H hZ hown (hw _ wd57) (hw _ wd58) (hw _ wd60) (hw _ wd59) (by decide) f586_2 (hw _ wd61) (hw _ wd4) (rm601_11 B b511 b516_0 k516_0 ((p1 &&& (2147483647 : Int32))) ((p2 &&& (2147483647 : Int32))) ((p3 &&& (2147483647 : Int32))) ((p4 &&& (2147483647 : Int32))) _ O586 f586_1 c593) e594 hml rfl pd5 rfl (W := 0) (argsL := [(.int 1)]) (rest := []) rfl rfl at_291 294 rfl ?_
                intro v602 T602 L602 hq602 X602
                obtain ⟨rfl, e602, rfl⟩ := hq602
                have N602 := Fr.app N594 (Fr.nil _)
                show Go _ _ _ _ (State.setTop _ (mkF _ 294 _ [(.int (p2 &&& (2147483647 : Int32)))]))
                refine gAload X602 H at_294 rfl rfl 296 rfl ?_
                refine gIconst X602 H at_296 (z := 1) rfl 297 rfl ?_
                refine gIaload X602 H hZ e602 c596 ⟨by decide, by decide⟩ (v := (.int (p2 &&& (2147483647 : Int32)))) rfl at_297 298 rfl ?_
                refine gCmpY X602 H at_298 (teq rfl).1 (by decide) 303 rfl ?_
                refine gIload X602 H at_303 rfl 305 rfl ?_
                refine gIconst X602 H at_305 (z := 3) rfl 306 rfl ?_
                refine gCmpN X602 H at_306 (by decide) 309 rfl ?_
                refine gAload X602 H at_309 rfl rfl 311 rfl ?_
                refine gIconst X602 H at_311 (z := 2) rfl 312 rfl ?_
                refine gVirt X602 H hZ hown (hw _ wd57) (hw _ wd58) (hw _ wd60) (hw _ wd59) (by decide) f586_2 (hw _ wd61) (hw _ wd4) (rm608_11 B b511 b516_0 k516_0 ((p1 &&& (2147483647 : Int32))) ((p2 &&& (2147483647 : Int32))) ((p3 &&& (2147483647 : Int32))) ((p4 &&& (2147483647 : Int32))) _ O586 f586_1 c593) e602 hml rfl pd5 rfl (W := 0) (argsL := [(.int 2)]) (rest := []) rfl rfl at_312 315 rfl ?_
                intro v609 T609 L609 hq609 X609
                obtain ⟨rfl, e609, rfl⟩ := hq609
                have N609 := Fr.app N602 (Fr.nil _)
                show Go _ _ _ _ (State.setTop _ (mkF _ 315 _ [(.int (p3 &&& (2147483647 : Int32)))]))
                refine gAload X609 H at_315 rfl rfl 317 rfl ?_
                refine gIconst X609 H at_317 (z := 2) rfl 318 rfl ?_
                refine gIaload X609 H hZ e609 c596 ⟨by decide, by decide⟩ (v := (.int (p3 &&& (2147483647 : Int32)))) rfl at_318 319 rfl ?_
                refine gCmpY X609 H at_319 (teq rfl).1 (by decide) 324 rfl ?_
                refine gIload X609 H at_324 rfl 326 rfl ?_
                refine gIconst X609 H at_326 (z := 4) rfl 327 rfl ?_
                refine gCmpN X609 H at_327 (by decide) 330 rfl ?_
                refine gAload X609 H at_330 rfl rfl 332 rfl ?_
                refine gIconst X609 H at_332 (z := 3) rfl 333 rfl ?_
                refine gVirt X609 H hZ hown (hw _ wd57) (hw _ wd58) (hw _ wd60) (hw _ wd59) (by decide) f586_2 (hw _ wd61) (hw _ wd4) (rm615_11 B b511 b516_0 k516_0 ((p1 &&& (2147483647 : Int32))) ((p2 &&& (2147483647 : Int32))) ((p3 &&& (2147483647 : Int32))) ((p4 &&& (2147483647 : Int32))) _ O586 f586_1 c593) e609 hml rfl pd5 rfl (W := 0) (argsL := [(.int 3)]) (rest := []) rfl rfl at_333 336 rfl ?_
                intro v616 T616 L616 hq616 X616
                obtain ⟨rfl, e616, rfl⟩ := hq616
                have N616 := Fr.app N609 (Fr.nil _)
                show Go _ _ _ _ (State.setTop _ (mkF _ 336 _ [(.int (p4 &&& (2147483647 : Int32)))]))
                refine gAload X616 H at_336 rfl rfl 338 rfl ?_
                refine gIconst X616 H at_338 (z := 3) rfl 339 rfl ?_
                refine gIaload X616 H hZ e616 c596 ⟨by decide, by decide⟩ (v := (.int (p4 &&& (2147483647 : Int32)))) rfl at_339 340 rfl ?_
                refine gCmpY X616 H at_340 (teq rfl).1 (by decide) 345 rfl ?_
                refine gIconst X616 H at_345 (z := 1) rfl 346 rfl ?_
                exact gRetN X616 H hlk hret (t := .boolean) (by simp) at_346 e616 ⟨rfl, N616⟩
              · refine g_irem X557 H at_210 (by decide) (z := 1) hn558 211 rfl ?_
                refine gIstore X557 H at_211 (Ls' := #[vI p0, vI p1, vI p2, vI p3, vI p4, vI p5, vI 4, vR b488, vR b511, vI 1, .unset, .unset]) rfl 213 rfl ?_
                refine gIload X557 H at_213 rfl 215 rfl ?_
                refine gIload X557 H at_215 rfl 217 rfl ?_
                refine gCmpY X557 H at_217 (by decide) (by decide) 229 rfl ?_
                refine gAload X557 H at_229 rfl rfl 231 rfl ?_
                refine gIload X557 H at_231 rfl 233 rfl ?_
                have c619 := (c525.keep K557 (ninS ne_b488_b516_0 (ninS ne_b488_b511 nin0)))
                refine gIaload X557 H hZ rfl c619 ⟨by decide, by decide⟩ (v := (.int (p2 &&& (2147483647 : Int32)))) rfl at_233 234 rfl ?_
                refine gIstore X557 H at_234 (Ls' := #[vI p0, vI p1, vI p2, vI p3, vI p4, vI p5, vI 4, vR b488, vR b511, vI 1, vI (p2 &&& (2147483647 : Int32)), .unset]) rfl 236 rfl ?_
                refine gIload X557 H at_236 rfl 238 rfl ?_
                refine gIconst X557 H at_238 (z := 1) rfl 239 rfl ?_
                refine g_iadd X557 H at_239 (z := 2) (by decide) 240 rfl ?_
                refine gIstore X557 H at_240 (Ls' := #[vI p0, vI p1, vI p2, vI p3, vI p4, vI p5, vI 4, vR b488, vR b511, vI 1, vI (p2 &&& (2147483647 : Int32)), vI 2]) rfl 242 rfl ?_
                refine gAload X557 H at_242 rfl rfl 244 rfl ?_
                refine gIload X557 H at_244 rfl 246 rfl ?_
                refine gVirt X557 H hZ hown (hw _ wd15) (hw _ wd16) (hw _ wd18) (hw _ wd17) (by decide) f557_2 (hw _ wd19) (hw _ wd4) (rm641_3 B b511 ((p2 &&& (2147483647 : Int32))) b516_0 k516_0 ((p1 &&& (2147483647 : Int32))) ((p3 &&& (2147483647 : Int32))) ((p4 &&& (2147483647 : Int32))) _ O557 f557_0 f557_1 f557_4 f557_2 G_b511 f557_3 (mask_ne p2) (Ne.symm hc507) (Ne.symm hc501)) rfl hml rfl pd1 rfl (W := 0) (argsL := [(.int (p2 &&& (2147483647 : Int32)))]) (rest := []) rfl rfl at_246 249 rfl ?_
                intro v642 T642 L642 hq642 X642
                obtain ⟨rfl, N642q, K642, f642_0, f642_1, f642_2, f642_3⟩ := hq642
                have O642 := extK O557 K642 (allS G_b511 all0)
                have N642 := Fr.app N557 N642q
                show Go _ _ _ _ (State.setTop _ (mkF _ 249 _ []))
                refine gAload X642 H at_249 rfl rfl 251 rfl ?_
                refine gVirt X642 H hZ hown (hw _ wd22) (hw _ wd23) (hw _ wd25) (hw _ wd24) (by decide) f642_2 (hw _ wd26) (hw _ wd4) (rm270_4 B b511 _ O642 f642_0) rfl hml rfl pd2 rfl (W := 0) (argsL := []) (rest := []) rfl rfl at_251 254 rfl ?_
                intro v643 T643 L643 hq643 X643
                obtain ⟨rfl, e643, rfl⟩ := hq643
                have N643 := Fr.app N642 (Fr.nil _)
                show Go _ _ _ _ (State.setTop _ (mkF _ 254 _ [(.int 2)]))
                refine gIload X643 H at_254 rfl 256 rfl ?_
                refine gCmpY X643 H at_256 (by decide) (by decide) 261 rfl ?_
                refine gIload X643 H at_261 rfl 263 rfl ?_
                refine gIconst X643 H at_263 (z := 1) rfl 264 rfl ?_
                refine gCmpN X643 H at_264 (by decide) 267 rfl ?_
                refine gAload X643 H at_267 rfl rfl 269 rfl ?_
                refine gIconst X643 H at_269 (z := 0) rfl 270 rfl ?_
                have c644 := (f557_4.keep K642 (ninS (Ne.symm ne_b511_b516_0) nin0))
                refine gVirt X643 H hZ hown (hw _ wd57) (hw _ wd58) (hw _ wd60) (hw _ wd59) (by decide) f642_2 (hw _ wd61) (hw _ wd4) (rm592_11 B b511 b516_0 k516_0 ((p1 &&& (2147483647 : Int32))) ((p2 &&& (2147483647 : Int32))) ((p3 &&& (2147483647 : Int32))) ((p4 &&& (2147483647 : Int32))) _ O642 f642_1 c644) e643 hml rfl pd5 rfl (W := 0) (argsL := [(.int 0)]) (rest := []) rfl rfl at_270 273 rfl ?_
                intro v645 T645 L645 hq645 X645
                obtain ⟨rfl, e645, rfl⟩ := hq645
                have N645 := Fr.app N643 (Fr.nil _)
                show Go _ _ _ _ (State.setTop _ (mkF _ 273 _ [(.int (p1 &&& (2147483647 : Int32)))]))
                refine gAload X645 H at_273 rfl rfl 275 rfl ?_
                refine gIconst X645 H at_275 (z := 0) rfl 276 rfl ?_
                have c647 := (c619.keep K642 (ninS ne_b488_b511 nin0))
                refine gIaload X645 H hZ e645 c647 ⟨by decide, by decide⟩ (v := (.int (p1 &&& (2147483647 : Int32)))) rfl at_276 277 rfl ?_
                refine gCmpY X645 H at_277 (teq rfl).1 (by decide) 282 rfl ?_
                refine gIload X645 H at_282 rfl 284 rfl ?_
                refine gIconst X645 H at_284 (z := 2) rfl 285 rfl ?_
                refine gCmpN X645 H at_285 (by decide) 288 rfl ?_
                refine gAload X645 H at_288 rfl rfl 290 rfl ?_
                refine gIconst X645 H at_290 (z := 1) rfl 291 rfl ?_
                refine gVirt X645 H hZ hown (hw _ wd57) (hw _ wd58) (hw _ wd60) (hw _ wd59) (by decide) f642_2 (hw _ wd61) (hw _ wd4) (rm601_11 B b511 b516_0 k516_0 ((p1 &&& (2147483647 : Int32))) ((p2 &&& (2147483647 : Int32))) ((p3 &&& (2147483647 : Int32))) ((p4 &&& (2147483647 : Int32))) _ O642 f642_1 c644) e645 hml rfl pd5 rfl (W := 0) (argsL := [(.int 1)]) (rest := []) rfl rfl at_291 294 rfl ?_
                intro v648 T648 L648 hq648 X648
                obtain ⟨rfl, e648, rfl⟩ := hq648
                have N648 := Fr.app N645 (Fr.nil _)
                show Go _ _ _ _ (State.setTop _ (mkF _ 294 _ [(.int (p2 &&& (2147483647 : Int32)))]))
                refine gAload X648 H at_294 rfl rfl 296 rfl ?_
                refine gIconst X648 H at_296 (z := 1) rfl 297 rfl ?_
                refine gIaload X648 H hZ e648 c647 ⟨by decide, by decide⟩ (v := (.int (p2 &&& (2147483647 : Int32)))) rfl at_297 298 rfl ?_
                refine gCmpY X648 H at_298 (teq rfl).1 (by decide) 303 rfl ?_
                refine gIload X648 H at_303 rfl 305 rfl ?_
                refine gIconst X648 H at_305 (z := 3) rfl 306 rfl ?_
                refine gCmpN X648 H at_306 (by decide) 309 rfl ?_
                refine gAload X648 H at_309 rfl rfl 311 rfl ?_
                refine gIconst X648 H at_311 (z := 2) rfl 312 rfl ?_
                refine gVirt X648 H hZ hown (hw _ wd57) (hw _ wd58) (hw _ wd60) (hw _ wd59) (by decide) f642_2 (hw _ wd61) (hw _ wd4) (rm608_11 B b511 b516_0 k516_0 ((p1 &&& (2147483647 : Int32))) ((p2 &&& (2147483647 : Int32))) ((p3 &&& (2147483647 : Int32))) ((p4 &&& (2147483647 : Int32))) _ O642 f642_1 c644) e648 hml rfl pd5 rfl (W := 0) (argsL := [(.int 2)]) (rest := []) rfl rfl at_312 315 rfl ?_
                intro v650 T650 L650 hq650 X650
                obtain ⟨rfl, e650, rfl⟩ := hq650
                have N650 := Fr.app N648 (Fr.nil _)
                show Go _ _ _ _ (State.setTop _ (mkF _ 315 _ [(.int (p3 &&& (2147483647 : Int32)))]))
                refine gAload X650 H at_315 rfl rfl 317 rfl ?_
                refine gIconst X650 H at_317 (z := 2) rfl 318 rfl ?_
                refine gIaload X650 H hZ e650 c647 ⟨by decide, by decide⟩ (v := (.int (p3 &&& (2147483647 : Int32)))) rfl at_318 319 rfl ?_
                refine gCmpY X650 H at_319 (teq rfl).1 (by decide) 324 rfl ?_
                refine gIload X650 H at_324 rfl 326 rfl ?_
                refine gIconst X650 H at_326 (z := 4) rfl 327 rfl ?_
                refine gCmpN X650 H at_327 (by decide) 330 rfl ?_
                refine gAload X650 H at_330 rfl rfl 332 rfl ?_
                refine gIconst X650 H at_332 (z := 3) rfl 333 rfl ?_
                refine gVirt X650 H hZ hown (hw _ wd57) (hw _ wd58) (hw _ wd60) (hw _ wd59) (by decide) f642_2 (hw _ wd61) (hw _ wd4) (rm615_11 B b511 b516_0 k516_0 ((p1 &&& (2147483647 : Int32))) ((p2 &&& (2147483647 : Int32))) ((p3 &&& (2147483647 : Int32))) ((p4 &&& (2147483647 : Int32))) _ O642 f642_1 c644) e650 hml rfl pd5 rfl (W := 0) (argsL := [(.int 3)]) (rest := []) rfl rfl at_333 336 rfl ?_
                intro v652 T652 L652 hq652 X652
                obtain ⟨rfl, e652, rfl⟩ := hq652
                have N652 := Fr.app N650 (Fr.nil _)
                show Go _ _ _ _ (State.setTop _ (mkF _ 336 _ [(.int (p4 &&& (2147483647 : Int32)))]))
                refine gAload X652 H at_336 rfl rfl 338 rfl ?_
                refine gIconst X652 H at_338 (z := 3) rfl 339 rfl ?_
                refine gIaload X652 H hZ e652 c647 ⟨by decide, by decide⟩ (v := (.int (p4 &&& (2147483647 : Int32)))) rfl at_339 340 rfl ?_
                refine gCmpY X652 H at_340 (teq rfl).1 (by decide) 345 rfl ?_
                refine gIconst X652 H at_345 (z := 1) rfl 346 rfl ?_
                exact gRetN X652 H hlk hret (t := .boolean) (by simp) at_346 e652 ⟨rfl, N652⟩
              · refine g_irem X557 H at_210 (by decide) (z := 2) hn558 211 rfl ?_
                refine gIstore X557 H at_211 (Ls' := #[vI p0, vI p1, vI p2, vI p3, vI p4, vI p5, vI 4, vR b488, vR b511, vI 2, .unset, .unset]) rfl 213 rfl ?_
                refine gIload X557 H at_213 rfl 215 rfl ?_
                refine gIload X557 H at_215 rfl 217 rfl ?_
                refine gCmpY X557 H at_217 (by decide) (by decide) 229 rfl ?_
                refine gAload X557 H at_229 rfl rfl 231 rfl ?_
                refine gIload X557 H at_231 rfl 233 rfl ?_
                have c655 := (c525.keep K557 (ninS ne_b488_b516_0 (ninS ne_b488_b511 nin0)))
                refine gIaload X557 H hZ rfl c655 ⟨by decide, by decide⟩ (v := (.int (p3 &&& (2147483647 : Int32)))) rfl at_233 234 rfl ?_
                refine gIstore X557 H at_234 (Ls' := #[vI p0, vI p1, vI p2, vI p3, vI p4, vI p5, vI 4, vR b488, vR b511, vI 2, vI (p3 &&& (2147483647 : Int32)), .unset]) rfl 236 rfl ?_
                refine gIload X557 H at_236 rfl 238 rfl ?_
                refine gIconst X557 H at_238 (z := 1) rfl 239 rfl ?_
                refine g_iadd X557 H at_239 (z := 3) (by decide) 240 rfl ?_
                refine gIstore X557 H at_240 (Ls' := #[vI p0, vI p1, vI p2, vI p3, vI p4, vI p5, vI 4, vR b488, vR b511, vI 2, vI (p3 &&& (2147483647 : Int32)), vI 3]) rfl 242 rfl ?_
                refine gAload X557 H at_242 rfl rfl 244 rfl ?_
                refine gIload X557 H at_244 rfl 246 rfl ?_
                refine gVirt X557 H hZ hown (hw _ wd15) (hw _ wd16) (hw _ wd18) (hw _ wd17) (by decide) f557_2 (hw _ wd19) (hw _ wd4) (rm674_3 B b511 ((p3 &&& (2147483647 : Int32))) b516_0 k516_0 ((p1 &&& (2147483647 : Int32))) ((p2 &&& (2147483647 : Int32))) ((p4 &&& (2147483647 : Int32))) _ O557 f557_0 f557_1 f557_4 f557_2 G_b511 f557_3 (mask_ne p3) (Ne.symm hc510)) rfl hml rfl pd1 rfl (W := 0) (argsL := [(.int (p3 &&& (2147483647 : Int32)))]) (rest := []) rfl rfl at_246 249 rfl ?_
                intro v675 T675 L675 hq675 X675
                obtain ⟨rfl, N675q, K675, f675_0, f675_1, f675_2, f675_3⟩ := hq675
                have O675 := extK O557 K675 (allS G_b511 all0)
                have N675 := Fr.app N557 N675q
                show Go _ _ _ _ (State.setTop _ (mkF _ 249 _ []))
                refine gAload X675 H at_249 rfl rfl 251 rfl ?_
                refine gVirt X675 H hZ hown (hw _ wd22) (hw _ wd23) (hw _ wd25) (hw _ wd24) (by decide) f675_2 (hw _ wd26) (hw _ wd4) (rm457_4 B b511 _ O675 f675_0) rfl hml rfl pd2 rfl (W := 0) (argsL := []) (rest := []) rfl rfl at_251 254 rfl ?_
                intro v676 T676 L676 hq676 X676
                obtain ⟨rfl, e676, rfl⟩ := hq676
                have N676 := Fr.app N675 (Fr.nil _)
                show Go _ _ _ _ (State.setTop _ (mkF _ 254 _ [(.int 3)]))
                refine gIload X676 H at_254 rfl 256 rfl ?_
                refine gCmpY X676 H at_256 (by decide) (by decide) 261 rfl ?_
                refine gIload X676 H at_261 rfl 263 rfl ?_
                refine gIconst X676 H at_263 (z := 1) rfl 264 rfl ?_
                refine gCmpN X676 H at_264 (by decide) 267 rfl ?_
                refine gAload X676 H at_267 rfl rfl 269 rfl ?_
                refine gIconst X676 H at_269 (z := 0) rfl 270 rfl ?_
                have c677 := (f557_4.keep K675 (ninS (Ne.symm ne_b511_b516_0) nin0))
                refine gVirt X676 H hZ hown (hw _ wd57) (hw _ wd58) (hw _ wd60) (hw _ wd59) (by decide) f675_2 (hw _ wd61) (hw _ wd4) (rm592_11 B b511 b516_0 k516_0 ((p1 &&& (2147483647 : Int32))) ((p2 &&& (2147483647 : Int32))) ((p3 &&& (2147483647 : Int32))) ((p4 &&& (2147483647 : Int32))) _ O675 f675_1 c677) e676 hml rfl pd5 rfl (W := 0) (argsL := [(.int 0)]) (rest := []) rfl rfl at_270 273 rfl ?_
                intro v678 T678 L678 hq678 X678
                obtain ⟨rfl, e678, rfl⟩ := hq678
                have N678 := Fr.app N676 (Fr.nil _)
                show Go _ _ _ _ (State.setTop _ (mkF _ 273 _ [(.int (p1 &&& (2147483647 : Int32)))]))
                refine gAload X678 H at_273 rfl rfl 275 rfl ?_
                refine gIconst X678 H at_275 (z := 0) rfl 276 rfl ?_
                have c680 := (c655.keep K675 (ninS ne_b488_b511 nin0))
                refine gIaload X678 H hZ e678 c680 ⟨by decide, by decide⟩ (v := (.int (p1 &&& (2147483647 : Int32)))) rfl at_276 277 rfl ?_
                refine gCmpY X678 H at_277 (teq rfl).1 (by decide) 282 rfl ?_
                refine gIload X678 H at_282 rfl 284 rfl ?_
                refine gIconst X678 H at_284 (z := 2) rfl 285 rfl ?_
                refine gCmpN X678 H at_285 (by decide) 288 rfl ?_
                refine gAload X678 H at_288 rfl rfl 290 rfl ?_
                refine gIconst X678 H at_290 (z := 1) rfl 291 rfl ?_
                refine gVirt X678 H hZ hown (hw _ wd57) (hw _ wd58) (hw _ wd60) (hw _ wd59) (by decide) f675_2 (hw _ wd61) (hw _ wd4) (rm601_11 B b511 b516_0 k516_0 ((p1 &&& (2147483647 : Int32))) ((p2 &&& (2147483647 : Int32))) ((p3 &&& (2147483647 : Int32))) ((p4 &&& (2147483647 : Int32))) _ O675 f675_1 c677) e678 hml rfl pd5 rfl (W := 0) (argsL := [(.int 1)]) (rest := []) rfl rfl at_291 294 rfl ?_
                intro v681 T681 L681 hq681 X681
                obtain ⟨rfl, e681, rfl⟩ := hq681
                have N681 := Fr.app N678 (Fr.nil _)
                show Go _ _ _ _ (State.setTop _ (mkF _ 294 _ [(.int (p2 &&& (2147483647 : Int32)))]))
                refine gAload X681 H at_294 rfl rfl 296 rfl ?_
                refine gIconst X681 H at_296 (z := 1) rfl 297 rfl ?_
                refine gIaload X681 H hZ e681 c680 ⟨by decide, by decide⟩ (v := (.int (p2 &&& (2147483647 : Int32)))) rfl at_297 298 rfl ?_
                refine gCmpY X681 H at_298 (teq rfl).1 (by decide) 303 rfl ?_
                refine gIload X681 H at_303 rfl 305 rfl ?_
                refine gIconst X681 H at_305 (z := 3) rfl 306 rfl ?_
                refine gCmpN X681 H at_306 (by decide) 309 rfl ?_
                refine gAload X681 H at_309 rfl rfl 311 rfl ?_
                refine gIconst X681 H at_311 (z := 2) rfl 312 rfl ?_
                refine gVirt X681 H hZ hown (hw _ wd57) (hw _ wd58) (hw _ wd60) (hw _ wd59) (by decide) f675_2 (hw _ wd61) (hw _ wd4) (rm608_11 B b511 b516_0 k516_0 ((p1 &&& (2147483647 : Int32))) ((p2 &&& (2147483647 : Int32))) ((p3 &&& (2147483647 : Int32))) ((p4 &&& (2147483647 : Int32))) _ O675 f675_1 c677) e681 hml rfl pd5 rfl (W := 0) (argsL := [(.int 2)]) (rest := []) rfl rfl at_312 315 rfl ?_
                intro v683 T683 L683 hq683 X683
                obtain ⟨rfl, e683, rfl⟩ := hq683
                have N683 := Fr.app N681 (Fr.nil _)
                show Go _ _ _ _ (State.setTop _ (mkF _ 315 _ [(.int (p3 &&& (2147483647 : Int32)))]))
                refine gAload X683 H at_315 rfl rfl 317 rfl ?_
                refine gIconst X683 H at_317 (z := 2) rfl 318 rfl ?_
                refine gIaload X683 H hZ e683 c680 ⟨by decide, by decide⟩ (v := (.int (p3 &&& (2147483647 : Int32)))) rfl at_318 319 rfl ?_
                refine gCmpY X683 H at_319 (teq rfl).1 (by decide) 324 rfl ?_
                refine gIload X683 H at_324 rfl 326 rfl ?_
                refine gIconst X683 H at_326 (z := 4) rfl 327 rfl ?_
                refine gCmpN X683 H at_327 (by decide) 330 rfl ?_
                refine gAload X683 H at_330 rfl rfl 332 rfl ?_
                refine gIconst X683 H at_332 (z := 3) rfl 333 rfl ?_
                refine gVirt X683 H hZ hown (hw _ wd57) (hw _ wd58) (hw _ wd60) (hw _ wd59) (by decide) f675_2 (hw _ wd61) (hw _ wd4) (rm615_11 B b511 b516_0 k516_0 ((p1 &&& (2147483647 : Int32))) ((p2 &&& (2147483647 : Int32))) ((p3 &&& (2147483647 : Int32))) ((p4 &&& (2147483647 : Int32))) _ O675 f675_1 c677) e683 hml rfl pd5 rfl (W := 0) (argsL := [(.int 3)]) (rest := []) rfl rfl at_333 336 rfl ?_
                intro v685 T685 L685 hq685 X685
                obtain ⟨rfl, e685, rfl⟩ := hq685
                have N685 := Fr.app N683 (Fr.nil _)
                show Go _ _ _ _ (State.setTop _ (mkF _ 336 _ [(.int (p4 &&& (2147483647 : Int32)))]))
                refine gAload X685 H at_336 rfl rfl 338 rfl ?_
                refine gIconst X685 H at_338 (z := 3) rfl 339 rfl ?_
                refine gIaload X685 H hZ e685 c680 ⟨by decide, by decide⟩ (v := (.int (p4 &&& (2147483647 : Int32)))) rfl at_339 340 rfl ?_
                refine gCmpY X685 H at_340 (teq rfl).1 (by decide) 345 rfl ?_
                refine gIconst X685 H at_345 (z := 1) rfl 346 rfl ?_
                exact gRetN X685 H hlk hret (t := .boolean) (by simp) at_346 e685 ⟨rfl, N685⟩
              · refine g_irem X557 H at_210 (by decide) (z := 3) hn558 211 rfl ?_
                refine gIstore X557 H at_211 (Ls' := #[vI p0, vI p1, vI p2, vI p3, vI p4, vI p5, vI 4, vR b488, vR b511, vI 3, .unset, .unset]) rfl 213 rfl ?_
                refine gIload X557 H at_213 rfl 215 rfl ?_
                refine gIload X557 H at_215 rfl 217 rfl ?_
                refine gCmpY X557 H at_217 (by decide) (by decide) 229 rfl ?_
                refine gAload X557 H at_229 rfl rfl 231 rfl ?_
                refine gIload X557 H at_231 rfl 233 rfl ?_
                have c688 := (c525.keep K557 (ninS ne_b488_b516_0 (ninS ne_b488_b511 nin0)))
                refine gIaload X557 H hZ rfl c688 ⟨by decide, by decide⟩ (v := (.int (p4 &&& (2147483647 : Int32)))) rfl at_233 234 rfl ?_
                refine gIstore X557 H at_234 (Ls' := #[vI p0, vI p1, vI p2, vI p3, vI p4, vI p5, vI 4, vR b488, vR b511, vI 3, vI (p4 &&& (2147483647 : Int32)), .unset]) rfl 236 rfl ?_
                refine gIload X557 H at_236 rfl 238 rfl ?_
                refine gIconst X557 H at_238 (z := 1) rfl 239 rfl ?_
                refine g_iadd X557 H at_239 (z := 4) (by decide) 240 rfl ?_
                refine gIstore X557 H at_240 (Ls' := #[vI p0, vI p1, vI p2, vI p3, vI p4, vI p5, vI 4, vR b488, vR b511, vI 3, vI (p4 &&& (2147483647 : Int32)), vI 4]) rfl 242 rfl ?_
                refine gAload X557 H at_242 rfl rfl 244 rfl ?_
                refine gIload X557 H at_244 rfl 246 rfl ?_
                refine gVirt X557 H hZ hown (hw _ wd15) (hw _ wd16) (hw _ wd18) (hw _ wd17) (by decide) f557_2 (hw _ wd19) (hw _ wd4) (rm704_3 B b511 ((p4 &&& (2147483647 : Int32))) b516_0 k516_0 ((p1 &&& (2147483647 : Int32))) ((p2 &&& (2147483647 : Int32))) ((p3 &&& (2147483647 : Int32))) _ O557 f557_0 f557_1 f557_4 f557_2 G_b511 f557_3 (mask_ne p4)) rfl hml rfl pd1 rfl (W := 0) (argsL := [(.int (p4 &&& (2147483647 : Int32)))]) (rest := []) rfl rfl at_246 249 rfl ?_
                intro v705 T705 L705 hq705 X705
                obtain ⟨rfl, N705q, K705, f705_0, f705_1, f705_2, f705_3⟩ := hq705
                have O705 := extK O557 K705 (allS G_b511 all0)
                have N705 := Fr.app N557 N705q
                show Go _ _ _ _ (State.setTop _ (mkF _ 249 _ []))
                refine gAload X705 H at_249 rfl rfl 251 rfl ?_
                refine gVirt X705 H hZ hown (hw _ wd22) (hw _ wd23) (hw _ wd25) (hw _ wd24) (by decide) f705_2 (hw _ wd26) (hw _ wd4) (rm708_4 B b511 _ O705 f705_0) rfl hml rfl pd2 rfl (W := 0) (argsL := []) (rest := []) rfl rfl at_251 254 rfl ?_
                intro v709 T709 L709 hq709 X709
                obtain ⟨rfl, e709, rfl⟩ := hq709
                have N709 := Fr.app N705 (Fr.nil _)
                show Go _ _ _ _ (State.setTop _ (mkF _ 254 _ [(.int 4)]))
                refine gIload X709 H at_254 rfl 256 rfl ?_
                refine gCmpY X709 H at_256 (by decide) (by decide) 261 rfl ?_
                refine gIload X709 H at_261 rfl 263 rfl ?_
                refine gIconst X709 H at_263 (z := 1) rfl 264 rfl ?_
                refine gCmpN X709 H at_264 (by decide) 267 rfl ?_
                refine gAload X709 H at_267 rfl rfl 269 rfl ?_
                refine gIconst X709 H at_269 (z := 0) rfl 270 rfl ?_
                have c710 := (f557_4.keep K705 (ninS (Ne.symm ne_b511_b516_0) nin0))
                refine gVirt X709 H hZ hown (hw _ wd57) (hw _ wd58) (hw _ wd60) (hw _ wd59) (by decide) f705_2 (hw _ wd61) (hw _ wd4) (rm592_11 B b511 b516_0 k516_0 ((p1 &&& (2147483647 : Int32))) ((p2 &&& (2147483647 : Int32))) ((p3 &&& (2147483647 : Int32))) ((p4 &&& (2147483647 : Int32))) _ O705 f705_1 c710) e709 hml rfl pd5 rfl (W := 0) (argsL := [(.int 0)]) (rest := []) rfl rfl at_270 273 rfl ?_
                intro v711 T711 L711 hq711 X711
                obtain ⟨rfl, e711, rfl⟩ := hq711
                have N711 := Fr.app N709 (Fr.nil _)
                show Go _ _ _ _ (State.setTop _ (mkF _ 273 _ [(.int (p1 &&& (2147483647 : Int32)))]))
                refine gAload X711 H at_273 rfl rfl 275 rfl ?_
                refine gIconst X711 H at_275 (z := 0) rfl 276 rfl ?_
                have c713 := (c688.keep K705 (ninS ne_b488_b511 nin0))
                refine gIaload X711 H hZ e711 c713 ⟨by decide, by decide⟩ (v := (.int (p1 &&& (2147483647 : Int32)))) rfl at_276 277 rfl ?_
                refine gCmpY X711 H at_277 (teq rfl).1 (by decide) 282 rfl ?_
                refine gIload X711 H at_282 rfl 284 rfl ?_
                refine gIconst X711 H at_284 (z := 2) rfl 285 rfl ?_
                refine gCmpN X711 H at_285 (by decide) 288 rfl ?_
                refine gAload X711 H at_288 rfl rfl 290 rfl ?_
                refine gIconst X711 H at_290 (z := 1) rfl 291 rfl ?_
                refine gVirt X711 H hZ hown (hw _ wd57) (hw _ wd58) (hw _ wd60) (hw _ wd59) (by decide) f705_2 (hw _ wd61) (hw _ wd4) (rm601_11 B b511 b516_0 k516_0 ((p1 &&& (2147483647 : Int32))) ((p2 &&& (2147483647 : Int32))) ((p3 &&& (2147483647 : Int32))) ((p4 &&& (2147483647 : Int32))) _ O705 f705_1 c710) e711 hml rfl pd5 rfl (W := 0) (argsL := [(.int 1)]) (rest := []) rfl rfl at_291 294 rfl ?_
                intro v714 T714 L714 hq714 X714
                obtain ⟨rfl, e714, rfl⟩ := hq714
                have N714 := Fr.app N711 (Fr.nil _)
                show Go _ _ _ _ (State.setTop _ (mkF _ 294 _ [(.int (p2 &&& (2147483647 : Int32)))]))
                refine gAload X714 H at_294 rfl rfl 296 rfl ?_
                refine gIconst X714 H at_296 (z := 1) rfl 297 rfl ?_
                refine gIaload X714 H hZ e714 c713 ⟨by decide, by decide⟩ (v := (.int (p2 &&& (2147483647 : Int32)))) rfl at_297 298 rfl ?_
                refine gCmpY X714 H at_298 (teq rfl).1 (by decide) 303 rfl ?_
                refine gIload X714 H at_303 rfl 305 rfl ?_
                refine gIconst X714 H at_305 (z := 3) rfl 306 rfl ?_
                refine gCmpN X714 H at_306 (by decide) 309 rfl ?_
                refine gAload X714 H at_309 rfl rfl 311 rfl ?_
                refine gIconst X714 H at_311 (z := 2) rfl 312 rfl ?_
                refine gVirt X714 H hZ hown (hw _ wd57) (hw _ wd58) (hw _ wd60) (hw _ wd59) (by decide) f705_2 (hw _ wd61) (hw _ wd4) (rm608_11 B b511 b516_0 k516_0 ((p1 &&& (2147483647 : Int32))) ((p2 &&& (2147483647 : Int32))) ((p3 &&& (2147483647 : Int32))) ((p4 &&& (2147483647 : Int32))) _ O705 f705_1 c710) e714 hml rfl pd5 rfl (W := 0) (argsL := [(.int 2)]) (rest := []) rfl rfl at_312 315 rfl ?_
                intro v716 T716 L716 hq716 X716
                obtain ⟨rfl, e716, rfl⟩ := hq716
                have N716 := Fr.app N714 (Fr.nil _)
                show Go _ _ _ _ (State.setTop _ (mkF _ 315 _ [(.int (p3 &&& (2147483647 : Int32)))]))
                refine gAload X716 H at_315 rfl rfl 317 rfl ?_
                refine gIconst X716 H at_317 (z := 2) rfl 318 rfl ?_
                refine gIaload X716 H hZ e716 c713 ⟨by decide, by decide⟩ (v := (.int (p3 &&& (2147483647 : Int32)))) rfl at_318 319 rfl ?_
                refine gCmpY X716 H at_319 (teq rfl).1 (by decide) 324 rfl ?_
                refine gIload X716 H at_324 rfl 326 rfl ?_
                refine gIconst X716 H at_326 (z := 4) rfl 327 rfl ?_
                refine gCmpN X716 H at_327 (by decide) 330 rfl ?_
                refine gAload X716 H at_330 rfl rfl 332 rfl ?_
                refine gIconst X716 H at_332 (z := 3) rfl 333 rfl ?_
                refine gVirt X716 H hZ hown (hw _ wd57) (hw _ wd58) (hw _ wd60) (hw _ wd59) (by decide) f705_2 (hw _ wd61) (hw _ wd4) (rm615_11 B b511 b516_0 k516_0 ((p1 &&& (2147483647 : Int32))) ((p2 &&& (2147483647 : Int32))) ((p3 &&& (2147483647 : Int32))) ((p4 &&& (2147483647 : Int32))) _ O705 f705_1 c710) e716 hml rfl pd5 rfl (W := 0) (argsL := [(.int 3)]) (rest := []) rfl rfl at_333 336 rfl ?_
                intro v718 T718 L718 hq718 X718
                obtain ⟨rfl, e718, rfl⟩ := hq718
                have N718 := Fr.app N716 (Fr.nil _)
                show Go _ _ _ _ (State.setTop _ (mkF _ 336 _ [(.int (p4 &&& (2147483647 : Int32)))]))
                refine gAload X718 H at_336 rfl rfl 338 rfl ?_
                refine gIconst X718 H at_338 (z := 3) rfl 339 rfl ?_
                refine gIaload X718 H hZ e718 c713 ⟨by decide, by decide⟩ (v := (.int (p4 &&& (2147483647 : Int32)))) rfl at_339 340 rfl ?_
                refine gCmpY X718 H at_340 (teq rfl).1 (by decide) 345 rfl ?_
                refine gIconst X718 H at_345 (z := 1) rfl 346 rfl ?_
                exact gRetN X718 H hlk hret (t := .boolean) (by simp) at_346 e718 ⟨rfl, N718⟩
              · refine g_irem X557 H at_210 (by decide) (z := 4) hn558 211 rfl ?_
                refine gIstore X557 H at_211 (Ls' := #[vI p0, vI p1, vI p2, vI p3, vI p4, vI p5, vI 4, vR b488, vR b511, vI 4, .unset, .unset]) rfl 213 rfl ?_
                refine gIload X557 H at_213 rfl 215 rfl ?_
                refine gIload X557 H at_215 rfl 217 rfl ?_
                refine gCmpN X557 H at_217 (by decide) 220 rfl ?_
                refine gIconst X557 H at_220 (z := (-1)) rfl 221 rfl ?_
                refine gIstore X557 H at_221 (Ls' := #[vI p0, vI p1, vI p2, vI p3, vI p4, vI p5, vI 4, vR b488, vR b511, vI 4, vI (-1), .unset]) rfl 223 rfl ?_
                refine gIconst X557 H at_223 (z := 0) rfl 224 rfl ?_
                refine gIstore X557 H at_224 (Ls' := #[vI p0, vI p1, vI p2, vI p3, vI p4, vI p5, vI 4, vR b488, vR b511, vI 4, vI (-1), vI 0]) rfl 226 rfl ?_
                refine gGoto X557 H at_226 (by decide) 242 rfl ?_
                refine gAload X557 H at_242 rfl rfl 244 rfl ?_
                refine gIload X557 H at_244 rfl 246 rfl ?_
                refine gVirt X557 H hZ hown (hw _ wd15) (hw _ wd16) (hw _ wd18) (hw _ wd17) (by decide) f557_2 (hw _ wd19) (hw _ wd4) (rm730_3 B b511 b516_0 _ O557 f557_2 f557_0 G_b511 f557_1 f557_3) rfl hml rfl pd1 rfl (W := 0) (argsL := [(.int (-1))]) (rest := []) rfl rfl at_246 249 rfl ?_
                intro v731 T731 L731 hq731 X731
                obtain ⟨rfl, N731q, K731, f731_0, f731_1, f731_2, f731_3⟩ := hq731
                have O731 := extK O557 K731 (allS G_b511 all0)
                have N731 := Fr.app N557 N731q
                show Go _ _ _ _ (State.setTop _ (mkF _ 249 _ []))
                refine gAload X731 H at_249 rfl rfl 251 rfl ?_
                refine gVirt X731 H hZ hown (hw _ wd22) (hw _ wd23) (hw _ wd25) (hw _ wd24) (by decide) f731_0 (hw _ wd26) (hw _ wd4) (rm37_4 B b511 _ O731 f731_1) rfl hml rfl pd2 rfl (W := 0) (argsL := []) (rest := []) rfl rfl at_251 254 rfl ?_
                intro v732 T732 L732 hq732 X732
                obtain ⟨rfl, e732, rfl⟩ := hq732
                have N732 := Fr.app N731 (Fr.nil _)
                show Go _ _ _ _ (State.setTop _ (mkF _ 254 _ [(.int 0)]))
                refine gIload X732 H at_254 rfl 256 rfl ?_
                refine gCmpY X732 H at_256 (by decide) (by decide) 261 rfl ?_
                refine gIload X732 H at_261 rfl 263 rfl ?_
                refine gIconst X732 H at_263 (z := 1) rfl 264 rfl ?_
                refine gCmpN X732 H at_264 (by decide) 267 rfl ?_
                refine gAload X732 H at_267 rfl rfl 269 rfl ?_
                refine gIconst X732 H at_269 (z := 0) rfl 270 rfl ?_
                have c733 := (f557_4.keep K731 (ninS (Ne.symm ne_b511_b516_0) nin0))
                refine gVirt X732 H hZ hown (hw _ wd57) (hw _ wd58) (hw _ wd60) (hw _ wd59) (by decide) f731_0 (hw _ wd61) (hw _ wd4) (rm592_11 B b511 b516_0 k516_0 ((p1 &&& (2147483647 : Int32))) ((p2 &&& (2147483647 : Int32))) ((p3 &&& (2147483647 : Int32))) ((p4 &&& (2147483647 : Int32))) _ O731 f731_2 c733) e732 hml rfl pd5 rfl (W := 0) (argsL := [(.int 0)]) (rest := []) rfl rfl at_270 273 rfl ?_
                intro v734 T734 L734 hq734 X734
                obtain ⟨rfl, e734, rfl⟩ := hq734
                have N734 := Fr.app N732 (Fr.nil _)
                show Go _ _ _ _ (State.setTop _ (mkF _ 273 _ [(.int (p1 &&& (2147483647 : Int32)))]))
                refine gAload X734 H at_273 rfl rfl 275 rfl ?_
                refine gIconst X734 H at_275 (z := 0) rfl 276 rfl ?_
                have c736 := ((c525.keep K557 (ninS ne_b488_b516_0 (ninS ne_b488_b511 nin0))).keep K731 (ninS ne_b488_b511 nin0))
                refine gIaload X734 H hZ e734 c736 ⟨by decide, by decide⟩ (v := (.int (p1 &&& (2147483647 : Int32)))) rfl at_276 277 rfl ?_
                refine gCmpY X734 H at_277 (teq rfl).1 (by decide) 282 rfl ?_
                refine gIload X734 H at_282 rfl 284 rfl ?_
                refine gIconst X734 H at_284 (z := 2) rfl 285 rfl ?_
                refine gCmpN X734 H at_285 (by decide) 288 rfl ?_
                refine gAload X734 H at_288 rfl rfl 290 rfl ?_
                refine gIconst X734 H at_290 (z := 1) rfl 291 rfl ?_
                refine gVirt X734 H hZ hown (hw _ wd57) (hw _ wd58) (hw _ wd60) (hw _ wd59) (by decide) f731_0 (hw _ wd61) (hw _ wd4) (rm601_11 B b511 b516_0 k516_0 ((p1 &&& (2147483647 : Int32))) ((p2 &&& (2147483647 : Int32))) ((p3 &&& (2147483647 : Int32))) ((p4 &&& (2147483647 : Int32))) _ O731 f731_2 c733) e734 hml rfl pd5 rfl (W := 0) (argsL := [(.int 1)]) (rest := []) rfl rfl at_291 294 rfl ?_
                intro v737 T737 L737 hq737 X737
                obtain ⟨rfl, e737, rfl⟩ := hq737
                have N737 := Fr.app N734 (Fr.nil _)
                show Go _ _ _ _ (State.setTop _ (mkF _ 294 _ [(.int (p2 &&& (2147483647 : Int32)))]))
                refine gAload X737 H at_294 rfl rfl 296 rfl ?_
                refine gIconst X737 H at_296 (z := 1) rfl 297 rfl ?_
                refine gIaload X737 H hZ e737 c736 ⟨by decide, by decide⟩ (v := (.int (p2 &&& (2147483647 : Int32)))) rfl at_297 298 rfl ?_
                refine gCmpY X737 H at_298 (teq rfl).1 (by decide) 303 rfl ?_
                refine gIload X737 H at_303 rfl 305 rfl ?_
                refine gIconst X737 H at_305 (z := 3) rfl 306 rfl ?_
                refine gCmpN X737 H at_306 (by decide) 309 rfl ?_
                refine gAload X737 H at_309 rfl rfl 311 rfl ?_
                refine gIconst X737 H at_311 (z := 2) rfl 312 rfl ?_
                refine gVirt X737 H hZ hown (hw _ wd57) (hw _ wd58) (hw _ wd60) (hw _ wd59) (by decide) f731_0 (hw _ wd61) (hw _ wd4) (rm608_11 B b511 b516_0 k516_0 ((p1 &&& (2147483647 : Int32))) ((p2 &&& (2147483647 : Int32))) ((p3 &&& (2147483647 : Int32))) ((p4 &&& (2147483647 : Int32))) _ O731 f731_2 c733) e737 hml rfl pd5 rfl (W := 0) (argsL := [(.int 2)]) (rest := []) rfl rfl at_312 315 rfl ?_
                intro v739 T739 L739 hq739 X739
                obtain ⟨rfl, e739, rfl⟩ := hq739
                have N739 := Fr.app N737 (Fr.nil _)
                show Go _ _ _ _ (State.setTop _ (mkF _ 315 _ [(.int (p3 &&& (2147483647 : Int32)))]))
                refine gAload X739 H at_315 rfl rfl 317 rfl ?_
                refine gIconst X739 H at_317 (z := 2) rfl 318 rfl ?_
                refine gIaload X739 H hZ e739 c736 ⟨by decide, by decide⟩ (v := (.int (p3 &&& (2147483647 : Int32)))) rfl at_318 319 rfl ?_
                refine gCmpY X739 H at_319 (teq rfl).1 (by decide) 324 rfl ?_
                refine gIload X739 H at_324 rfl 326 rfl ?_
                refine gIconst X739 H at_326 (z := 4) rfl 327 rfl ?_
                refine gCmpN X739 H at_327 (by decide) 330 rfl ?_
                refine gAload X739 H at_330 rfl rfl 332 rfl ?_
                refine gIconst X739 H at_332 (z := 3) rfl 333 rfl ?_
                refine gVirt X739 H hZ hown (hw _ wd57) (hw _ wd58) (hw _ wd60) (hw _ wd59) (by decide) f731_0 (hw _ wd61) (hw _ wd4) (rm615_11 B b511 b516_0 k516_0 ((p1 &&& (2147483647 : Int32))) ((p2 &&& (2147483647 : Int32))) ((p3 &&& (2147483647 : Int32))) ((p4 &&& (2147483647 : Int32))) _ O731 f731_2 c733) e739 hml rfl pd5 rfl (W := 0) (argsL := [(.int 3)]) (rest := []) rfl rfl at_333 336 rfl ?_
                intro v741 T741 L741 hq741 X741
                obtain ⟨rfl, e741, rfl⟩ := hq741
                have N741 := Fr.app N739 (Fr.nil _)
                show Go _ _ _ _ (State.setTop _ (mkF _ 336 _ [(.int (p4 &&& (2147483647 : Int32)))]))
                refine gAload X741 H at_336 rfl rfl 338 rfl ?_
                refine gIconst X741 H at_338 (z := 3) rfl 339 rfl ?_
                refine gIaload X741 H hZ e741 c736 ⟨by decide, by decide⟩ (v := (.int (p4 &&& (2147483647 : Int32)))) rfl at_339 340 rfl ?_
                refine gCmpY X741 H at_340 (teq rfl).1 (by decide) 345 rfl ?_
                refine gIconst X741 H at_345 (z := 1) rfl 346 rfl ?_
                exact gRetN X741 H hlk hret (t := .boolean) (by simp) at_346 e741 ⟨rfl, N741⟩
theorem lawAll (B : Bg Z a0 w_Trail_NO_ROOM k_w_Trail_NO_ROOM) (p0 : Int32) (p1 : Int32) (p2 : Int32) (p3 : Int32) (p4 : Int32) (p5 : Int32) :
    Con l Z x code maxLocals ret room_1 #[(.int p0), (.int p1), (.int p2), (.int p3), (.int p4), (.int p5)] Z.heap (fun v h' L => v = some (.int 1) ∧ Fr Z.heap.size L) := by
  rcases n75 p0 with ha0 | ha0 | ha0 | ha0 | ha0
  · exact lawAll_0 B p0 p1 p2 p3 p4 p5 ha0
  · exact lawAll_1 B p0 p1 p2 p3 p4 p5 ha0
  · exact lawAll_2 B p0 p1 p2 p3 p4 p5 ha0
  · exact lawAll_3 B p0 p1 p2 p3 p4 p5 ha0
  · exact lawAll_4 B p0 p1 p2 p3 p4 p5 ha0
end Walk
set_option maxHeartbeats 4000000 in
theorem comes_1 {Post : Tables → Env → Array Value → State → Outcome → State → Prop} (hpost : ∀ tb e args s v u, (limb_1_1.after args s (.returned v) u = true ∧ limb_1_2.after args s (.returned v) u = true ∧ True) → FrameEnd s (.returned v) u (Jvm.fieldLocs frame_1_writes args s ++ Jvm.arrayLocs frame_1_arrays args s ++ Jvm.staticLocs frame_1_statics s) 16 128 → Post tb e args s (.returned v) u) :
    ArmFor flags0 classFile x code maxLocals ret World_1 tables_1 room_1 Calls_1 rest_1 Pre_1 Post := by
  intro l hfl _ _ p e ha hc hk s m args below hf hA hF happ hP
  obtain ⟨hcalls, hrest, hpre⟩ := hP
  obtain ⟨-, -, -, hnamed, -, -, -, hat⟩ := (Spec.applies_iff hf).mp happ
  obtain ⟨hg, hn⟩ := and_e (Cond.before_iff.mp (show (Jvm.Cond.and given_1 narrow_1).before args s = true from hpre))
  obtain ⟨n1, n2⟩ := and_e hg
  obtain ⟨n3, n4⟩ := and_e n2
  obtain ⟨n5, n6⟩ := and_e n4
  obtain ⟨n7, n8⟩ := and_e n6
  obtain ⟨n9, n10⟩ := and_e n8
  obtain ⟨n11, n12⟩ := and_e n10
  obtain ⟨w0, w1, w2, w3, w4, w5, rfl⟩ : ∃ w0 w1 w2 w3 w4 w5 : Value, args = #[w0, w1, w2, w3, w4, w5] := by
    have hs : args.size = 6 := by simpa [Cond.value, given_1] using n1
    obtain ⟨L⟩ := args
    match L, hs with
    | [w0, w1, w2, w3, w4, w5], _ => exact ⟨w0, w1, w2, w3, w4, w5, rfl⟩
  have hfit : Fit s := fun {y c} hc i hi => by
    obtain ⟨ha, rfl⟩ := Array.getElem?_eq_some_iff.mp hc
    have q := List.all_eq_true.mp ((Array.all_eq_true_iff_forall_mem.mp hF) _ (Array.getElem_mem ha)) i (List.mem_range.mpr hi)
    simpa [Array.getElem?_eq_getElem hi] using q
  have hw := fun d (hd : d ∈ tables_1) => atoms_spec (ws := Jvm.Cond.code x code maxLocals ret :: tables_1) hat d (List.mem_cons_of_mem _ hd)
  obtain ⟨i0, ei0⟩ := is_v n3
  obtain rfl : w0 = (.int i0) := Option.some.inj ei0
  obtain ⟨i1, ei1⟩ := is_v n5
  obtain rfl : w1 = (.int i1) := Option.some.inj ei1
  obtain ⟨i2, ei2⟩ := is_v n7
  obtain rfl : w2 = (.int i2) := Option.some.inj ei2
  obtain ⟨i3, ei3⟩ := is_v n9
  obtain rfl : w3 = (.int i3) := Option.some.inj ei3
  obtain ⟨i4, ei4⟩ := is_v n11
  obtain rfl : w4 = (.int i4) := Option.some.inj ei4
  obtain ⟨i5, ei5⟩ := is_v n12
  obtain rfl : w5 = (.int i5) := Option.some.inj ei5
  obtain ⟨n13, n14⟩ := and_e hn
  obtain ⟨n15, n16⟩ := and_e n14
  obtain ⟨w_Trail_NO_ROOM, ev_w_Trail_NO_ROOM⟩ := arr_v n13
  obtain ⟨cl_w_Trail_NO_ROOM, Ar_w_Trail_NO_ROOM⟩ := Arr.start ev_w_Trail_NO_ROOM n13
  obtain ⟨ln_w_Trail_NO_ROOM, le_w_Trail_NO_ROOM⟩ := Jvm.Free.IntBox.length_fwd (Cond.before_iff.mpr n16) ev_w_Trail_NO_ROOM Ar_w_Trail_NO_ROOM.1 Ar_w_Trail_NO_ROOM.2.1 Ar_w_Trail_NO_ROOM.2.2
  obtain ⟨k_w_Trail_NO_ROOM, ek_w_Trail_NO_ROOM⟩ : ∃ k, k = cl_w_Trail_NO_ROOM.cls := ⟨_, rfl⟩
  have W : World s w_Trail_NO_ROOM k_w_Trail_NO_ROOM := ⟨Sta.start ev_w_Trail_NO_ROOM (Or.inr ⟨(hw _ wd4), (hw _ wd12)⟩), (ek_w_Trail_NO_ROOM ▸ Arv.start hfit Ar_w_Trail_NO_ROOM ln_w_Trail_NO_ROOM le_w_Trail_NO_ROOM (by decide) rfl trivial)⟩
  have B : Bg s _ w_Trail_NO_ROOM k_w_Trail_NO_ROOM := ⟨hw, W⟩
  obtain ⟨n, o, h1, h2, h3, _, L, rfl, ⟨rfl, N⟩, hq⟩ := (lawAll (l := l) B i0 i1 i2 i3 i4 i5) tables_1 p e ha hc hk s m _ below hf ((Spec.applies_iff_loose hf).mp happ).1 ⟨rfl, State.Warmed39.refl s, rfl⟩ trivial
  refine ⟨n, _, h1, h2, h3, hpost _ _ _ _ _ _ ⟨Cond.after_iff.mpr rfl, Cond.after_iff.mpr (eq_i res_at (Term.int_eval (1)) rfl), trivial⟩ ⟨hq.1, hq.2.1, (hq.2.2.sift fun y hy => Or.inr (N y hy)).mono (by decide) (by decide)⟩⟩
theorem main_1_1 : Claimed_1_1 := comes_1 fun _ _ _ _ _ _ h hF => ⟨h.1, hF⟩
theorem main_1_2 : Claimed_1_2 := comes_1 fun _ _ _ _ _ _ h hF => ⟨h.2.1, hF⟩
end Jvm.Pilot.@@N@@
namespace Jvm.Pilot.@@N@@
open Jvm Jvm.ClassFile Sem Op Lib Jvm.Free Jvm.Stand Jvm.Pilot.@@N@@.Jvm.D
/-! MADE BY PROGRAM (witnessworld.py) out of the Statement's table words and the real class files: 12 classes; the members and pool entries that the words name. The judged class is class 1, her method 1. -/
namespace start1
open Jvm.ClassFile
def u (s : String) : CpInfo := .utf8 (stringToUtf16 s)
/-- a pool by its gaps: so many unusable entries, then the entry; so many at the end -/
def gap : Nat → List CpInfo → List CpInfo
  | 0, r => r
  | n + 1, r => .unusable :: gap n r
def poolList (es : List (Nat × CpInfo)) (last : Nat) : List CpInfo := es.foldr (fun e r => gap e.1 (e.2 :: r)) (gap last [])
def pool (es : List (Nat × CpInfo)) (last : Nat) : Array CpInfo := ⟨poolList es last⟩
def fileOf (pool : Array CpInfo) (this : Nat) (attrs : Array Attribute := #[]) (ms : Array MethodInfo := #[]) (fl : Nat := 33) (sup : Nat := 0) (ifs : Array Nat := #[]) (fds : Array FieldInfo := #[]) : ClassFile where
  minorVersion := 0
  majorVersion := 65
  constantPool := pool
  accessFlags := fl
  thisClass := this
  superClass := sup
  interfaces := ifs
  fields := fds
  methods := ms
  attributes := attrs
def plain (name : String) (sup : Option ClassId) : Class where
  name := name
  kind := .ordinary
  loader := none
  accessFlags := 33
  super := sup
  interfaces := #[]
  cf := none
  fields := #[]
  methods := #[]
  instanceTypes := #[]
  staticTypes := #[]
  resolved := #[]
  callSites := []
  init := .initialized
  statics := none
  mirror := none

def pool0 : Array CpInfo := pool [(5, u "<init>"), (0, u "()V"), (1, .class_ 10), (1, u "java/lang/Object")] 113

def k0c0 : Code := { maxStack := 0, maxLocals := 1, code := object_method_1_code, exceptionTable := #[], attributes := #[] }
def k0m0 : Method := { name := "<init>", desc := "()V", sig := { parameters := [], returnType := none }, accessFlags := 1, code := some k0c0 }
/-- java/lang/Object -/
def k0 : Class := { plain "java/lang/Object" none with
  accessFlags := 33
  interfaces := #[]
  cf := some (fileOf pool0 8 #[] #[{ accessFlags := 1, nameIndex := 5, descriptorIndex := 6, attributes := #[] }] 33 0 #[] #[])
  fields := #[]
  methods := #[k0m0]
  instanceTypes := #[]
  staticTypes := #[]
  resolved := Array.replicate 124 none
  statics := none }

def pool1 : Array CpInfo := pool [(2, .class_ 4), (0, .nameAndType 5 6), (0, u "java/lang/Object"), (0, u "<init>"), (0, u "()V"), (0, .integer 2147483647), (0, .class_ 9), (0, u "com/example/blackheight/blackheight/node/Trail"), (0, .methodref 8 3), (0, .methodref 8 12), (0, .nameAndType 13 14), (0, u "push"), (0, u "(I)V"), (2, .methodref 8 18), (0, .nameAndType 19 14), (0, u "climbTo"), (0, .methodref 8 21), (0, .nameAndType 22 23), (0, u "depth"), (0, u "()I"), (0, .methodref 8 25), (0, .nameAndType 26 27), (0, u "entry"), (0, u "(I)I"), (0, .class_ 29), (0, u "com/example/blackheight/blackheight/node/TrailClimbToPinLaw"), (2, u "law"), (0, u "(IIIIII)Z")] 5

def k1m0 : Method := { name := "<init>", desc := "()V", sig := { parameters := [], returnType := none }, accessFlags := 1, code := none }
def k1c1 : Code := { maxStack := 5, maxLocals := 12, code := code, exceptionTable := #[], attributes := #[] }
def k1m1 : Method := { name := "law", desc := "(IIIIII)Z", sig := { parameters := [.int, .int, .int, .int, .int, .int], returnType := some .boolean }, accessFlags := 9, code := some k1c1 }
/-- com/example/blackheight/blackheight/node/TrailClimbToPinLaw -/
def k1 : Class := { plain "com/example/blackheight/blackheight/node/TrailClimbToPinLaw" (some 0) with
  accessFlags := 49
  interfaces := #[]
  cf := some (fileOf pool1 28 #[] #[{ accessFlags := 1, nameIndex := 5, descriptorIndex := 6, attributes := #[] }, { accessFlags := 9, nameIndex := 32, descriptorIndex := 33, attributes := #[] }] 49 2 #[] #[])
  fields := #[]
  methods := #[k1m0, k1m1]
  instanceTypes := #[]
  staticTypes := #[]
  resolved := Array.replicate 39 none
  statics := none }

def pool2 : Array CpInfo := pool [(1, .methodref 2 3), (0, .class_ 4), (0, .nameAndType 5 6), (0, u "java/lang/Object"), (0, u "<init>"), (0, u "()V"), (0, .fieldref 8 9), (0, .class_ 10), (0, .nameAndType 11 12), (0, u "com/example/blackheight/blackheight/node/Trail"), (0, u "NO_ROOM"), (0, u "[I"), (0, .fieldref 8 14), (0, .nameAndType 15 12), (0, u "entries"), (0, .fieldref 8 17), (0, .nameAndType 18 19), (0, u "depth"), (0, u "I"), (2, .methodref 8 23), (0, .nameAndType 24 25), (0, u "changeAt"), (0, u "(I)V"), (0, .methodref 8 27), (0, .nameAndType 28 6), (0, u "grow"), (2, u "reachedRight"), (0, u "Z"), (9, .fieldref 8 43), (0, .nameAndType 44 45), (0, u "unchanged"), (0, u "B"), (1, .class_ 49), (1, u "java/lang/Math"), (1, u "(II)I"), (0, .methodref 53 54), (0, .class_ 55), (0, .nameAndType 56 57), (0, u "java/util/Arrays"), (0, u "copyOf"), (0, u "([II)[I"), (0, .methodref 47 59), (0, .nameAndType 60 51), (0, u "max"), (0, u "FIRST_ROOM"), (4, u "()I"), (0, u "entry"), (0, u "(I)I"), (4, u "push"), (2, u "climbTo")] 8

def k2c0 : Code := { maxStack := 2, maxLocals := 1, code := prog_22_method_1_code, exceptionTable := #[], attributes := #[] }
def k2m0 : Method := { name := "<init>", desc := "()V", sig := { parameters := [], returnType := none }, accessFlags := 1, code := some k2c0 }
def k2c1 : Code := { maxStack := 1, maxLocals := 1, code := prog_22_method_2_code, exceptionTable := #[], attributes := #[] }
def k2m1 : Method := { name := "depth", desc := "()I", sig := { parameters := [], returnType := some .int }, accessFlags := 1, code := some k2c1 }
def k2c2 : Code := { maxStack := 2, maxLocals := 2, code := prog_22_method_3_code, exceptionTable := #[], attributes := #[] }
def k2m2 : Method := { name := "entry", desc := "(I)I", sig := { parameters := [.int], returnType := some .int }, accessFlags := 1, code := some k2c2 }
def k2c3 : Code := { maxStack := 3, maxLocals := 2, code := prog_22_method_6_code, exceptionTable := #[], attributes := #[] }
def k2m3 : Method := { name := "push", desc := "(I)V", sig := { parameters := [.int], returnType := none }, accessFlags := 1, code := some k2c3 }
def k2c4 : Code := { maxStack := 3, maxLocals := 3, code := prog_22_method_9_code, exceptionTable := #[], attributes := #[] }
def k2m4 : Method := { name := "climbTo", desc := "(I)V", sig := { parameters := [.int], returnType := none }, accessFlags := 1, code := some k2c4 }
def k2c5 : Code := { maxStack := 2, maxLocals := 2, code := prog_22_method_15_code, exceptionTable := #[], attributes := #[] }
def k2m5 : Method := { name := "changeAt", desc := "(I)V", sig := { parameters := [.int], returnType := none }, accessFlags := 2, code := some k2c5 }
def k2c6 : Code := { maxStack := 5, maxLocals := 1, code := prog_22_method_16_code, exceptionTable := #[], attributes := #[] }
def k2m6 : Method := { name := "grow", desc := "()V", sig := { parameters := [], returnType := none }, accessFlags := 2, code := some k2c6 }
/-- com/example/blackheight/blackheight/node/Trail -/
def k2 : Class := { plain "com/example/blackheight/blackheight/node/Trail" (some 0) with
  accessFlags := 49
  interfaces := #[]
  cf := some (fileOf pool2 8 #[] #[{ accessFlags := 1, nameIndex := 5, descriptorIndex := 6, attributes := #[] }, { accessFlags := 1, nameIndex := 18, descriptorIndex := 66, attributes := #[] }, { accessFlags := 1, nameIndex := 67, descriptorIndex := 68, attributes := #[] }, { accessFlags := 1, nameIndex := 73, descriptorIndex := 25, attributes := #[] }, { accessFlags := 1, nameIndex := 76, descriptorIndex := 25, attributes := #[] }, { accessFlags := 2, nameIndex := 24, descriptorIndex := 25, attributes := #[] }, { accessFlags := 2, nameIndex := 28, descriptorIndex := 6, attributes := #[] }] 49 2 #[] #[{ accessFlags := 26, nameIndex := 61, descriptorIndex := 19, attributes := #[] }, { accessFlags := 26, nameIndex := 11, descriptorIndex := 12, attributes := #[] }, { accessFlags := 0, nameIndex := 15, descriptorIndex := 12, attributes := #[] }, { accessFlags := 0, nameIndex := 18, descriptorIndex := 19, attributes := #[] }, { accessFlags := 0, nameIndex := 31, descriptorIndex := 32, attributes := #[] }, { accessFlags := 2, nameIndex := 44, descriptorIndex := 45, attributes := #[] }])
  fields := #[{ name := "FIRST_ROOM", type := .int, accessFlags := 26, slot := 0, constantValue := 0 }, { name := "NO_ROOM", type := (.array .int), accessFlags := 26, slot := 1, constantValue := 0 }, { name := "entries", type := (.array .int), accessFlags := 0, slot := 0, constantValue := 0 }, { name := "depth", type := .int, accessFlags := 0, slot := 1, constantValue := 0 }, { name := "reachedRight", type := .boolean, accessFlags := 0, slot := 2, constantValue := 0 }, { name := "unchanged", type := .byte, accessFlags := 2, slot := 3, constantValue := 0 }]
  methods := #[k2m0, k2m1, k2m2, k2m3, k2m4, k2m5, k2m6]
  instanceTypes := #[(.array .int), .int, .boolean, .byte]
  staticTypes := #[.int, (.array .int)]
  resolved := Array.replicate 85 none
  statics := some 0 }

def pool3 : Array CpInfo := pool [(1, .class_ 2), (0, u "java/lang/Math"), (1, .class_ 6), (1, u "java/lang/Object"), (0, u "<init>"), (0, u "()V"), (89, .class_ 100), (1, u "java/lang/Math$RandomNumberGeneratorHolder"), (71, u "negativeZeroFloatBits"), (0, u "J"), (2, u "negativeZeroDoubleBits"), (21, u "max"), (2, u "min"), (43, u "$assertionsDisabled"), (0, u "Z"), (88, u "(II)I"), (2, u "twoToTheDoubleScaleDown"), (0, u "D"), (4, u "twoToTheDoubleScaleUp"), (9, u "E"), (3, u "PI"), (2, u "TAU"), (2, u "DEGREES_TO_RADIANS"), (0, u "RADIANS_TO_DEGREES")] 94

def k3m0 : Method := { name := "<init>", desc := "()V", sig := { parameters := [], returnType := none }, accessFlags := 2, code := none }
def k3c1 : Code := { maxStack := 2, maxLocals := 2, code := jdk_29_method_65_code, exceptionTable := #[], attributes := #[] }
def k3m1 : Method := { name := "max", desc := "(II)I", sig := { parameters := [.int, .int], returnType := some .int }, accessFlags := 9, code := some k3c1 }
def k3c2 : Code := { maxStack := 2, maxLocals := 2, code := jdk_29_method_69_code, exceptionTable := #[], attributes := #[] }
def k3m2 : Method := { name := "min", desc := "(II)I", sig := { parameters := [.int, .int], returnType := some .int }, accessFlags := 9, code := some k3c2 }
/-- java/lang/Math -/
def k3 : Class := { plain "java/lang/Math" (some 0) with
  accessFlags := 49
  interfaces := #[]
  cf := some (fileOf pool3 1 #[.nestMembers #[98]] #[{ accessFlags := 2, nameIndex := 7, descriptorIndex := 8, attributes := #[] }, { accessFlags := 9, nameIndex := 198, descriptorIndex := 335, attributes := #[] }, { accessFlags := 9, nameIndex := 201, descriptorIndex := 335, attributes := #[] }] 49 4 #[] #[{ accessFlags := 25, nameIndex := 354, descriptorIndex := 339, attributes := #[] }, { accessFlags := 25, nameIndex := 358, descriptorIndex := 339, attributes := #[] }, { accessFlags := 25, nameIndex := 361, descriptorIndex := 339, attributes := #[] }, { accessFlags := 26, nameIndex := 364, descriptorIndex := 339, attributes := #[] }, { accessFlags := 26, nameIndex := 365, descriptorIndex := 339, attributes := #[] }, { accessFlags := 26, nameIndex := 172, descriptorIndex := 173, attributes := #[] }, { accessFlags := 26, nameIndex := 176, descriptorIndex := 173, attributes := #[] }, { accessFlags := 8, nameIndex := 344, descriptorIndex := 339, attributes := #[] }, { accessFlags := 8, nameIndex := 338, descriptorIndex := 339, attributes := #[] }, { accessFlags := 4120, nameIndex := 245, descriptorIndex := 246, attributes := #[] }])
  fields := #[{ name := "E", type := .double, accessFlags := 25, slot := 0, constantValue := 0 }, { name := "PI", type := .double, accessFlags := 25, slot := 1, constantValue := 0 }, { name := "TAU", type := .double, accessFlags := 25, slot := 2, constantValue := 0 }, { name := "DEGREES_TO_RADIANS", type := .double, accessFlags := 26, slot := 3, constantValue := 0 }, { name := "RADIANS_TO_DEGREES", type := .double, accessFlags := 26, slot := 4, constantValue := 0 }, { name := "negativeZeroFloatBits", type := .long, accessFlags := 26, slot := 5, constantValue := 0 }, { name := "negativeZeroDoubleBits", type := .long, accessFlags := 26, slot := 6, constantValue := 0 }, { name := "twoToTheDoubleScaleUp", type := .double, accessFlags := 8, slot := 7, constantValue := 0 }, { name := "twoToTheDoubleScaleDown", type := .double, accessFlags := 8, slot := 8, constantValue := 0 }, { name := "$assertionsDisabled", type := .boolean, accessFlags := 4120, slot := 9, constantValue := 0 }]
  methods := #[k3m0, k3m1, k3m2]
  instanceTypes := #[]
  staticTypes := #[.double, .double, .double, .double, .double, .long, .long, .double, .double, .boolean]
  resolved := Array.replicate 460 none
  statics := none }

def pool4 : Array CpInfo := pool [(2, .class_ 4), (1, u "java/lang/Object"), (0, u "<init>"), (0, u "()V"), (7, .class_ 16), (1, u "java/util/Arrays"), (57, .class_ 76), (1, u "java/util/Arrays$NaturalOrder"), (36, .class_ 115), (1, u "java/util/Arrays$LegacyMergeSort"), (1, u "Z"), (32, .methodref 151 152), (0, .class_ 153), (0, .nameAndType 154 155), (0, u "java/lang/System"), (0, u "arraycopy"), (0, u "(Ljava/lang/Object;ILjava/lang/Object;II)V"), (146, u "copyOf"), (1, .methodref 305 306), (0, .class_ 307), (0, .nameAndType 308 309), (0, u "java/lang/Math"), (0, u "min"), (0, u "(II)I"), (65, .class_ 376), (0, u "java/util/Arrays$ArrayList"), (68, u "$assertionsDisabled"), (269, u "MIN_ARRAY_SORT_GRAN"), (0, u "I"), (2, u "INSERTIONSORT_THRESHOLD"), (151, u "([II)[I"), (103, .class_ 976), (0, u "java/util/Arrays$ArrayItr")] 52

def k4m0 : Method := { name := "<init>", desc := "()V", sig := { parameters := [], returnType := none }, accessFlags := 2, code := none }
def k4c1 : Code := { maxStack := 6, maxLocals := 3, code := jdk_65_method_123_code, exceptionTable := #[], attributes := #[] }
def k4m1 : Method := { name := "copyOf", desc := "([II)[I", sig := { parameters := [(.array .int), .int], returnType := some (.array .int) }, accessFlags := 9, code := some k4c1 }
/-- java/util/Arrays -/
def k4 : Class := { plain "java/util/Arrays" (some 0) with
  accessFlags := 49
  interfaces := #[]
  cf := some (fileOf pool4 14 #[.nestMembers #[975, 375, 113, 74]] #[{ accessFlags := 2, nameIndex := 5, descriptorIndex := 6, attributes := #[] }, { accessFlags := 9, nameIndex := 302, descriptorIndex := 871, attributes := #[] }] 49 2 #[] #[{ accessFlags := 26, nameIndex := 715, descriptorIndex := 716, attributes := #[] }, { accessFlags := 26, nameIndex := 719, descriptorIndex := 716, attributes := #[] }, { accessFlags := 4120, nameIndex := 445, descriptorIndex := 117, attributes := #[] }])
  fields := #[{ name := "MIN_ARRAY_SORT_GRAN", type := .int, accessFlags := 26, slot := 0, constantValue := 0 }, { name := "INSERTIONSORT_THRESHOLD", type := .int, accessFlags := 26, slot := 1, constantValue := 0 }, { name := "$assertionsDisabled", type := .boolean, accessFlags := 4120, slot := 2, constantValue := 0 }]
  methods := #[k4m0, k4m1]
  instanceTypes := #[]
  staticTypes := #[.int, .int, .boolean]
  resolved := Array.replicate 1029 none
  statics := none }

def pool5 : Array CpInfo := pool [(2, .class_ 4), (1, u "java/lang/Object"), (0, u "<init>"), (0, u "()V"), (1, .class_ 10), (1, u "java/lang/System"), (0, u "allowSecurityManager"), (0, u "I"), (16, u "cons"), (0, u "Ljava/io/Console;"), (77, .class_ 110), (1, u "java/lang/System$CallersHolder"), (43, u "initialErrStream"), (0, u "Ljava/io/PrintStream;"), (19, u "security"), (0, u "Ljava/lang/SecurityManager;"), (31, .class_ 209), (0, u "java/lang/System$1"), (7, u "props"), (0, u "Ljava/util/Properties;"), (2, u "lineSeparator"), (0, u "Ljava/lang/String;"), (96, .class_ 321), (1, u "java/lang/System$LoggerFinder"), (5, .class_ 328), (0, u "java/lang/System$Logger"), (67, u "err"), (2, u "out"), (91, u "notSupportedJnuEncoding"), (15, u "in"), (17, u "initialIn"), (0, u "Ljava/io/InputStream;"), (35, u "bootLayer"), (0, u "Ljava/lang/ModuleLayer;"), (99, .class_ 664), (0, u "java/lang/System$2"), (9, u "NEVER"), (2, u "MAYBE"), (49, u "arraycopy"), (0, u "(Ljava/lang/Object;ILjava/lang/Object;II)V"), (72, .class_ 802), (0, u "java/lang/System$Logger$Level")] 31

def k5m0 : Method := { name := "<init>", desc := "()V", sig := { parameters := [], returnType := none }, accessFlags := 2, code := none }
def k5m1 : Method := { name := "arraycopy", desc := "(Ljava/lang/Object;ILjava/lang/Object;II)V", sig := { parameters := [(.object "java/lang/Object"), .int, (.object "java/lang/Object"), .int, .int], returnType := none }, accessFlags := 265, code := none }
/-- java/lang/System -/
def k5 : Class := { plain "java/lang/System" (some 0) with
  accessFlags := 49
  interfaces := #[]
  cf := some (fileOf pool5 8 #[.nestMembers #[319, 327, 801, 108, 663, 208]] #[{ accessFlags := 2, nameIndex := 5, descriptorIndex := 6, attributes := #[] }, { accessFlags := 265, nameIndex := 727, descriptorIndex := 728, attributes := #[] }] 49 2 #[] #[{ accessFlags := 25, nameIndex := 507, descriptorIndex := 526, attributes := #[] }, { accessFlags := 25, nameIndex := 399, descriptorIndex := 155, attributes := #[] }, { accessFlags := 25, nameIndex := 396, descriptorIndex := 155, attributes := #[] }, { accessFlags := 10, nameIndex := 525, descriptorIndex := 526, attributes := #[] }, { accessFlags := 26, nameIndex := 674, descriptorIndex := 12, attributes := #[] }, { accessFlags := 26, nameIndex := 677, descriptorIndex := 12, attributes := #[] }, { accessFlags := 10, nameIndex := 11, descriptorIndex := 12, attributes := #[] }, { accessFlags := 74, nameIndex := 175, descriptorIndex := 176, attributes := #[] }, { accessFlags := 10, nameIndex := 491, descriptorIndex := 222, attributes := #[] }, { accessFlags := 74, nameIndex := 29, descriptorIndex := 30, attributes := #[] }, { accessFlags := 74, nameIndex := 154, descriptorIndex := 155, attributes := #[] }, { accessFlags := 10, nameIndex := 217, descriptorIndex := 218, attributes := #[] }, { accessFlags := 10, nameIndex := 221, descriptorIndex := 222, attributes := #[] }, { accessFlags := 8, nameIndex := 562, descriptorIndex := 563, attributes := #[] }])
  fields := #[{ name := "in", type := (.object "java/io/InputStream"), accessFlags := 25, slot := 0, constantValue := 0 }, { name := "out", type := (.object "java/io/PrintStream"), accessFlags := 25, slot := 1, constantValue := 0 }, { name := "err", type := (.object "java/io/PrintStream"), accessFlags := 25, slot := 2, constantValue := 0 }, { name := "initialIn", type := (.object "java/io/InputStream"), accessFlags := 10, slot := 3, constantValue := 0 }, { name := "NEVER", type := .int, accessFlags := 26, slot := 4, constantValue := 0 }, { name := "MAYBE", type := .int, accessFlags := 26, slot := 5, constantValue := 0 }, { name := "allowSecurityManager", type := .int, accessFlags := 10, slot := 6, constantValue := 0 }, { name := "security", type := (.object "java/lang/SecurityManager"), accessFlags := 74, slot := 7, constantValue := 0 }, { name := "notSupportedJnuEncoding", type := (.object "java/lang/String"), accessFlags := 10, slot := 8, constantValue := 0 }, { name := "cons", type := (.object "java/io/Console"), accessFlags := 74, slot := 9, constantValue := 0 }, { name := "initialErrStream", type := (.object "java/io/PrintStream"), accessFlags := 74, slot := 10, constantValue := 0 }, { name := "props", type := (.object "java/util/Properties"), accessFlags := 10, slot := 11, constantValue := 0 }, { name := "lineSeparator", type := (.object "java/lang/String"), accessFlags := 10, slot := 12, constantValue := 0 }, { name := "bootLayer", type := (.object "java/lang/ModuleLayer"), accessFlags := 8, slot := 13, constantValue := 0 }]
  methods := #[k5m0, k5m1]
  instanceTypes := #[]
  staticTypes := #[(.object "java/io/InputStream"), (.object "java/io/PrintStream"), (.object "java/io/PrintStream"), (.object "java/io/InputStream"), .int, .int, .int, (.object "java/lang/SecurityManager"), (.object "java/lang/String"), (.object "java/io/Console"), (.object "java/io/PrintStream"), (.object "java/util/Properties"), (.object "java/lang/String"), (.object "java/lang/ModuleLayer")]
  resolved := Array.replicate 834 none
  statics := none }

def pool6 : Array CpInfo := pool [(1, u "java/lang/Cloneable"), (0, .class_ 1), (0, u "java/lang/Object"), (0, .class_ 3)] 3

/-- java/lang/Cloneable -/
def k6 : Class := { plain "java/lang/Cloneable" (some 0) with
  accessFlags := 1537
  interfaces := #[]
  cf := some (fileOf pool6 2 #[] #[] 1537 4 #[] #[])
  fields := #[]
  methods := #[]
  instanceTypes := #[]
  staticTypes := #[]
  resolved := Array.replicate 8 none
  statics := none }

def pool7 : Array CpInfo := pool [(1, u "java/io/Serializable"), (0, .class_ 1), (0, u "java/lang/Object"), (0, .class_ 3)] 3

/-- java/io/Serializable -/
def k7 : Class := { plain "java/io/Serializable" (some 0) with
  accessFlags := 1537
  interfaces := #[]
  cf := some (fileOf pool7 2 #[] #[] 1537 4 #[] #[])
  fields := #[]
  methods := #[]
  instanceTypes := #[]
  staticTypes := #[]
  resolved := Array.replicate 8 none
  statics := none }

/-- the primitive byte -/
def k8 : Class := { plain "byte" none with kind := .primitive 'B', accessFlags := 0x411 }
/-- [B -/
def k9 : Class := { plain "[B" (some 0) with kind := .array 8 .byte, interfaces := #[6, 7], accessFlags := 1041 }

/-- the primitive int -/
def k10 : Class := { plain "int" none with kind := .primitive 'I', accessFlags := 0x411 }
/-- [I -/
def k11 : Class := { plain "[I" (some 0) with kind := .array 10 .int, interfaces := #[6, 7], accessFlags := 1041 }

def heap : Heap := #[{ cls := 2, slots := #[.int 0, .ref 1], vm := .statics 2 },
  { cls := 11, slots := #[], vm := .none }]
def classes : Array Class := #[k0, k1, k2, k3, k4, k5, k6, k7, k8, k9, k10, k11]
def interned : List (Array UInt16 × Addr) := []
def slotsUsed : Nat := 2
def theMethod : MethodId := ⟨1, 1⟩
def args0 : Array Value := #[.int 5, .int 5, .int 5, .int 5, .int 5, .int 5]
def aboutOver (below : List Frame) : State where
  vm := { classes := classes, interned := interned.toArray }
  heap := heap
  slotsUsed := slotsUsed
  threads := #[{ frames := .invoking theMethod args0 :: below }]
def below0 : List Frame := [.native { method := ⟨0, 0⟩, args := #[] }]
def about1 : State := aboutOver below0
def p0 : Program := .bare "" "" ""
def e0 : Env := launch0.env 0 0 0
theorem w_frames : about1.frames = Frame.invoking theMethod args0 :: below0 := rfl
set_option maxRecDepth 65536 in
theorem w_args : argsFit about1.vm theMethod args0 = true := by decide +kernel
set_option maxRecDepth 65536 in
theorem w_heap : heapFits about1 = true := by decide +kernel
set_option maxRecDepth 65536 in
theorem w_runnable : about1.curStatus? = some .runnable := by decide +kernel
set_option maxRecDepth 65536 in
theorem w_alone : about1.alone = true := by decide +kernel
set_option maxRecDepth 65536 in
theorem w_named : about1.methodNamed? x = some theMethod := by decide +kernel
set_option maxRecDepth 65536 in
theorem w_hears : about1.hears theMethod below0 = true := by decide +kernel
set_option maxRecDepth 65536 in
theorem w_ripe : about1.ripe theMethod args0 below0 = true := by decide +kernel
theorem w_running : about1.status = .running := rfl
set_option maxRecDepth 65536 in
theorem w_room : about1.hasRoom e0.platform room_1 = true :=
  launch0.hasRoom_least _ room_1 (by decide +kernel) (by decide +kernel) (by decide +kernel) (by decide +kernel) (by decide +kernel) (by decide +kernel)
theorem allAtoms_all (ts : List Jvm.Cond) (a : Array Jvm.Value) (st : Jvm.State) : (allAtoms ts).before a st = ts.all (fun c => c.before a st) := by
  induction ts with
  | nil => rfl
  | cons c t ih =>
    show (Jvm.Cond.and c (allAtoms t)).before a st = _
    rw [Jvm.Cond.before_and, ih, List.all_cons]
def words1 : List Jvm.Cond := Jvm.Cond.code x code maxLocals ret :: tables_1
/-- a 'code' word, met by the world's own term for the bytes: nothing is compared byte by byte -/
theorem code_word {y : MethodName} {bytes : ByteArray} {mx : Nat} {rt : Option FieldType} {a : Array Value} {s : State} {m : MethodId} {meth : Method} {c : Code} (h1 : s.methodNamed? y = some m) (h2 : s.vm.method? m = some meth) (h3 : meth.code = some c) (h4 : c.code = bytes)
    (h5 : (c.maxLocals == mx && c.exceptionTable.isEmpty && decide (c.maxStack ≤ mostOperands) && decide (meth.sig.returnType = rt) && !meth.locks && decide (parseMethodDescriptor y.desc = some meth.sig)) = true) : (Jvm.Cond.code y bytes mx rt).before a s = true := by
  simp only [Bool.and_eq_true, beq_iff_eq, Bool.not_eq_true', decide_eq_true_eq] at h5
  obtain ⟨⟨⟨⟨⟨g1, g2⟩, g3⟩, g4⟩, g5⟩, g6⟩ := h5
  simp [Cond.before, Cond.holds, Cond.value, h1, h2, h3, h4, g1, g2, g3, g4, g5, g6]
def isCode : Jvm.Cond → Bool
  | .code _ _ _ _ => true
  | _ => false
theorem all_split {L : List Jvm.Cond} {P : Jvm.Cond → Bool} (h1 : L.all (fun c => isCode c || P c) = true) (h2 : ∀ c ∈ L.filter isCode, P c = true) : L.all P = true := by
  refine List.all_eq_true.mpr fun c hc => ?_
  have h := List.all_eq_true.mp h1 c hc
  rcases Bool.eq_false_or_eq_true (isCode c) with hi | hi
  · exact h2 c (List.mem_filter.mpr ⟨hc, hi⟩)
  · simpa [hi] using h
set_option maxRecDepth 65536 in
theorem w_c0 : (Jvm.Cond.code x code maxLocals ret).before args0 about1 = true := code_word (m := ⟨1, 1⟩) (meth := k1m1) (c := k1c1) (by decide +kernel) rfl rfl rfl (by decide +kernel)
set_option maxRecDepth 65536 in
theorem w_c1 : (Jvm.Cond.code ({ cls := "com/example/blackheight/blackheight/node/Trail", name := "<init>", desc := "()V" } : Jvm.MethodName) prog_22_method_1_code (1 : Nat) (Option.none : Option Jvm.ClassFile.FieldType)).before args0 about1 = true := code_word (m := ⟨2, 0⟩) (meth := k2m0) (c := k2c0) (by decide +kernel) rfl rfl rfl (by decide +kernel)
set_option maxRecDepth 65536 in
theorem w_c2 : (Jvm.Cond.code ({ cls := "java/lang/Object", name := "<init>", desc := "()V" } : Jvm.MethodName) object_method_1_code (1 : Nat) (Option.none : Option Jvm.ClassFile.FieldType)).before args0 about1 = true := code_word (m := ⟨0, 0⟩) (meth := k0m0) (c := k0c0) (by decide +kernel) rfl rfl rfl (by decide +kernel)
set_option maxRecDepth 65536 in
theorem w_c3 : (Jvm.Cond.code ({ cls := "com/example/blackheight/blackheight/node/Trail", name := "climbTo", desc := "(I)V" } : Jvm.MethodName) prog_22_method_9_code (3 : Nat) (Option.none : Option Jvm.ClassFile.FieldType)).before args0 about1 = true := code_word (m := ⟨2, 4⟩) (meth := k2m4) (c := k2c4) (by decide +kernel) rfl rfl rfl (by decide +kernel)
set_option maxRecDepth 65536 in
theorem w_c4 : (Jvm.Cond.code ({ cls := "com/example/blackheight/blackheight/node/Trail", name := "depth", desc := "()I" } : Jvm.MethodName) prog_22_method_2_code (1 : Nat) (Option.some Jvm.ClassFile.FieldType.int)).before args0 about1 = true := code_word (m := ⟨2, 1⟩) (meth := k2m1) (c := k2c1) (by decide +kernel) rfl rfl rfl (by decide +kernel)
set_option maxRecDepth 65536 in
theorem w_c5 : (Jvm.Cond.code ({ cls := "com/example/blackheight/blackheight/node/Trail", name := "push", desc := "(I)V" } : Jvm.MethodName) prog_22_method_6_code (2 : Nat) (Option.none : Option Jvm.ClassFile.FieldType)).before args0 about1 = true := code_word (m := ⟨2, 3⟩) (meth := k2m3) (c := k2c3) (by decide +kernel) rfl rfl rfl (by decide +kernel)
set_option maxRecDepth 65536 in
theorem w_c6 : (Jvm.Cond.code ({ cls := "com/example/blackheight/blackheight/node/Trail", name := "grow", desc := "()V" } : Jvm.MethodName) prog_22_method_16_code (1 : Nat) (Option.none : Option Jvm.ClassFile.FieldType)).before args0 about1 = true := code_word (m := ⟨2, 6⟩) (meth := k2m6) (c := k2c6) (by decide +kernel) rfl rfl rfl (by decide +kernel)
set_option maxRecDepth 65536 in
theorem w_c7 : (Jvm.Cond.code ({ cls := "java/lang/Math", name := "max", desc := "(II)I" } : Jvm.MethodName) jdk_29_method_65_code (2 : Nat) (Option.some Jvm.ClassFile.FieldType.int)).before args0 about1 = true := code_word (m := ⟨3, 1⟩) (meth := k3m1) (c := k3c1) (by decide +kernel) rfl rfl rfl (by decide +kernel)
set_option maxRecDepth 65536 in
theorem w_c8 : (Jvm.Cond.code ({ cls := "java/util/Arrays", name := "copyOf", desc := "([II)[I" } : Jvm.MethodName) jdk_65_method_123_code (3 : Nat) (Option.some (Jvm.ClassFile.FieldType.array Jvm.ClassFile.FieldType.int))).before args0 about1 = true := code_word (m := ⟨4, 1⟩) (meth := k4m1) (c := k4c1) (by decide +kernel) rfl rfl rfl (by decide +kernel)
set_option maxRecDepth 65536 in
theorem w_c9 : (Jvm.Cond.code ({ cls := "java/lang/Math", name := "min", desc := "(II)I" } : Jvm.MethodName) jdk_29_method_69_code (2 : Nat) (Option.some Jvm.ClassFile.FieldType.int)).before args0 about1 = true := code_word (m := ⟨3, 2⟩) (meth := k3m2) (c := k3c2) (by decide +kernel) rfl rfl rfl (by decide +kernel)
set_option maxRecDepth 65536 in
theorem w_c10 : (Jvm.Cond.code ({ cls := "com/example/blackheight/blackheight/node/Trail", name := "changeAt", desc := "(I)V" } : Jvm.MethodName) prog_22_method_15_code (2 : Nat) (Option.none : Option Jvm.ClassFile.FieldType)).before args0 about1 = true := code_word (m := ⟨2, 5⟩) (meth := k2m5) (c := k2c5) (by decide +kernel) rfl rfl rfl (by decide +kernel)
set_option maxRecDepth 65536 in
theorem w_c11 : (Jvm.Cond.code ({ cls := "com/example/blackheight/blackheight/node/Trail", name := "entry", desc := "(I)I" } : Jvm.MethodName) prog_22_method_3_code (2 : Nat) (Option.some Jvm.ClassFile.FieldType.int)).before args0 about1 = true := code_word (m := ⟨2, 2⟩) (meth := k2m2) (c := k2c2) (by decide +kernel) rfl rfl rfl (by decide +kernel)
def codes1 : List Jvm.Cond := [Jvm.Cond.code x code maxLocals ret, Jvm.Cond.code ({ cls := "com/example/blackheight/blackheight/node/Trail", name := "<init>", desc := "()V" } : Jvm.MethodName) prog_22_method_1_code (1 : Nat) (Option.none : Option Jvm.ClassFile.FieldType), Jvm.Cond.code ({ cls := "java/lang/Object", name := "<init>", desc := "()V" } : Jvm.MethodName) object_method_1_code (1 : Nat) (Option.none : Option Jvm.ClassFile.FieldType), Jvm.Cond.code ({ cls := "com/example/blackheight/blackheight/node/Trail", name := "climbTo", desc := "(I)V" } : Jvm.MethodName) prog_22_method_9_code (3 : Nat) (Option.none : Option Jvm.ClassFile.FieldType), Jvm.Cond.code ({ cls := "com/example/blackheight/blackheight/node/Trail", name := "depth", desc := "()I" } : Jvm.MethodName) prog_22_method_2_code (1 : Nat) (Option.some Jvm.ClassFile.FieldType.int), Jvm.Cond.code ({ cls := "com/example/blackheight/blackheight/node/Trail", name := "push", desc := "(I)V" } : Jvm.MethodName) prog_22_method_6_code (2 : Nat) (Option.none : Option Jvm.ClassFile.FieldType), Jvm.Cond.code ({ cls := "com/example/blackheight/blackheight/node/Trail", name := "grow", desc := "()V" } : Jvm.MethodName) prog_22_method_16_code (1 : Nat) (Option.none : Option Jvm.ClassFile.FieldType), Jvm.Cond.code ({ cls := "java/lang/Math", name := "max", desc := "(II)I" } : Jvm.MethodName) jdk_29_method_65_code (2 : Nat) (Option.some Jvm.ClassFile.FieldType.int), Jvm.Cond.code ({ cls := "java/util/Arrays", name := "copyOf", desc := "([II)[I" } : Jvm.MethodName) jdk_65_method_123_code (3 : Nat) (Option.some (Jvm.ClassFile.FieldType.array Jvm.ClassFile.FieldType.int)), Jvm.Cond.code ({ cls := "java/lang/Math", name := "min", desc := "(II)I" } : Jvm.MethodName) jdk_29_method_69_code (2 : Nat) (Option.some Jvm.ClassFile.FieldType.int), Jvm.Cond.code ({ cls := "com/example/blackheight/blackheight/node/Trail", name := "changeAt", desc := "(I)V" } : Jvm.MethodName) prog_22_method_15_code (2 : Nat) (Option.none : Option Jvm.ClassFile.FieldType), Jvm.Cond.code ({ cls := "com/example/blackheight/blackheight/node/Trail", name := "entry", desc := "(I)I" } : Jvm.MethodName) prog_22_method_3_code (2 : Nat) (Option.some Jvm.ClassFile.FieldType.int)]
set_option maxRecDepth 65536 in
theorem codes_eq : words1.filter isCode = codes1 := rfl
theorem w_codes : ∀ c ∈ words1.filter isCode, c.before args0 about1 = true := by
  rw [codes_eq]
  intro c hc
  simp only [codes1, List.mem_cons, List.not_mem_nil, or_false] at hc
  rcases hc with rfl | rfl | rfl | rfl | rfl | rfl | rfl | rfl | rfl | rfl | rfl | rfl
  · exact w_c0
  · exact w_c1
  · exact w_c2
  · exact w_c3
  · exact w_c4
  · exact w_c5
  · exact w_c6
  · exact w_c7
  · exact w_c8
  · exact w_c9
  · exact w_c10
  · exact w_c11
set_option maxRecDepth 65536 in
theorem w_t1 : (words1.take 24).all (fun c => isCode c || c.before args0 about1) = true := by decide +kernel
set_option maxRecDepth 65536 in
theorem w_t2 : ((words1.drop 24).take 24).all (fun c => isCode c || c.before args0 about1) = true := by decide +kernel
set_option maxRecDepth 65536 in
theorem w_t3 : ((words1.drop 24).drop 24).all (fun c => isCode c || c.before args0 about1) = true := by decide +kernel
theorem w_tables : (allAtoms (Jvm.Cond.code x code maxLocals ret :: tables_1)).before args0 about1 = true := by
  rw [allAtoms_all]
  show words1.all (fun c => c.before args0 about1) = true
  refine all_split ?_ w_codes
  rw [← List.take_append_drop 24 words1, List.all_append, w_t1, ← List.take_append_drop 24 (words1.drop 24), List.all_append, w_t2, w_t3]
  rfl
set_option maxRecDepth 65536 in
theorem w_case : (Jvm.Cond.and given_1 narrow_1).before args0 about1 = true := by decide +kernel
theorem w_applies : (headSpec (Jvm.Cond.code x code maxLocals ret :: tables_1) room_1).applies x e0.platform about1 = true :=
  (Spec.applies_iff w_frames).mpr ⟨w_running, w_runnable, w_alone, w_named, w_hears, w_ripe, w_room, w_tables⟩
theorem atStart : AtStart classFile x code maxLocals ret World_1 tables_1 room_1 Calls_1 rest_1 Pre_1 launch0 p0 e0 about1 theMethod args0 below0 :=
  ⟨lists_1, trivial, launch0.admits_env _ _ _, launch0.least_env, fairChoices_fair.cas, fairChoices_fair.clock, w_frames, w_args, w_heap, w_applies, trivial, trivial, w_case⟩
end start1
theorem witness_1 : WitnessClaimed_1 := ⟨start1.p0, start1.e0, start1.about1, start1.theMethod, start1.args0, start1.below0, start1.atStart⟩
end Jvm.Pilot.@@N@@
