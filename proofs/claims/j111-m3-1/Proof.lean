import JvmDerived
import JvmDerived.Pilot.@@N@@Statement
import JvmDerived.Pilot.@@N@@Code
set_option linter.unusedVariables false
set_option linter.unusedSimpArgs false
set_option maxRecDepth 65536
set_option maxHeartbeats 8000000
namespace Jvm.Pilot.@@N@@
open Jvm Jvm.ClassFile Sem Op Lib Jvm.Free Jvm.Stand Jvm.LawKit Jvm.RoadKit Bundle Jvm.Pilot.@@N@@.Jvm.D
abbrev vI (x : Int32) : Slot := .val (.int x)
abbrev vJ (x : Int64) : Slot := .val (.long x)
abbrev vR (x : Addr) : Slot := .val (.ref x)
abbrev vN : Slot := .val .null
/-- the run from S comes to an end at which K holds -/
def Go (p : Program) (e : Env) (below : List Frame) (K : State → Outcome → Prop) (S : State) : Prop := ∃ t o, Steps p.tables e below S t ∧ K t o
theorem Go.via {p : Program} {e : Env} {below : List Frame} {K : State → Outcome → Prop} {A B : State} (h : ∀ t, Steps p.tables e below B t → Steps p.tables e below A t) (g : Go p e below K B) : Go p e below K A := by
  obtain ⟨t, o, h1, h2⟩ := g; exact ⟨t, o, h t h1, h2⟩
/-- a method's end: what it returned, the heap and the places written answer Q -/
def EndK (s : State) (below : List Frame) (Q : Option Value → Heap → List Loc → Prop) (C S : Nat) (t : State) (o : Outcome) : Prop := t.status = .running ∧ Ended t below o ∧ ∃ v L, o = .returned v ∧ Q v t.heap L ∧ FrameEnd s o t L C S
/-- a method's contract -/
def Con (l : Launch) (Z : State) (y : MethodName) (bytes : ByteArray) (maxL : Nat) (ret : Option FieldType) (rm : Room) (as : Array Value) (h : Heap) (Q : Option Value → Heap → List Loc → Prop) : Prop :=
  ∀ ws, MetFree l y (head1 (Jvm.Cond.code y bytes maxL ret :: ws) rm) (fun a U => a = as ∧ Z.Warmed39 U.vm ∧ U.heap = h) (fun _ _ _ _ _ => True) (fun _ U o U' => ∃ v L, o = .returned v ∧ Q v U'.heap L ∧ FrameEnd U o U' L rm.cells rm.slots)
theorem Con.of {l : Launch} {Z : State} {y : MethodName} {bytes : ByteArray} {maxL : Nat} {ret : Option FieldType} {rm : Room} {as : Array Value} {h : Heap} {Q : Option Value → Heap → List Loc → Prop} {Ls : Array Slot} (hp : plainFor y = true) (hfr : ∀ m, entryFrame m as maxL = mkF m 0 Ls [])
    (body : ∀ (p : Program) (e : Env) (s : State) (m : MethodId) (below : List Frame) (meth : Method) (c : Code) (T : State), Stand p l e rm s m as below meth c T [] 0 0 → p.tables.exec = Jvm.exec ∧ c.code = bytes → c.maxLocals = maxL → Z.Warmed39 s.vm → s.vm.findClass y.cls = some m.cls → meth.name = y.name → meth.sig.returnType = ret → meth.locks = false → T.heap = h → Go p e below (EndK s below Q rm.cells rm.slots) (T.setTop (mkF m 0 Ls []))) :
    Con l Z y bytes maxL ret rm as h Q := by
  intro ws
  refine MetFree.of_bodySF hp hisR ?_
  intro p e s m args below meth c s₁ Bd hml hP hK
  obtain ⟨rfl, hZ, hh⟩ := hP
  have e0 : s₁.heap = h := by rw [← hh, Bd.state]; rfl
  obtain ⟨t, o, h1, h2⟩ := body p e s m below meth c s₁ (Stand.of_body Bd) ⟨Bd.exec, Bd.bytes⟩ hml hZ (findClass_of_methodNamed Bd.named) (name_of_methodNamed Bd.named Bd.method).1 Bd.returns Bd.notSynchronized e0
  exact ⟨t, o, castTop (hfr m) h1, h2⟩
theorem selPriv {Z : State} {a0 : Array Value} {y : MethodName} {kk : Nat} (wp : (Cond.privateMethod y).before a0 Z = true) (wi : (Cond.instanceMethod y).before a0 Z = true) (wk : (Cond.instantiable y.cls kk).before a0 Z = true) (hy : y.cls ≠ "java/lang/invoke/MethodHandle" ∧ y.cls ≠ "java/lang/invoke/VarHandle") : (Cond.selects y.cls y y).before a0 Z = true := by
  obtain ⟨mk, methM, hnamed, hmethM, hst, hab⟩ := Cond.instanceMethod_spec wi
  have hp := Cond.privateMethod_at wp mk methM hnamed hmethM
  have hf := State.methodFound?_of_named hnamed hy
  have hc := findClass_of_methodNamed hnamed
  obtain ⟨c, k, h1, h2, h3, h4, -⟩ := Cond.instantiable_spec wk
  cases h1.symm.trans hc
  have h5 : k.isInterface = false := (Bool.or_eq_false_iff.mp h4).1
  simp [Cond.before, Cond.holds, Cond.value, hc, hf, hnamed, selectMethod, hmethM, hp, h2, h5]
/-- an array of that length -/
def Arl (Z : State) (h : Heap) (a : Addr) (n : Int32) : Prop := ∃ k ty vs d, Arv Z h a k ty n vs d
theorem Arv.arl {Z : State} {h : Heap} {a : Addr} {k : ClassId} {ty : FieldType} {n : Int32} {vs : List Value} {d : Value} (A : Arv Z h a k ty n vs d) : Arl Z h a n := ⟨k, ty, vs, d, A⟩
theorem Arl.lt {Z : State} {h : Heap} {a : Addr} {n : Int32} (A : Arl Z h a n) : a < h.size := by obtain ⟨k, ty, vs, d, A⟩ := A; exact A.lt
theorem Arl.ext {Z : State} {h h' : Heap} {a : Addr} {n : Int32} (A : Arl Z h a n) (E : Ext h h') : Arl Z h' a n := by obtain ⟨k, ty, vs, d, A⟩ := A; exact ⟨k, ty, vs, d, A.ext E⟩
theorem Arl.other {Z : State} {h h' : Heap} {a b : Addr} {n : Int32} {sl : Nat} {v : Value} (A : Arl Z h b n) (W : Wr h h' a sl v) (q : b ≠ a) : Arl Z h' b n := by obtain ⟨k, ty, vs, d, A⟩ := A; exact ⟨k, ty, vs, d, A.other W q⟩
theorem Arl.keep {Z : State} {h h' : Heap} {a : Addr} {n : Int32} {ws : List Addr} (A : Arl Z h a n) (K : Keep h h' ws) (q : a ∉ ws) : Arl Z h' a n := by obtain ⟨k, ty, vs, d, A⟩ := A; exact ⟨k, ty, vs, d, A.keep K q⟩
section Steps
variable {p : Program} {l : Launch} {e : Env} {R : Room} {s : State} {m : MethodId} {args : Array Value} {below : List Frame} {meth : Method} {c : Code} {T : State} {locs : List Loc} {cells slots : Nat} {K : State → Outcome → Prop} {Z : State} {a0 : Array Value} {h : Heap} {bs : ByteArray} {Ls Ls' : Array Slot} {st : List Value} {pc pc' : Nat}

theorem gIloadN (X : Stand p l e R s m args below meth c T locs cells slots) (H : p.tables.exec = Jvm.exec ∧ c.code = bs) {k : Fin 4} {v : Int32} (hd : decode bs pc = .ok (.iload_n k, 1)) (hl : Ls[k.val]? = some (.val (.int v))) (pc' : Nat) (hp : pc + 1 = pc') (g : Go p e below K (T.setTop (mkF m pc' Ls (.int v :: st)))) : Go p e below K (T.setTop (mkF m pc Ls (st))) := by
  subst hp
  exact Go.via (fun t k => XS.iloadN (g := mkF m pc Ls (st)) X.here H.1 rfl (hb H.2 hd) hl k) g

theorem gAloadN (X : Stand p l e R s m args below meth c T locs cells slots) (H : p.tables.exec = Jvm.exec ∧ c.code = bs) {k : Fin 4} {v : Value} (hd : decode bs pc = .ok (.aload_n k, 1)) (hl : Ls[k.val]? = some (.val v)) (hv : v.isRef = true) (pc' : Nat) (hp : pc + 1 = pc') (g : Go p e below K (T.setTop (mkF m pc' Ls (v :: st)))) : Go p e below K (T.setTop (mkF m pc Ls (st))) := by
  subst hp
  exact Go.via (fun t k => XS.aloadN (g := mkF m pc Ls (st)) X.here H.1 rfl (hb H.2 hd) hl hv k) g

theorem gAstoreN (X : Stand p l e R s m args below meth c T locs cells slots) (H : p.tables.exec = Jvm.exec ∧ c.code = bs) {k : Fin 4} {v : Value} (hd : decode bs pc = .ok (.astore_n k, 1)) (hv : v.isRef = true) (hl : storeLocals Ls k.val v = some Ls') (pc' : Nat) (hp : pc + 1 = pc') (g : Go p e below K (T.setTop (mkF m pc' Ls' (st)))) : Go p e below K (T.setTop (mkF m pc Ls (v :: st))) := by
  subst hp
  exact Go.via (fun t k => XS.astoreN (g := mkF m pc Ls (v :: st)) X.here H.1 rfl (hb H.2 hd) rfl hv hl k) g

theorem gIload (X : Stand p l e R s m args below meth c T locs cells slots) (H : p.tables.exec = Jvm.exec ∧ c.code = bs) {k : Nat} {v : Int32} (hd : decode bs pc = .ok (.iload k, 2)) (hl : Ls[k]? = some (.val (.int v))) (pc' : Nat) (hp : pc + 2 = pc') (g : Go p e below K (T.setTop (mkF m pc' Ls (.int v :: st)))) : Go p e below K (T.setTop (mkF m pc Ls (st))) := by
  subst hp
  exact Go.via (fun t k => XS.iload (g := mkF m pc Ls (st)) X.here H.1 rfl (hb H.2 hd) hl k) g

theorem gAload (X : Stand p l e R s m args below meth c T locs cells slots) (H : p.tables.exec = Jvm.exec ∧ c.code = bs) {k : Nat} {v : Value} (hd : decode bs pc = .ok (.aload k, 2)) (hl : Ls[k]? = some (.val v)) (hv : v.isRef = true) (pc' : Nat) (hp : pc + 2 = pc') (g : Go p e below K (T.setTop (mkF m pc' Ls (v :: st)))) : Go p e below K (T.setTop (mkF m pc Ls (st))) := by
  subst hp
  exact Go.via (fun t k => XS.aload (g := mkF m pc Ls (st)) X.here H.1 rfl (hb H.2 hd) hl hv k) g

theorem gIstore (X : Stand p l e R s m args below meth c T locs cells slots) (H : p.tables.exec = Jvm.exec ∧ c.code = bs) {k : Nat} {v : Int32} (hd : decode bs pc = .ok (.istore k, 2)) (hl : storeLocals Ls k (.int v) = some Ls') (pc' : Nat) (hp : pc + 2 = pc') (g : Go p e below K (T.setTop (mkF m pc' Ls' (st)))) : Go p e below K (T.setTop (mkF m pc Ls (.int v :: st))) := by
  subst hp
  exact Go.via (fun t k => XS.istore (g := mkF m pc Ls (.int v :: st)) X.here H.1 rfl (hb H.2 hd) rfl hl k) g

theorem gAstore (X : Stand p l e R s m args below meth c T locs cells slots) (H : p.tables.exec = Jvm.exec ∧ c.code = bs) {k : Nat} {v : Value} (hd : decode bs pc = .ok (.astore k, 2)) (hv : v.isRef = true) (hl : storeLocals Ls k v = some Ls') (pc' : Nat) (hp : pc + 2 = pc') (g : Go p e below K (T.setTop (mkF m pc' Ls' (st)))) : Go p e below K (T.setTop (mkF m pc Ls (v :: st))) := by
  subst hp
  exact Go.via (fun t k => XS.astore (g := mkF m pc Ls (v :: st)) X.here H.1 rfl (hb H.2 hd) rfl hv hl k) g

theorem gIconst (X : Stand p l e R s m args below meth c T locs cells slots) (H : p.tables.exec = Jvm.exec ∧ c.code = bs) {i : Int} {z : Int32} (hd : decode bs pc = .ok (.iconst i, 1)) (hz : Int32.ofInt i = z) (pc' : Nat) (hp : pc + 1 = pc') (g : Go p e below K (T.setTop (mkF m pc' Ls (.int z :: st)))) : Go p e below K (T.setTop (mkF m pc Ls (st))) := by
  subst hp hz
  exact Go.via (fun t k => XS.iconst (g := mkF m pc Ls (st)) X.here H.1 rfl (hb H.2 hd) k) g

theorem gBipush (X : Stand p l e R s m args below meth c T locs cells slots) (H : p.tables.exec = Jvm.exec ∧ c.code = bs) {i : Int} {z : Int32} (hd : decode bs pc = .ok (.bipush i, 2)) (hz : (Int8.ofInt i).toInt32 = z) (pc' : Nat) (hp : pc + 2 = pc') (g : Go p e below K (T.setTop (mkF m pc' Ls (.int z :: st)))) : Go p e below K (T.setTop (mkF m pc Ls (st))) := by
  subst hp hz
  exact Go.via (fun t k => XS.bipush (g := mkF m pc Ls (st)) X.here H.1 rfl (hb H.2 hd) k) g

theorem g_iadd (X : Stand p l e R s m args below meth c T locs cells slots) (H : p.tables.exec = Jvm.exec ∧ c.code = bs) {x y z : Int32} (hd : decode bs pc = .ok (.iadd, 1)) (hz : x + y = z) (pc' : Nat) (hp : pc + 1 = pc') (g : Go p e below K (T.setTop (mkF m pc' Ls (.int z :: st)))) : Go p e below K (T.setTop (mkF m pc Ls (.int y :: .int x :: st))) := by
  subst hp hz
  exact Go.via (fun t k => XS.iadd (g := mkF m pc Ls (.int y :: .int x :: st)) X.here H.1 rfl (hb H.2 hd) rfl k) g

theorem g_isub (X : Stand p l e R s m args below meth c T locs cells slots) (H : p.tables.exec = Jvm.exec ∧ c.code = bs) {x y z : Int32} (hd : decode bs pc = .ok (.isub, 1)) (hz : x - y = z) (pc' : Nat) (hp : pc + 1 = pc') (g : Go p e below K (T.setTop (mkF m pc' Ls (.int z :: st)))) : Go p e below K (T.setTop (mkF m pc Ls (.int y :: .int x :: st))) := by
  subst hp hz
  exact Go.via (fun t k => XS.isub (g := mkF m pc Ls (.int y :: .int x :: st)) X.here H.1 rfl (hb H.2 hd) rfl k) g

theorem g_imul (X : Stand p l e R s m args below meth c T locs cells slots) (H : p.tables.exec = Jvm.exec ∧ c.code = bs) {x y z : Int32} (hd : decode bs pc = .ok (.imul, 1)) (hz : x * y = z) (pc' : Nat) (hp : pc + 1 = pc') (g : Go p e below K (T.setTop (mkF m pc' Ls (.int z :: st)))) : Go p e below K (T.setTop (mkF m pc Ls (.int y :: .int x :: st))) := by
  subst hp hz
  exact Go.via (fun t k => XS.imul (g := mkF m pc Ls (.int y :: .int x :: st)) X.here H.1 rfl (hb H.2 hd) rfl k) g

theorem g_iand (X : Stand p l e R s m args below meth c T locs cells slots) (H : p.tables.exec = Jvm.exec ∧ c.code = bs) {x y z : Int32} (hd : decode bs pc = .ok (.iand, 1)) (hz : x &&& y = z) (pc' : Nat) (hp : pc + 1 = pc') (g : Go p e below K (T.setTop (mkF m pc' Ls (.int z :: st)))) : Go p e below K (T.setTop (mkF m pc Ls (.int y :: .int x :: st))) := by
  subst hp hz
  exact Go.via (fun t k => XS.iand (g := mkF m pc Ls (.int y :: .int x :: st)) X.here H.1 rfl (hb H.2 hd) rfl k) g

theorem g_ishr (X : Stand p l e R s m args below meth c T locs cells slots) (H : p.tables.exec = Jvm.exec ∧ c.code = bs) {x y z : Int32} (hd : decode bs pc = .ok (.ishr, 1)) (hz : x >>> (y &&& 31) = z) (pc' : Nat) (hp : pc + 1 = pc') (g : Go p e below K (T.setTop (mkF m pc' Ls (.int z :: st)))) : Go p e below K (T.setTop (mkF m pc Ls (.int y :: .int x :: st))) := by
  subst hp hz
  exact Go.via (fun t k => XS.ishr (g := mkF m pc Ls (.int y :: .int x :: st)) X.here H.1 rfl (hb H.2 hd) rfl k) g

theorem g_irem (X : Stand p l e R s m args below meth c T locs cells slots) (H : p.tables.exec = Jvm.exec ∧ c.code = bs) {x y z : Int32} (hd : decode bs pc = .ok (.irem, 1)) (hy : y ≠ 0) (hz : x % y = z) (pc' : Nat) (hp : pc + 1 = pc') (g : Go p e below K (T.setTop (mkF m pc' Ls (.int z :: st)))) : Go p e below K (T.setTop (mkF m pc Ls (.int y :: .int x :: st))) := by
  subst hp hz
  exact Go.via (fun t k => iremM (g := mkF m pc Ls (.int y :: .int x :: st)) X H.1 rfl (hb H.2 hd) rfl hy k) g

theorem gDup (X : Stand p l e R s m args below meth c T locs cells slots) (H : p.tables.exec = Jvm.exec ∧ c.code = bs) {v : Value} (hd : decode bs pc = .ok (.dup, 1)) (hc : v.category = 1) (pc' : Nat) (hp : pc + 1 = pc') (g : Go p e below K (T.setTop (mkF m pc' Ls (v :: v :: st)))) : Go p e below K (T.setTop (mkF m pc Ls (v :: st))) := by
  subst hp
  exact Go.via (fun t k => XS.dup (g := mkF m pc Ls (v :: st)) X.here H.1 rfl (hb H.2 hd) rfl hc k) g

theorem gGoto (X : Stand p l e R s m args below meth c T locs cells slots) (H : p.tables.exec = Jvm.exec ∧ c.code = bs)  {o : Int} (hd : decode bs pc = .ok (.goto o, 3)) (ho : 0 ≤ (pc : Int) + o) (pc' : Nat) (hp : ((pc : Int) + o).toNat = pc') (g : Go p e below K (T.setTop (mkF m pc' Ls (st)))) : Go p e below K (T.setTop (mkF m pc Ls (st))) :=
  Go.via (fun t k => XS.goto (g := mkF m pc Ls (st)) X.here H.1 rfl rfl (hb H.2 hd) ho hp k) g

theorem gIfY (X : Stand p l e R s m args below meth c T locs cells slots) (H : p.tables.exec = Jvm.exec ∧ c.code = bs) {cd : ClassFile.Cond} {x : Int32} {o : Int} (hd : decode bs pc = .ok (.ifCond cd o, 3)) (hc : ifCond.holds cd x = true) (ho : 0 ≤ (pc : Int) + o) (pc' : Nat) (hp : ((pc : Int) + o).toNat = pc') (g : Go p e below K (T.setTop (mkF m pc' Ls (st)))) : Go p e below K (T.setTop (mkF m pc Ls (.int x :: st))) :=
  Go.via (fun t k => XS.ifYes (g := mkF m pc Ls (.int x :: st)) X.here H.1 rfl rfl (hb H.2 hd) rfl hc ho hp k) g

theorem gCmpY (X : Stand p l e R s m args below meth c T locs cells slots) (H : p.tables.exec = Jvm.exec ∧ c.code = bs) {cd : ClassFile.Cond} {x y : Int32} {o : Int} (hd : decode bs pc = .ok (.if_icmp cd o, 3)) (hc : if_icmp.holds cd x y = true) (ho : 0 ≤ (pc : Int) + o) (pc' : Nat) (hp : ((pc : Int) + o).toNat = pc') (g : Go p e below K (T.setTop (mkF m pc' Ls (st)))) : Go p e below K (T.setTop (mkF m pc Ls (.int y :: .int x :: st))) :=
  Go.via (fun t k => XS.icmpYes (g := mkF m pc Ls (.int y :: .int x :: st)) X.here H.1 rfl rfl (hb H.2 hd) rfl hc ho hp k) g

theorem gIfN (X : Stand p l e R s m args below meth c T locs cells slots) (H : p.tables.exec = Jvm.exec ∧ c.code = bs) {o : Int} {cd : ClassFile.Cond} {x : Int32} (hd : decode bs pc = .ok (.ifCond cd o, 3)) (hc : ifCond.holds cd x = false) (pc' : Nat) (hp : pc + 3 = pc') (g : Go p e below K (T.setTop (mkF m pc' Ls (st)))) : Go p e below K (T.setTop (mkF m pc Ls (.int x :: st))) := by
  subst hp
  exact Go.via (fun t k => XS.ifNo (g := mkF m pc Ls (.int x :: st)) X.here H.1 rfl (hb H.2 hd) rfl hc k) g

theorem gCmpN (X : Stand p l e R s m args below meth c T locs cells slots) (H : p.tables.exec = Jvm.exec ∧ c.code = bs) {o : Int} {cd : ClassFile.Cond} {x y : Int32} (hd : decode bs pc = .ok (.if_icmp cd o, 3)) (hc : if_icmp.holds cd x y = false) (pc' : Nat) (hp : pc + 3 = pc') (g : Go p e below K (T.setTop (mkF m pc' Ls (st)))) : Go p e below K (T.setTop (mkF m pc Ls (.int y :: .int x :: st))) := by
  subst hp
  exact Go.via (fun t k => XS.icmpNo (g := mkF m pc Ls (.int y :: .int x :: st)) X.here H.1 rfl (hb H.2 hd) rfl hc k) g

theorem gLdc (X : Stand p l e R s m args below meth c T locs cells slots) (H : p.tables.exec = Jvm.exec ∧ c.code = bs) (hZ : Z.Warmed39 s.vm) {own : String} {index : Nat} (hown : s.vm.findClass own = some m.cls) {v : Int32} (w : (Cond.constant own index v).before a0 Z = true) (hd : decode bs pc = .ok (.ldc index, 2)) (pc' : Nat) (hp : pc + 2 = pc') (g : Go p e below K (T.setTop (mkF m pc' Ls (.int v :: st)))) : Go p e below K (T.setTop (mkF m pc Ls (st))) := by
  subst hp
  exact Go.via (X.ldcInt H.1 hown (mvT hZ w) (g := mkF m pc Ls st) rfl (hb H.2 hd)) g

theorem gGetS (X : Stand p l e R s m args below meth c T locs cells slots) (H : p.tables.exec = Jvm.exec ∧ c.code = bs) (hZ : Z.Warmed39 s.vm) {own : String} {index : Nat} (hown : s.vm.findClass own = some m.cls) {O n d : String} {v : Value} (w : (Cond.fieldLink own index O n d).before a0 Z = true) (eT : T.heap = h) (F : Sta Z h O n d v) (hd : decode bs pc = .ok (.getstatic index, 3)) (pc' : Nat) (hp : pc + 3 = pc') (g : ∀ T', Stand p l e R s m args below meth c T' locs cells slots → T'.heap = h → Go p e below K (T'.setTop (mkF m pc' Ls (v :: st)))) : Go p e below K (T.setTop (mkF m pc Ls (st))) := by
  subst hp
  obtain ⟨T', X', e', k⟩ := getS2 X H.1 hZ hown (host := "") (Or.inl w) Via.refl eT F (g := mkF m pc Ls st) rfl (hb H.2 hd)
  exact Go.via k (g T' X' e')

theorem gGetF (X : Stand p l e R s m args below meth c T locs cells slots) (H : p.tables.exec = Jvm.exec ∧ c.code = bs) (hZ : Z.Warmed39 s.vm) {own : String} {index : Nat} (hown : s.vm.findClass own = some m.cls) {R0 O n d : String} {a : Addr} {v : Value} (w : (Cond.fieldLink own index R0 n d).before a0 Z = true) (via : Via Z R0 O n d) (eT : T.heap = h) (F : Fld Z h a O n d v) (hd : decode bs pc = .ok (.getfield index, 3)) (pc' : Nat) (hp : pc + 3 = pc') (g : ∀ T', Stand p l e R s m args below meth c T' locs cells slots → T'.heap = h → Go p e below K (T'.setTop (mkF m pc' Ls (v :: st)))) : Go p e below K (T.setTop (mkF m pc Ls (.ref a :: st))) := by
  subst hp
  obtain ⟨T', X', e', k⟩ := getF X H.1 hZ hown (host := "") (Or.inl w) via eT F (g := mkF m pc Ls (.ref a :: st)) rfl rfl (hb H.2 hd)
  exact Go.via k (g T' X' e')

theorem gStatic (X : Stand p l e R s m args below meth c T locs cells slots) (H : p.tables.exec = Jvm.exec ∧ c.code = bs) (hZ : Z.Warmed39 s.vm) {own : String} {index : Nat} (hown : s.vm.findClass own = some m.cls) {y : MethodName} {bytes : ByteArray} {maxL : Nat} {ret : Option FieldType} {rm : Room} {as : Array Value} {Q : Option Value → Heap → List Loc → Prop} {W maxO : Nat} {argsL rest : List Value} {ps : List FieldType} {r : Option FieldType} (wl : (Cond.methodLink own index y).before a0 Z = true) (wst : (Cond.static y).before a0 Z = true) (hy : y.cls ≠ "java/lang/invoke/MethodHandle" ∧ y.cls ≠ "java/lang/invoke/VarHandle") (wc : (Cond.code y bytes maxL ret).before a0 Z = true) (wz : (Cond.initialized (y).cls).before a0 Z = true) (M : Con l Z y bytes maxL ret rm as h Q) (eT : T.heap = h) (hml : c.maxLocals = maxO) (hs : Ls.size = maxO) (hpd : parseMethodDescriptor y.desc = some ⟨ps, r⟩) (hlen : argsL.length = ps.length) (hstack : st = argsL.reverse ++ rest) (has : argsL.toArray = as) (hd : decode bs pc = .ok (.invokestatic index, 3)) (pc' : Nat) (hp : pc + 3 = pc')
    (g : ∀ v T' L, Q v T'.heap L → Stand p l e R s m args below meth c T' (locs ++ L) (cells + rm.cells) (slots + rm.slots) → Go p e below K (T'.setTop (mkF m pc' Ls (v.toList ++ rest)))) (hW : (rest.map fun v => v.category).sum ≤ W := by exact Nat.le_of_eq rfl) (hf : rm.frames + 1 ≤ R.frames := by decide) (hl : W + (maxL + 11) + rm.locals ≤ R.locals := by decide) (hc : cells + rm.cells ≤ R.cells := by decide) (hsl : slots + rm.slots ≤ R.slots := by decide) : Go p e below K (T.setTop (mkF m pc Ls (st))) := by
  subst hp has
  obtain ⟨v, _, ⟨T', L', k', n'⟩, -, X', ⟨L, hQ, l', y', z'⟩, k⟩ := Jvm.LawKit.callS X H.1 (y := y) hown (mvT hZ wl) (mvT hZ wst) (mvT hZ wz) (mvT hZ wc) hy (backOf (W := W) (M []) hZ wc wz hf hl) (g := mkF m pc Ls st) rfl (hs.trans hml.symm) (argsL := argsL) (rest := rest) (lenOf hpd hlen) hstack (by show 2 * 0 + _ ≤ _; omega) (hb H.2 hd) (fun _ _ => ⟨rfl, eT, hc, hsl⟩)
  dsimp only [Pt.U, Pt.locs, Pt.cells, Pt.slots] at X' l' y' z' k hQ
  subst l' y' z'
  exact Go.via k (g v T' L hQ X')

theorem gSpecial (X : Stand p l e R s m args below meth c T locs cells slots) (H : p.tables.exec = Jvm.exec ∧ c.code = bs) (hZ : Z.Warmed39 s.vm) {own : String} {index : Nat} (hown : s.vm.findClass own = some m.cls) {y : MethodName} {bytes : ByteArray} {maxL : Nat} {ret : Option FieldType} {rm : Room} {as : Array Value} {Q : Option Value → Heap → List Loc → Prop} {W maxO : Nat} {argsL rest : List Value} {ps : List FieldType} {r : Option FieldType} (hin : y.name = "<init>") (hrn : ret = none) (wl : (Cond.methodLink own index y).before a0 Z = true) (wi : (Cond.instanceMethod y).before a0 Z = true) (hy : y.cls ≠ "java/lang/invoke/MethodHandle" ∧ y.cls ≠ "java/lang/invoke/VarHandle") {b : Addr} (wc : (Cond.code y bytes maxL ret).before a0 Z = true) (wz : (Cond.initialized (y).cls).before a0 Z = true) (M : Con l Z y bytes maxL ret rm as h Q) (eT : T.heap = h) (hml : c.maxLocals = maxO) (hs : Ls.size = maxO) (hpd : parseMethodDescriptor y.desc = some ⟨ps, r⟩) (hlen : argsL.length = ps.length) (hstack : st = argsL.reverse ++ .ref b :: rest) (has : (.ref b :: argsL).toArray = as) (hd : decode bs pc = .ok (.invokespecial index, 3)) (pc' : Nat) (hp : pc + 3 = pc')
    (g : ∀ v T' L, Q v T'.heap L → Stand p l e R s m args below meth c T' (locs ++ L) (cells + rm.cells) (slots + rm.slots) → Go p e below K (T'.setTop (mkF m pc' Ls (v.toList ++ rest)))) (hW : (rest.map fun v => v.category).sum ≤ W := by exact Nat.le_of_eq rfl) (hf : rm.frames + 1 ≤ R.frames := by decide) (hl : W + (maxL + 11) + rm.locals ≤ R.locals := by decide) (hc : cells + rm.cells ≤ R.cells := by decide) (hsl : slots + rm.slots ≤ R.slots := by decide) : Go p e below K (T.setTop (mkF m pc Ls (st))) := by
  subst hp has
  subst hrn
  obtain ⟨v, _, ⟨T', L', k', n'⟩, -, X', ⟨L, hQ, l', y', z'⟩, k⟩ := X.specialBack H.1 (y := y) hin hown (mvT hZ wl) (mvT hZ wi) (mvT hZ wc) hy (backOf (W := W) (M []) hZ wc wz hf hl) (g := mkF m pc Ls st) rfl (hs.trans hml.symm) (Steps.refl _) (a := b) (argsL := argsL) (rest := rest) (lenOf hpd hlen) hstack (by show 2 * 0 + _ ≤ _; omega) (hb H.2 hd) (fun _ _ => ⟨rfl, eT, hc, hsl⟩)
  dsimp only [Pt.U, Pt.locs, Pt.cells, Pt.slots] at X' l' y' z' k hQ
  subst l' y' z'
  exact Go.via (fun t q => k.trans q) (g v T' L hQ X')

theorem gRetN (X : Stand p l e R s m args below meth c T locs cells slots) (H : p.tables.exec = Jvm.exec ∧ c.code = bs) (hlk : meth.locks = false) {Q : Option Value → Heap → List Loc → Prop} {C S : Nat} {t : FieldType} {z : Int32} (hret : meth.sig.returnType = some t) (ht : t = .boolean ∨ t = .byte ∨ t = .char ∨ t = .short) (hd : decode bs pc = .ok (.ireturn, 1)) (eT : T.heap = h) (q : Q (some (.int (nar t z))) h locs) (hC : cells ≤ C := by decide) (hS : slots ≤ S := by decide) : Go p e below (EndK s below Q C S) (T.setTop (mkF m pc Ls (.int z :: st))) := by
  subst eT
  obtain ⟨fs, hr, hrun, hended, hW, hsame⟩ := X.leave (v := (some (.int (nar t z)))) (fun h => by rw [hret] at h; cases h) hlk
  exact ⟨_, _, retN X H.1 hret ht (hb H.2 hd) hr, hrun, hended, _, _, rfl, q, ⟨_, rfl⟩, hW, hsame.mono hC hS⟩

theorem gRetI (X : Stand p l e R s m args below meth c T locs cells slots) (H : p.tables.exec = Jvm.exec ∧ c.code = bs) (hlk : meth.locks = false) {Q : Option Value → Heap → List Loc → Prop} {C S : Nat} {z : Int32} (hret : meth.sig.returnType = some .int) (hd : decode bs pc = .ok (.ireturn, 1)) (eT : T.heap = h) (q : Q (some (.int z)) h locs) (hC : cells ≤ C := by decide) (hS : slots ≤ S := by decide) : Go p e below (EndK s below Q C S) (T.setTop (mkF m pc Ls (.int z :: st))) := by
  subst eT
  obtain ⟨fs, hr, hrun, hended, hW, hsame⟩ := X.leave (v := (some (.int z))) (fun h => by rw [hret] at h; cases h) hlk
  exact ⟨_, _, retOut X H.1 hret rfl (Or.inl ⟨rfl, Or.inl rfl, z, rfl⟩) (hb H.2 hd) hr, hrun, hended, _, _, rfl, q, ⟨_, rfl⟩, hW, hsame.mono hC hS⟩

theorem gRetA (X : Stand p l e R s m args below meth c T locs cells slots) (H : p.tables.exec = Jvm.exec ∧ c.code = bs) (hlk : meth.locks = false) {Q : Option Value → Heap → List Loc → Prop} {C S : Nat} {w : Value} {t : FieldType} (hret : meth.sig.returnType = some t) (hn : narrow t w = w) (ht : t.isReference = true) (hv : w.isRef = true) (hd : decode bs pc = .ok (.areturn, 1)) (eT : T.heap = h) (q : Q (some w) h locs) (hC : cells ≤ C := by decide) (hS : slots ≤ S := by decide) : Go p e below (EndK s below Q C S) (T.setTop (mkF m pc Ls (w :: st))) := by
  subst eT
  obtain ⟨fs, hr, hrun, hended, hW, hsame⟩ := X.leave (v := (some w)) (fun h => by rw [hret] at h; cases h) hlk
  exact ⟨_, _, retOut X H.1 hret hn (Or.inr (Or.inr (Or.inr (Or.inr ⟨rfl, ht, hv⟩)))) (hb H.2 hd) hr, hrun, hended, _, _, rfl, q, ⟨_, rfl⟩, hW, hsame.mono hC hS⟩

theorem gRetV (X : Stand p l e R s m args below meth c T locs cells slots) (H : p.tables.exec = Jvm.exec ∧ c.code = bs) (hlk : meth.locks = false) {Q : Option Value → Heap → List Loc → Prop} {C S : Nat}  (hret : meth.sig.returnType = none) (hd : decode bs pc = .ok (.return_, 1)) (eT : T.heap = h) (q : Q none h locs) (hC : cells ≤ C := by decide) (hS : slots ≤ S := by decide) : Go p e below (EndK s below Q C S) (T.setTop (mkF m pc Ls ([]))) := by
  subst eT
  obtain ⟨fs, hr, hrun, hended, hW, hsame⟩ := X.leave (v := none) (fun _ => rfl) hlk
  exact ⟨_, _, X.returnOut H.1 hret (hb H.2 hd) hr, hrun, hended, _, _, rfl, q, ⟨_, rfl⟩, hW, hsame.mono hC hS⟩

theorem gNew (X : Stand p l e R s m args below meth c T locs cells slots) (H : p.tables.exec = Jvm.exec ∧ c.code = bs) (hZ : Z.Warmed39 s.vm) {own : String} {index : Nat} (hown : s.vm.findClass own = some m.cls) {C : String} {n : Nat} (w : (Cond.classLink own index C).before a0 Z = true) (wi : (Cond.instantiable C n).before a0 Z = true) (wz : (Cond.initialized C).before a0 Z = true) (eT : T.heap = h) (hc : cells + 1 ≤ R.cells) (hsl : slots + n ≤ R.slots) (hd : decode bs pc = .ok (.new index, 3)) (pc' : Nat) (hp : pc + 3 = pc')
    (g : ∀ T' h' b, Stand p l e R s m args below meth c T' locs (cells + 1) (slots + n) → T'.heap = h' → h.size = b → Ext h h' → Exa Z h' b C → (∀ {O nm d : String} {ty : FieldType}, Laid Z a0 C O nm d → parseFieldDescriptor d = some ty → Fld Z h' b O nm d (defaultValue ty)) → Go p e below K (T'.setTop (mkF m pc' Ls (.ref b :: st)))) : Go p e below K (T.setTop (mkF m pc Ls (st))) := by
  subst hp
  obtain ⟨T', h', X', e', E', A', D', -, k⟩ := newO X H.1 hZ hown w wi wz eT (g := mkF m pc Ls st) rfl (hb H.2 hd) hc hsl
  exact Go.via k (g T' h' _ X' e' rfl E' A' D')

theorem gInitO (X : Stand p l e R s m args below meth c T locs cells slots) (H : p.tables.exec = Jvm.exec ∧ c.code = bs) (hZ : Z.Warmed39 s.vm) {own : String} {index : Nat} (hown : s.vm.findClass own = some m.cls) (w1 : (Cond.methodLink own index Lib.objectInit).before a0 Z = true) (w2 : (Cond.instanceMethod Lib.objectInit).before a0 Z = true) (w3 : (Cond.code Lib.objectInit ⟨#[0xb1]⟩ 1 none).before a0 Z = true) (eT : T.heap = h) {a : Addr} {V maxO : Nat} (hml : c.maxLocals = maxO) (hs : Ls.size = maxO) (hW : (st.map fun v => v.category).sum ≤ V) (hf : 1 ≤ R.frames) (hl : V + 12 ≤ R.locals) (hd : decode bs pc = .ok (.invokespecial index, 3)) (pc' : Nat) (hp : pc + 3 = pc')
    (g : ∀ T', Stand p l e R s m args below meth c T' locs cells slots → T'.heap = h → Go p e below K (T'.setTop (mkF m pc' Ls st))) : Go p e below K (T.setTop (mkF m pc Ls (.ref a :: st))) := by
  subst hp
  obtain ⟨T', X', e', k⟩ := initO X H.1 hZ hown w1 w2 w3 eT (g := mkF m pc Ls (.ref a :: st)) rfl (hs.trans hml.symm) rfl (hb H.2 hd) hf (W := V) (by show 2 * 0 + _ ≤ _; omega) hl
  exact Go.via k (g T' X' e')

theorem gPutF (X : Stand p l e R s m args below meth c T locs cells slots) (H : p.tables.exec = Jvm.exec ∧ c.code = bs) (hZ : Z.Warmed39 s.vm) {own : String} {index : Nat} (hown : s.vm.findClass own = some m.cls) {R0 O n d C : String} {kk : Nat} {ty : FieldType} (w : (Cond.fieldLink own index R0 n d).before a0 Z = true) (via : Via Z R0 O n d) (eT : T.heap = h) {a : Addr} {v v' old : Value} (F : Fld Z h a O n d old) (E : Exa Z h a C) (L : (Cond.lays C O n d).before a0 Z = true ∨ ((Cond.laysFinal C O n d).before a0 Z = true ∧ own = O ∧ meth.name = "<init>")) (wi : (Cond.instantiable C kk).before a0 Z = true) (hty : parseFieldDescriptor d = some ty) (hn : narrow ty v = v') (hf : fits ty v' = true) (hd : decode bs pc = .ok (.putfield index, 3)) (pc' : Nat) (hp : pc + 3 = pc')
    (g : ∀ T' h', Stand p l e R s m args below meth c T' (locs ++ [⟨a, Jvm.RoadKit.slotOf Z O n d⟩]) cells slots → T'.heap = h' → Wr h h' a (Jvm.RoadKit.slotOf Z O n d) v' → Fld Z h' a O n d v' → Go p e below K (T'.setTop (mkF m pc' Ls st))) : Go p e below K (T.setTop (mkF m pc Ls (v :: .ref a :: st))) := by
  subst hp
  obtain ⟨T', h', X', e', W', k⟩ := putFN X H.1 hZ hown w via eT F E L wi hty hn hf (g := mkF m pc Ls (v :: .ref a :: st)) rfl rfl (hb H.2 hd)
  exact Go.via k (g T' h' X' e' W' (F.same W'))

theorem gNewP (X : Stand p l e R s m args below meth c T locs cells slots) (H : p.tables.exec = Jvm.exec ∧ c.code = bs) (hZ : Z.Warmed39 s.vm) {aty : ArrayType} (w : (Cond.arrayClass (newarray.typeOf aty)).before a0 Z = true) (eT : T.heap = h) {n : Int32} (hn : ¬ n < 0) {cap : Nat} (hcap : n.toNatClampNeg ≤ cap) (hb8 : cap * 8 ≤ 536870912) {vs : List Value} (hvs : List.replicate cap (defaultValue (newarray.typeOf aty)) = vs) (hc : cells + 1 ≤ R.cells) (hsl : slots + cap ≤ R.slots) (hd : decode bs pc = .ok (.newarray aty, 2)) (pc' : Nat) (hp : pc + 2 = pc')
    (g : ∀ T' h' b k, Stand p l e R s m args below meth c T' locs (cells + 1) (slots + cap) → T'.heap = h' → h.size = b → Ext h h' → Arv Z h' b k (newarray.typeOf aty) n vs (defaultValue (newarray.typeOf aty)) → Go p e below K (T'.setTop (mkF m pc' Ls (.ref b :: st)))) : Go p e below K (T.setTop (mkF m pc Ls (.int n :: st))) := by
  subst hp
  obtain ⟨T', h', k', X', e', E', A', k⟩ := newP X H.1 hZ w eT (g := mkF m pc Ls (.int n :: st)) rfl (hb H.2 hd) rfl hn hcap hb8 hc hsl
  refine Go.via k (g T' h' _ k' X' e' rfl E' ?_)
  rw [← hvs]
  exact (Arv.new A' hn).pad (pad_rep [] _ _)

theorem gIaload (X : Stand p l e R s m args below meth c T locs cells slots) (H : p.tables.exec = Jvm.exec ∧ c.code = bs) (hZ : Z.Warmed39 s.vm) (eT : T.heap = h) {a : Addr} {k : ClassId} {n j : Int32} {vs : List Value} {dv v : Value} (A : Arv Z h a k .int n vs dv) (hj : ¬ j < 0 ∧ j < n) (hv : vs.getD j.toNatClampNeg dv = v) (hd : decode bs pc = .ok (.iaload, 1)) (pc' : Nat) (hp : pc + 1 = pc') (g : Go p e below K (T.setTop (mkF m pc' Ls (v :: st)))) : Go p e below K (T.setTop (mkF m pc Ls (.int j :: .ref a :: st))) := by
  subst hp
  obtain ⟨c', Ar, q, S, N, Hs, Gs⟩ := A
  have hin := inb_of S hj
  exact Go.via (X.iaload H.1 (j := j) (v := v) (by rw [eT]; exact Ar.1) (State.isArrayOf_alike hZ.alike Ar.2.1) Ar.2.2 hin (Hs.at hin hv) (g := mkF m pc Ls (.int j :: .ref a :: st)) rfl rfl (hb H.2 hd)) g

theorem gLen (X : Stand p l e R s m args below meth c T locs cells slots) (H : p.tables.exec = Jvm.exec ∧ c.code = bs) (hZ : Z.Warmed39 s.vm) (eT : T.heap = h) {a : Addr} {n : Int32} (A : Arl Z h a n) (hd : decode bs pc = .ok (.arraylength, 1)) (pc' : Nat) (hp : pc + 1 = pc') (g : Go p e below K (T.setTop (mkF m pc' Ls (.int n :: st)))) : Go p e below K (T.setTop (mkF m pc Ls (.ref a :: st))) := by
  subst hp
  obtain ⟨k, ty, vs, dv, c', Ar, q, S, N, Hs, Gs⟩ := A
  refine Go.via (X.arraylength H.1 (by rw [eT]; exact Ar.1) (State.isArrayOf_alike hZ.alike Ar.2.1) (g := mkF m pc Ls (.ref a :: st)) rfl rfl (hb H.2 hd)) ?_
  rw [len_of S N]
  exact g

theorem gIastore (X : Stand p l e R s m args below meth c T locs cells slots) (H : p.tables.exec = Jvm.exec ∧ c.code = bs) (hZ : Z.Warmed39 s.vm) (eT : T.heap = h) {a : Addr} {k : ClassId} {n j : Int32} {vs vs' : List Value} {dv : Value} {x : Int32} (A : Arv Z h a k .int n vs dv) (hj : ¬ j < 0 ∧ j < n) {i : Nat} (hi : j.toNatClampNeg = i) (hlt : i < vs.length) (hvs : vs.set i (.int x) = vs') (hd : decode bs pc = .ok (.iastore, 1)) (pc' : Nat) (hp : pc + 1 = pc')
    (g : ∀ T' h', Stand p l e R s m args below meth c T' (locs ++ [⟨a, j.toNatClampNeg⟩]) cells slots → T'.heap = h' → Wr h h' a j.toNatClampNeg (.int x) → Arv Z h' a k .int n vs' dv → Go p e below K (T'.setTop (mkF m pc' Ls st))) : Go p e below K (T.setTop (mkF m pc Ls (.int x :: .int j :: .ref a :: st))) := by
  subst hp hvs
  obtain ⟨c', Ar, q, S, N, Hs, Gs⟩ := A
  have hin := inb_of S hj
  obtain ⟨T', h', X', e', W', k'⟩ := stI X H.1 hZ eT Ar (j := j) hin (g := mkF m pc Ls (.int x :: .int j :: .ref a :: st)) rfl rfl (hb H.2 hd)
  exact Go.via k' (g T' h' X' e' W' (Arv.set Ar q S N Hs Gs rfl W' i hi hlt))

theorem gPrivate (X : Stand p l e R s m args below meth c T locs cells slots) (H : p.tables.exec = Jvm.exec ∧ c.code = bs) (hZ : Z.Warmed39 s.vm) {own : String} {index : Nat} (hown : s.vm.findClass own = some m.cls) {y : MethodName} {bytes : ByteArray} {maxL : Nat} {ret : Option FieldType} {rm : Room} {as : Array Value} {Q : Option Value → Heap → List Loc → Prop} {W maxO : Nat} {argsL rest : List Value} {ps : List FieldType} {r : Option FieldType} (wl : (Cond.methodLink own index y).before a0 Z = true) (wi : (Cond.instanceMethod y).before a0 Z = true) (wp : (Cond.privateMethod y).before a0 Z = true) {kk : Nat} (wk : (Cond.instantiable y.cls kk).before a0 Z = true) (hy : y.cls ≠ "java/lang/invoke/MethodHandle" ∧ y.cls ≠ "java/lang/invoke/VarHandle") {b : Addr} {C : String} (E : Exa Z h b C) (wc : (Cond.code y bytes maxL ret).before a0 Z = true) (wz : (Cond.initialized (y).cls).before a0 Z = true) (M : Con l Z y bytes maxL ret rm as h Q) (eT : T.heap = h) (hml : c.maxLocals = maxO) (hs : Ls.size = maxO) (hpd : parseMethodDescriptor y.desc = some ⟨ps, r⟩) (hlen : argsL.length = ps.length) (hstack : st = argsL.reverse ++ .ref b :: rest) (has : (.ref b :: argsL).toArray = as) (hd : decode bs pc = .ok (.invokevirtual index, 3)) (pc' : Nat) (hp : pc + 3 = pc')
    (g : ∀ v T' L, Q v T'.heap L → Stand p l e R s m args below meth c T' (locs ++ L) (cells + rm.cells) (slots + rm.slots) → Go p e below K (T'.setTop (mkF m pc' Ls (v.toList ++ rest)))) (hW : (rest.map fun v => v.category).sum ≤ W := by exact Nat.le_of_eq rfl) (hf : rm.frames + 1 ≤ R.frames := by decide) (hl : W + (maxL + 11) + rm.locals ≤ R.locals := by decide) (hc : cells + rm.cells ≤ R.cells := by decide) (hsl : slots + rm.slots ≤ R.slots := by decide) : Go p e below K (T.setTop (mkF m pc Ls (st))) := by
  subst hp has
  obtain ⟨cq, q1, q2⟩ := E.cell
  obtain ⟨v, _, ⟨T', L', k', n'⟩, -, X', ⟨L, hQ, l', y', z'⟩, k⟩ := X.privateBack H.1 (y := y) hown (mvT hZ wl) (mvT hZ wi) (mvT hZ (selPriv wp wi wk hy)) (Cond.privateMethod_at (mvP hZ wp (args := #[]))) (mvT hZ wc) hy (backOf (W := W) (M []) hZ wc wz hf hl) (g := mkF m pc Ls st) rfl (hs.trans hml.symm) (Steps.refl _) (a := b) (by rw [eT]; exact q1) q2 (argsL := argsL) (rest := rest) (lenOf hpd hlen) hstack (by show 2 * 0 + _ ≤ _; omega) (hb H.2 hd) (fun _ _ => ⟨rfl, eT, hc, hsl⟩)
  dsimp only [Pt.U, Pt.locs, Pt.cells, Pt.slots] at X' l' y' z' k hQ
  subst l' y' z'
  exact Go.via (fun t q => k.trans q) (g v T' L hQ X')

theorem gCopy (X : Stand p l e R s m args below meth c T locs cells slots) (H : p.tables.exec = Jvm.exec ∧ c.code = bs) (hZ : Z.Warmed39 s.vm) {own : String} {index : Nat} (hown : s.vm.findClass own = some m.cls) (w1 : (Cond.methodLink own index Jvm.Stand.acN).before a0 Z = true) (w2 : (Cond.native Jvm.Stand.acN).before a0 Z = true) (w3 : (Cond.static Jvm.Stand.acN).before a0 Z = true) (w4 : (Cond.initialized "java/lang/System").before a0 Z = true) (eT : T.heap = h) {a b : Addr} {k k' : ClassId} {ty ty' : FieldType} {z z' sp dp nn : Int32} {vs vd us vd' : List Value} {dv dd : Value} (A : Arv Z h a k ty z vs dv) (B : Arv Z h b k' ty' z' vd dd) (hty : (ty = ty' ∧ refKind ty = false) ∨ (refKind ty = true ∧ refKind ty' = true ∧ StoL Z h b us)) (h1 : ¬ sp < 0) (h2 : ¬ dp < 0) (h3 : ¬ nn < 0) (h4 : sp.toNatClampNeg + nn.toNatClampNeg ≤ z.toNatClampNeg) (h5 : dp.toNatClampNeg + nn.toNatClampNeg ≤ z'.toNatClampNeg) (hus : us = (List.range nn.toNatClampNeg).map fun i => vs.getD (sp.toNatClampNeg + i) dv) (hll : dp.toNatClampNeg + nn.toNatClampNeg ≤ vd.length) {n0 : Nat} (N : Fr n0 locs) (ge : n0 ≤ b) {V maxO : Nat} (hml : c.maxLocals = maxO) (hs : Ls.size = maxO) (hf : 1 ≤ R.frames) (hW : (st.map fun v => v.category).sum ≤ V) (hlo : V + (nativeFrameWords "java/lang/System" "arraycopy" 5 + 11) ≤ R.locals) (hvd : vd.take dp.toNatClampNeg ++ us ++ vd.drop (dp.toNatClampNeg + nn.toNatClampNeg) = vd') (hd : decode bs pc = .ok (.invokestatic index, 3)) (pc' : Nat) (hp : pc + 3 = pc')
    (g : ∀ T' h' L, Stand p l e R s m args below meth c T' L cells slots → T'.heap = h' → Fr n0 L → Keep h h' [b] → Arv Z h' b k' ty' z' vd' dd → Go p e below K (T'.setTop (mkF m pc' Ls st))) : Go p e below K (T.setTop (mkF m pc Ls (.int nn :: .int dp :: .ref b :: .int sp :: .ref a :: st))) := by
  subst hp hvd
  obtain ⟨T', h', L, X', e', N', K', V', q⟩ := cpA X H.1 hZ hown w1 w2 w3 w4 eT A B hty h1 h2 h3 h4 h5 hus hll N ge (g := mkF m pc Ls (.int nn :: .int dp :: .ref b :: .int sp :: .ref a :: st)) rfl (hs.trans hml.symm) rfl (hb H.2 hd) hf (W := V) (by show 2 * 0 + _ ≤ _; omega) hlo
  exact Go.via q (g T' h' L X' e' N' K' V')

theorem gVirt (X : Stand p l e R s m args below meth c T locs cells slots) (H : p.tables.exec = Jvm.exec ∧ c.code = bs) (hZ : Z.Warmed39 s.vm) {own : String} {index : Nat} (hown : s.vm.findClass own = some m.cls) {C : String} {y : MethodName} {bytes : ByteArray} {maxL : Nat} {ret : Option FieldType} {rm : Room} {as : Array Value} {Q : Option Value → Heap → List Loc → Prop} {W maxO : Nat} {argsL rest : List Value} {ps : List FieldType} {r : Option FieldType} (wl : (Cond.methodLink own index y).before a0 Z = true) (wd : (Cond.declares y).before a0 Z = true) (wse : (Cond.selects C y y).before a0 Z = true) (wi : (Cond.instanceMethod y).before a0 Z = true) (hy : y.cls ≠ "java/lang/invoke/MethodHandle" ∧ y.cls ≠ "java/lang/invoke/VarHandle") {b : Addr} (E : Exa Z h b C) (wc : (Cond.code y bytes maxL ret).before a0 Z = true) (wz : (Cond.initialized (y).cls).before a0 Z = true) (M : Con l Z y bytes maxL ret rm as h Q) (eT : T.heap = h) (hml : c.maxLocals = maxO) (hs : Ls.size = maxO) (hpd : parseMethodDescriptor y.desc = some ⟨ps, r⟩) (hlen : argsL.length = ps.length) (hstack : st = argsL.reverse ++ .ref b :: rest) (has : (.ref b :: argsL).toArray = as) (hd : decode bs pc = .ok (.invokevirtual index, 3)) (pc' : Nat) (hp : pc + 3 = pc')
    (g : ∀ v T' L, Q v T'.heap L → Stand p l e R s m args below meth c T' (locs ++ L) (cells + rm.cells) (slots + rm.slots) → Go p e below K (T'.setTop (mkF m pc' Ls (v.toList ++ rest)))) (hW : (rest.map fun v => v.category).sum ≤ W := by exact Nat.le_of_eq rfl) (hf : rm.frames + 1 ≤ R.frames := by decide) (hl : W + (maxL + 11) + rm.locals ≤ R.locals := by decide) (hc : cells + rm.cells ≤ R.cells := by decide) (hsl : slots + rm.slots ≤ R.slots := by decide) : Go p e below K (T.setTop (mkF m pc Ls (st))) := by
  subst hp has
  obtain ⟨cB, kB, q1, q2, q3⟩ := isOf hZ eT E
  obtain ⟨v, _, ⟨T', L', k', n'⟩, -, X', ⟨L, hQ, l', y', z'⟩, k⟩ := X.virtualBack H.1 (y := y) (z := y) hown (mvT hZ wl) (mvT hZ wd) (notFace_of_selects (args := #[]) (mvT hZ wse)) (mvT hZ wse) (mvT hZ wi) hy (backOf (W := W) (M []) hZ wc wz hf hl) q1 q3 (g := mkF m pc Ls st) rfl (hs.trans hml.symm) (Steps.refl _) (argsL := argsL) (rest := rest) (lenOf hpd hlen) hstack (by show 2 * 0 + _ ≤ _; omega) (hb H.2 hd) (fun _ _ => ⟨rfl, eT, hc, hsl⟩)
  dsimp only [Pt.U, Pt.locs, Pt.cells, Pt.slots] at X' l' y' z' k hQ
  subst l' y' z'
  exact Go.via (fun t q => k.trans q) (g v T' L hQ X')

end Steps
theorem eqI {args : Array Value} {s : State} {t : Term} {w : Addr} {C n d : String} {k : Int32} (ev : t.eval args s none [] s = some (.ref w)) (q : (Jvm.Cond.eq (.field t C n d) (.int k)).value args s none s [] = some true) : Fld s s.heap w C n d (.int k) := by
  refine Fld.start ?_
  rw [← fld_at (args := args) (first := s) (o := none) (idx := []) ev]
  obtain ⟨x, y, h1, h2, k1, k2⟩ := cmp_v (Or.inl q)
  obtain rfl : y = .int k := (Option.some.inj ((Term.int_eval k).symm.trans h2)).symm
  obtain ⟨z, rfl⟩ := k2
  simp [Cond.value, h1, h2] at q
  rw [h1, q]
theorem eqR {args : Array Value} {s : State} {t t' : Term} {w w' : Addr} {C n d : String} (ev : t.eval args s none [] s = some (.ref w)) (ev' : t'.eval args s none [] s = some (.ref w')) (q : (Jvm.Cond.eq (.field t C n d) t').value args s none s [] = some true) : Fld s s.heap w C n d (.ref w') := by
  refine Fld.start ?_
  rw [← fld_at (args := args) (first := s) (o := none) (idx := []) ev]
  obtain ⟨x, y, h1, h2, k1, k2⟩ := cmp_v (Or.inl q)
  obtain rfl : y = .ref w' := (Option.some.inj (ev'.symm.trans h2)).symm
  have hx : x.isRef = true := k2.2
  have := gotT (eq_R h1 h2 hx rfl) q
  rw [h1, this]
theorem eqN {args : Array Value} {s : State} {t : Term} {w : Addr} {C n d : String} (ev : t.eval args s none [] s = some (.ref w)) (q : (Jvm.Cond.eq (.field t C n d) .null).value args s none s [] = some true) : Fld s s.heap w C n d .null := by
  refine Fld.start ?_
  rw [← fld_at (args := args) (first := s) (o := none) (idx := []) ev]
  exact null_v q
theorem fldE {args : Array Value} {s : State} {t : Term} {w w' : Addr} {C n d : String} (ev : t.eval args s none [] s = some (.ref w)) (ev' : (Term.field t C n d).eval args s none [] s = some (.ref w')) : Fld s s.heap w C n d (.ref w') :=
  Fld.start ((fld_at (args := args) (first := s) (o := none) (idx := []) ev).symm.trans ev')
theorem t32_ne {a b : Int32} (h : a < b) : ¬ (a = b) := by rw [Int32.lt_iff_toInt_lt] at h; rw [← Int32.toInt_inj]; omega
theorem t32_as {a b : Int32} (h : a < b) : ¬ (b < a) := by rw [Int32.lt_iff_toInt_lt] at *; omega
theorem t32_ir {a b : Int32} (h : a = b) : ¬ (a < b) := by subst h; rw [Int32.lt_iff_toInt_lt]; omega
theorem t32_tot {a b : Int32} (h : ¬ (a < b)) (h2 : ¬ (a = b)) : b < a := by rw [Int32.lt_iff_toInt_lt] at *; rw [← Int32.toInt_inj] at h2; omega
theorem t32_eq {a b : Int32} (h : ¬ (a < b)) (h2 : ¬ (b < a)) : a = b := by rw [Int32.lt_iff_toInt_lt] at *; rw [← Int32.toInt_inj]; omega
theorem t64_ne {a b : Int64} (h : a < b) : ¬ (a = b) := by rw [Int64.lt_iff_toInt_lt] at h; rw [← Int64.toInt_inj]; omega
theorem t64_as {a b : Int64} (h : a < b) : ¬ (b < a) := by rw [Int64.lt_iff_toInt_lt] at *; omega
theorem t64_ir {a b : Int64} (h : a = b) : ¬ (a < b) := by subst h; rw [Int64.lt_iff_toInt_lt]; omega
theorem t64_tot {a b : Int64} (h : ¬ (a < b)) (h2 : ¬ (a = b)) : b < a := by rw [Int64.lt_iff_toInt_lt] at *; rw [← Int64.toInt_inj] at h2; omega
theorem t64_eq {a b : Int64} (h : ¬ (a < b)) (h2 : ¬ (b < a)) : a = b := by rw [Int64.lt_iff_toInt_lt] at *; rw [← Int64.toInt_inj]; omega

theorem wd0 : (Jvm.Cond.classLink "com/example/blackheight/blackheight/node/TrailLastPinLaw" (7 : Nat) "com/example/blackheight/blackheight/node/Trail") ∈ tables_1 := List.mem_of_getElem? (i := 0) rfl
theorem wd1 : (Jvm.Cond.instantiable "com/example/blackheight/blackheight/node/Trail" (4 : Nat)) ∈ tables_1 := List.mem_of_getElem? (i := 1) rfl
theorem wd2 : (Jvm.Cond.initialized "com/example/blackheight/blackheight/node/Trail") ∈ tables_1 := List.mem_of_getElem? (i := 2) rfl
theorem wd3 : (Jvm.Cond.methodLink "com/example/blackheight/blackheight/node/TrailLastPinLaw" (9 : Nat) ({ cls := "com/example/blackheight/blackheight/node/Trail", name := "<init>", desc := "()V" } : Jvm.MethodName)) ∈ tables_1 := List.mem_of_getElem? (i := 3) rfl
theorem wd4 : (Jvm.Cond.instanceMethod ({ cls := "com/example/blackheight/blackheight/node/Trail", name := "<init>", desc := "()V" } : Jvm.MethodName)) ∈ tables_1 := List.mem_of_getElem? (i := 4) rfl
theorem wd5 : (Jvm.Cond.code ({ cls := "com/example/blackheight/blackheight/node/Trail", name := "<init>", desc := "()V" } : Jvm.MethodName) prog_22_method_1_code (1 : Nat) (Option.none : Option Jvm.ClassFile.FieldType)) ∈ tables_1 := List.mem_of_getElem? (i := 5) rfl
theorem wd6 : (Jvm.Cond.methodLink "com/example/blackheight/blackheight/node/Trail" (1 : Nat) ({ cls := "java/lang/Object", name := "<init>", desc := "()V" } : Jvm.MethodName)) ∈ tables_1 := List.mem_of_getElem? (i := 6) rfl
theorem wd7 : (Jvm.Cond.instanceMethod ({ cls := "java/lang/Object", name := "<init>", desc := "()V" } : Jvm.MethodName)) ∈ tables_1 := List.mem_of_getElem? (i := 7) rfl
theorem wd8 : (Jvm.Cond.code ({ cls := "java/lang/Object", name := "<init>", desc := "()V" } : Jvm.MethodName) object_method_1_code (1 : Nat) (Option.none : Option Jvm.ClassFile.FieldType)) ∈ tables_1 := List.mem_of_getElem? (i := 8) rfl
theorem wd9 : (Jvm.Cond.fieldLink "com/example/blackheight/blackheight/node/Trail" (7 : Nat) "com/example/blackheight/blackheight/node/Trail" "NO_ROOM" "[I") ∈ tables_1 := List.mem_of_getElem? (i := 9) rfl
theorem wd10 : (Jvm.Cond.laysStatic "com/example/blackheight/blackheight/node/Trail" "NO_ROOM" "[I") ∈ tables_1 := List.mem_of_getElem? (i := 10) rfl
theorem wd11 : (Jvm.Cond.fieldLink "com/example/blackheight/blackheight/node/Trail" (13 : Nat) "com/example/blackheight/blackheight/node/Trail" "entries" "[I") ∈ tables_1 := List.mem_of_getElem? (i := 11) rfl
theorem wd12 : (Jvm.Cond.lays "com/example/blackheight/blackheight/node/Trail" "com/example/blackheight/blackheight/node/Trail" "entries" "[I") ∈ tables_1 := List.mem_of_getElem? (i := 12) rfl
theorem wd13 : (Jvm.Cond.methodLink "com/example/blackheight/blackheight/node/TrailLastPinLaw" (18 : Nat) ({ cls := "com/example/blackheight/blackheight/node/Trail", name := "last", desc := "()I" } : Jvm.MethodName)) ∈ tables_1 := List.mem_of_getElem? (i := 13) rfl
theorem wd14 : (Jvm.Cond.declares ({ cls := "com/example/blackheight/blackheight/node/Trail", name := "last", desc := "()I" } : Jvm.MethodName)) ∈ tables_1 := List.mem_of_getElem? (i := 14) rfl
theorem wd15 : (Jvm.Cond.instanceMethod ({ cls := "com/example/blackheight/blackheight/node/Trail", name := "last", desc := "()I" } : Jvm.MethodName)) ∈ tables_1 := List.mem_of_getElem? (i := 15) rfl
theorem wd16 : (Jvm.Cond.selects "com/example/blackheight/blackheight/node/Trail" ({ cls := "com/example/blackheight/blackheight/node/Trail", name := "last", desc := "()I" } : Jvm.MethodName) ({ cls := "com/example/blackheight/blackheight/node/Trail", name := "last", desc := "()I" } : Jvm.MethodName)) ∈ tables_1 := List.mem_of_getElem? (i := 16) rfl
theorem wd17 : (Jvm.Cond.code ({ cls := "com/example/blackheight/blackheight/node/Trail", name := "last", desc := "()I" } : Jvm.MethodName) prog_22_method_4_code (1 : Nat) (Option.some Jvm.ClassFile.FieldType.int)) ∈ tables_1 := List.mem_of_getElem? (i := 17) rfl
theorem wd18 : (Jvm.Cond.fieldLink "com/example/blackheight/blackheight/node/Trail" (16 : Nat) "com/example/blackheight/blackheight/node/Trail" "depth" "I") ∈ tables_1 := List.mem_of_getElem? (i := 18) rfl
theorem wd19 : (Jvm.Cond.lays "com/example/blackheight/blackheight/node/Trail" "com/example/blackheight/blackheight/node/Trail" "depth" "I") ∈ tables_1 := List.mem_of_getElem? (i := 19) rfl
theorem wd20 : (Jvm.Cond.methodLink "com/example/blackheight/blackheight/node/TrailLastPinLaw" (10 : Nat) ({ cls := "com/example/blackheight/blackheight/node/Trail", name := "push", desc := "(I)V" } : Jvm.MethodName)) ∈ tables_1 := List.mem_of_getElem? (i := 20) rfl
theorem wd21 : (Jvm.Cond.declares ({ cls := "com/example/blackheight/blackheight/node/Trail", name := "push", desc := "(I)V" } : Jvm.MethodName)) ∈ tables_1 := List.mem_of_getElem? (i := 21) rfl
theorem wd22 : (Jvm.Cond.instanceMethod ({ cls := "com/example/blackheight/blackheight/node/Trail", name := "push", desc := "(I)V" } : Jvm.MethodName)) ∈ tables_1 := List.mem_of_getElem? (i := 22) rfl
theorem wd23 : (Jvm.Cond.selects "com/example/blackheight/blackheight/node/Trail" ({ cls := "com/example/blackheight/blackheight/node/Trail", name := "push", desc := "(I)V" } : Jvm.MethodName) ({ cls := "com/example/blackheight/blackheight/node/Trail", name := "push", desc := "(I)V" } : Jvm.MethodName)) ∈ tables_1 := List.mem_of_getElem? (i := 23) rfl
theorem wd24 : (Jvm.Cond.code ({ cls := "com/example/blackheight/blackheight/node/Trail", name := "push", desc := "(I)V" } : Jvm.MethodName) prog_22_method_6_code (2 : Nat) (Option.none : Option Jvm.ClassFile.FieldType)) ∈ tables_1 := List.mem_of_getElem? (i := 24) rfl
theorem wd25 : (Jvm.Cond.methodLink "com/example/blackheight/blackheight/node/Trail" (26 : Nat) ({ cls := "com/example/blackheight/blackheight/node/Trail", name := "grow", desc := "()V" } : Jvm.MethodName)) ∈ tables_1 := List.mem_of_getElem? (i := 25) rfl
theorem wd26 : (Jvm.Cond.instanceMethod ({ cls := "com/example/blackheight/blackheight/node/Trail", name := "grow", desc := "()V" } : Jvm.MethodName)) ∈ tables_1 := List.mem_of_getElem? (i := 26) rfl
theorem wd27 : (Jvm.Cond.privateMethod ({ cls := "com/example/blackheight/blackheight/node/Trail", name := "grow", desc := "()V" } : Jvm.MethodName)) ∈ tables_1 := List.mem_of_getElem? (i := 27) rfl
theorem wd28 : (Jvm.Cond.code ({ cls := "com/example/blackheight/blackheight/node/Trail", name := "grow", desc := "()V" } : Jvm.MethodName) prog_22_method_16_code (1 : Nat) (Option.none : Option Jvm.ClassFile.FieldType)) ∈ tables_1 := List.mem_of_getElem? (i := 28) rfl
theorem wd29 : (Jvm.Cond.methodLink "com/example/blackheight/blackheight/node/Trail" (58 : Nat) ({ cls := "java/lang/Math", name := "max", desc := "(II)I" } : Jvm.MethodName)) ∈ tables_1 := List.mem_of_getElem? (i := 29) rfl
theorem wd30 : (Jvm.Cond.static ({ cls := "java/lang/Math", name := "max", desc := "(II)I" } : Jvm.MethodName)) ∈ tables_1 := List.mem_of_getElem? (i := 30) rfl
theorem wd31 : (Jvm.Cond.initialized "java/lang/Math") ∈ tables_1 := List.mem_of_getElem? (i := 31) rfl
theorem wd32 : (Jvm.Cond.code ({ cls := "java/lang/Math", name := "max", desc := "(II)I" } : Jvm.MethodName) jdk_29_method_65_code (2 : Nat) (Option.some Jvm.ClassFile.FieldType.int)) ∈ tables_1 := List.mem_of_getElem? (i := 32) rfl
theorem wd33 : (Jvm.Cond.methodLink "com/example/blackheight/blackheight/node/Trail" (52 : Nat) ({ cls := "java/util/Arrays", name := "copyOf", desc := "([II)[I" } : Jvm.MethodName)) ∈ tables_1 := List.mem_of_getElem? (i := 33) rfl
theorem wd34 : (Jvm.Cond.static ({ cls := "java/util/Arrays", name := "copyOf", desc := "([II)[I" } : Jvm.MethodName)) ∈ tables_1 := List.mem_of_getElem? (i := 34) rfl
theorem wd35 : (Jvm.Cond.initialized "java/util/Arrays") ∈ tables_1 := List.mem_of_getElem? (i := 35) rfl
theorem wd36 : (Jvm.Cond.code ({ cls := "java/util/Arrays", name := "copyOf", desc := "([II)[I" } : Jvm.MethodName) jdk_65_method_123_code (3 : Nat) (Option.some (Jvm.ClassFile.FieldType.array Jvm.ClassFile.FieldType.int))) ∈ tables_1 := List.mem_of_getElem? (i := 36) rfl
theorem wd37 : (Jvm.Cond.arrayClass Jvm.ClassFile.FieldType.int) ∈ tables_1 := List.mem_of_getElem? (i := 37) rfl
theorem wd38 : (Jvm.Cond.methodLink "java/util/Arrays" (304 : Nat) ({ cls := "java/lang/Math", name := "min", desc := "(II)I" } : Jvm.MethodName)) ∈ tables_1 := List.mem_of_getElem? (i := 38) rfl
theorem wd39 : (Jvm.Cond.static ({ cls := "java/lang/Math", name := "min", desc := "(II)I" } : Jvm.MethodName)) ∈ tables_1 := List.mem_of_getElem? (i := 39) rfl
theorem wd40 : (Jvm.Cond.code ({ cls := "java/lang/Math", name := "min", desc := "(II)I" } : Jvm.MethodName) jdk_29_method_69_code (2 : Nat) (Option.some Jvm.ClassFile.FieldType.int)) ∈ tables_1 := List.mem_of_getElem? (i := 40) rfl
theorem wd41 : (Jvm.Cond.methodLink "java/util/Arrays" (150 : Nat) ({ cls := "java/lang/System", name := "arraycopy", desc := "(Ljava/lang/Object;ILjava/lang/Object;II)V" } : Jvm.MethodName)) ∈ tables_1 := List.mem_of_getElem? (i := 41) rfl
theorem wd42 : (Jvm.Cond.static ({ cls := "java/lang/System", name := "arraycopy", desc := "(Ljava/lang/Object;ILjava/lang/Object;II)V" } : Jvm.MethodName)) ∈ tables_1 := List.mem_of_getElem? (i := 42) rfl
theorem wd43 : (Jvm.Cond.initialized "java/lang/System") ∈ tables_1 := List.mem_of_getElem? (i := 43) rfl
theorem wd44 : (Jvm.Cond.native ({ cls := "java/lang/System", name := "arraycopy", desc := "(Ljava/lang/Object;ILjava/lang/Object;II)V" } : Jvm.MethodName)) ∈ tables_1 := List.mem_of_getElem? (i := 44) rfl
theorem wd45 : (Jvm.Cond.methodLink "com/example/blackheight/blackheight/node/Trail" (22 : Nat) ({ cls := "com/example/blackheight/blackheight/node/Trail", name := "changeAt", desc := "(I)V" } : Jvm.MethodName)) ∈ tables_1 := List.mem_of_getElem? (i := 45) rfl
theorem wd46 : (Jvm.Cond.instanceMethod ({ cls := "com/example/blackheight/blackheight/node/Trail", name := "changeAt", desc := "(I)V" } : Jvm.MethodName)) ∈ tables_1 := List.mem_of_getElem? (i := 46) rfl
theorem wd47 : (Jvm.Cond.privateMethod ({ cls := "com/example/blackheight/blackheight/node/Trail", name := "changeAt", desc := "(I)V" } : Jvm.MethodName)) ∈ tables_1 := List.mem_of_getElem? (i := 47) rfl
theorem wd48 : (Jvm.Cond.code ({ cls := "com/example/blackheight/blackheight/node/Trail", name := "changeAt", desc := "(I)V" } : Jvm.MethodName) prog_22_method_15_code (2 : Nat) (Option.none : Option Jvm.ClassFile.FieldType)) ∈ tables_1 := List.mem_of_getElem? (i := 48) rfl
theorem wd49 : (Jvm.Cond.fieldLink "com/example/blackheight/blackheight/node/Trail" (42 : Nat) "com/example/blackheight/blackheight/node/Trail" "unchanged" "B") ∈ tables_1 := List.mem_of_getElem? (i := 49) rfl
theorem wd50 : (Jvm.Cond.lays "com/example/blackheight/blackheight/node/Trail" "com/example/blackheight/blackheight/node/Trail" "unchanged" "B") ∈ tables_1 := List.mem_of_getElem? (i := 50) rfl
theorem wd51 : (Jvm.Cond.constant "com/example/blackheight/blackheight/node/TrailLastPinLaw" (14 : Nat) (2147483647 : Int32)) ∈ tables_1 := List.mem_of_getElem? (i := 51) rfl
theorem wd52 : (Jvm.Cond.methodLink "com/example/blackheight/blackheight/node/TrailLastPinLaw" (15 : Nat) ({ cls := "com/example/blackheight/blackheight/node/Trail", name := "keep", desc := "(I)V" } : Jvm.MethodName)) ∈ tables_1 := List.mem_of_getElem? (i := 52) rfl
theorem wd53 : (Jvm.Cond.declares ({ cls := "com/example/blackheight/blackheight/node/Trail", name := "keep", desc := "(I)V" } : Jvm.MethodName)) ∈ tables_1 := List.mem_of_getElem? (i := 53) rfl
theorem wd54 : (Jvm.Cond.instanceMethod ({ cls := "com/example/blackheight/blackheight/node/Trail", name := "keep", desc := "(I)V" } : Jvm.MethodName)) ∈ tables_1 := List.mem_of_getElem? (i := 54) rfl
theorem wd55 : (Jvm.Cond.selects "com/example/blackheight/blackheight/node/Trail" ({ cls := "com/example/blackheight/blackheight/node/Trail", name := "keep", desc := "(I)V" } : Jvm.MethodName) ({ cls := "com/example/blackheight/blackheight/node/Trail", name := "keep", desc := "(I)V" } : Jvm.MethodName)) ∈ tables_1 := List.mem_of_getElem? (i := 55) rfl
theorem wd56 : (Jvm.Cond.code ({ cls := "com/example/blackheight/blackheight/node/Trail", name := "keep", desc := "(I)V" } : Jvm.MethodName) prog_22_method_8_code (2 : Nat) (Option.none : Option Jvm.ClassFile.FieldType)) ∈ tables_1 := List.mem_of_getElem? (i := 56) rfl
theorem d1_0 : decode prog_22_method_1_code 0 = .ok (.aload_n 0, 1) := by decide +kernel
theorem d1_1 : decode prog_22_method_1_code 1 = .ok (.invokespecial 1, 3) := by decide +kernel
theorem d1_4 : decode prog_22_method_1_code 4 = .ok (.aload_n 0, 1) := by decide +kernel
theorem d1_5 : decode prog_22_method_1_code 5 = .ok (.getstatic 7, 3) := by decide +kernel
theorem d1_8 : decode prog_22_method_1_code 8 = .ok (.putfield 13, 3) := by decide +kernel
theorem d1_11 : decode prog_22_method_1_code 11 = .ok (.return_, 1) := by decide +kernel
theorem d3_0 : decode prog_22_method_4_code 0 = .ok (.aload_n 0, 1) := by decide +kernel
theorem d3_1 : decode prog_22_method_4_code 1 = .ok (.getfield 16, 3) := by decide +kernel
theorem d3_4 : decode prog_22_method_4_code 4 = .ok (.ifCond .ne 7, 3) := by decide +kernel
theorem d3_7 : decode prog_22_method_4_code 7 = .ok (.iconst (-1), 1) := by decide +kernel
theorem d3_8 : decode prog_22_method_4_code 8 = .ok (.goto 14, 3) := by decide +kernel
theorem d3_11 : decode prog_22_method_4_code 11 = .ok (.aload_n 0, 1) := by decide +kernel
theorem d3_12 : decode prog_22_method_4_code 12 = .ok (.getfield 13, 3) := by decide +kernel
theorem d3_15 : decode prog_22_method_4_code 15 = .ok (.aload_n 0, 1) := by decide +kernel
theorem d3_16 : decode prog_22_method_4_code 16 = .ok (.getfield 16, 3) := by decide +kernel
theorem d3_19 : decode prog_22_method_4_code 19 = .ok (.iconst 1, 1) := by decide +kernel
theorem d3_20 : decode prog_22_method_4_code 20 = .ok (.isub, 1) := by decide +kernel
theorem d3_21 : decode prog_22_method_4_code 21 = .ok (.iaload, 1) := by decide +kernel
theorem d3_22 : decode prog_22_method_4_code 22 = .ok (.ireturn, 1) := by decide +kernel
theorem d4_0 : decode prog_22_method_6_code 0 = .ok (.aload_n 0, 1) := by decide +kernel
theorem d4_1 : decode prog_22_method_6_code 1 = .ok (.getfield 16, 3) := by decide +kernel
theorem d4_4 : decode prog_22_method_6_code 4 = .ok (.aload_n 0, 1) := by decide +kernel
theorem d4_5 : decode prog_22_method_6_code 5 = .ok (.getfield 13, 3) := by decide +kernel
theorem d4_8 : decode prog_22_method_6_code 8 = .ok (.arraylength, 1) := by decide +kernel
theorem d4_9 : decode prog_22_method_6_code 9 = .ok (.if_icmp .ne 7, 3) := by decide +kernel
theorem d4_12 : decode prog_22_method_6_code 12 = .ok (.aload_n 0, 1) := by decide +kernel
theorem d4_13 : decode prog_22_method_6_code 13 = .ok (.invokevirtual 26, 3) := by decide +kernel
theorem d4_16 : decode prog_22_method_6_code 16 = .ok (.aload_n 0, 1) := by decide +kernel
theorem d4_17 : decode prog_22_method_6_code 17 = .ok (.aload_n 0, 1) := by decide +kernel
theorem d4_18 : decode prog_22_method_6_code 18 = .ok (.getfield 16, 3) := by decide +kernel
theorem d4_21 : decode prog_22_method_6_code 21 = .ok (.invokevirtual 22, 3) := by decide +kernel
theorem d4_24 : decode prog_22_method_6_code 24 = .ok (.aload_n 0, 1) := by decide +kernel
theorem d4_25 : decode prog_22_method_6_code 25 = .ok (.getfield 13, 3) := by decide +kernel
theorem d4_28 : decode prog_22_method_6_code 28 = .ok (.aload_n 0, 1) := by decide +kernel
theorem d4_29 : decode prog_22_method_6_code 29 = .ok (.getfield 16, 3) := by decide +kernel
theorem d4_32 : decode prog_22_method_6_code 32 = .ok (.iload_n 1, 1) := by decide +kernel
theorem d4_33 : decode prog_22_method_6_code 33 = .ok (.iastore, 1) := by decide +kernel
theorem d4_34 : decode prog_22_method_6_code 34 = .ok (.aload_n 0, 1) := by decide +kernel
theorem d4_35 : decode prog_22_method_6_code 35 = .ok (.dup, 1) := by decide +kernel
theorem d4_36 : decode prog_22_method_6_code 36 = .ok (.getfield 16, 3) := by decide +kernel
theorem d4_39 : decode prog_22_method_6_code 39 = .ok (.iconst 1, 1) := by decide +kernel
theorem d4_40 : decode prog_22_method_6_code 40 = .ok (.iadd, 1) := by decide +kernel
theorem d4_41 : decode prog_22_method_6_code 41 = .ok (.putfield 16, 3) := by decide +kernel
theorem d4_44 : decode prog_22_method_6_code 44 = .ok (.return_, 1) := by decide +kernel
theorem d5_0 : decode prog_22_method_16_code 0 = .ok (.aload_n 0, 1) := by decide +kernel
theorem d5_1 : decode prog_22_method_16_code 1 = .ok (.aload_n 0, 1) := by decide +kernel
theorem d5_2 : decode prog_22_method_16_code 2 = .ok (.getfield 13, 3) := by decide +kernel
theorem d5_5 : decode prog_22_method_16_code 5 = .ok (.bipush 16, 2) := by decide +kernel
theorem d5_7 : decode prog_22_method_16_code 7 = .ok (.iconst 2, 1) := by decide +kernel
theorem d5_8 : decode prog_22_method_16_code 8 = .ok (.aload_n 0, 1) := by decide +kernel
theorem d5_9 : decode prog_22_method_16_code 9 = .ok (.getfield 13, 3) := by decide +kernel
theorem d5_12 : decode prog_22_method_16_code 12 = .ok (.arraylength, 1) := by decide +kernel
theorem d5_13 : decode prog_22_method_16_code 13 = .ok (.imul, 1) := by decide +kernel
theorem d5_14 : decode prog_22_method_16_code 14 = .ok (.invokestatic 58, 3) := by decide +kernel
theorem d5_17 : decode prog_22_method_16_code 17 = .ok (.invokestatic 52, 3) := by decide +kernel
theorem d5_20 : decode prog_22_method_16_code 20 = .ok (.putfield 13, 3) := by decide +kernel
theorem d5_23 : decode prog_22_method_16_code 23 = .ok (.return_, 1) := by decide +kernel
theorem d6_0 : decode jdk_29_method_65_code 0 = .ok (.iload_n 0, 1) := by decide +kernel
theorem d6_1 : decode jdk_29_method_65_code 1 = .ok (.iload_n 1, 1) := by decide +kernel
theorem d6_2 : decode jdk_29_method_65_code 2 = .ok (.if_icmp .lt 7, 3) := by decide +kernel
theorem d6_5 : decode jdk_29_method_65_code 5 = .ok (.iload_n 0, 1) := by decide +kernel
theorem d6_6 : decode jdk_29_method_65_code 6 = .ok (.goto 4, 3) := by decide +kernel
theorem d6_10 : decode jdk_29_method_65_code 10 = .ok (.ireturn, 1) := by decide +kernel
theorem d7_0 : decode jdk_65_method_123_code 0 = .ok (.iload_n 1, 1) := by decide +kernel
theorem d7_1 : decode jdk_65_method_123_code 1 = .ok (.aload_n 0, 1) := by decide +kernel
theorem d7_2 : decode jdk_65_method_123_code 2 = .ok (.arraylength, 1) := by decide +kernel
theorem d7_3 : decode jdk_65_method_123_code 3 = .ok (.if_icmp .ne 11, 3) := by decide +kernel
theorem d7_14 : decode jdk_65_method_123_code 14 = .ok (.iload_n 1, 1) := by decide +kernel
theorem d7_15 : decode jdk_65_method_123_code 15 = .ok (.newarray .int, 2) := by decide +kernel
theorem d7_17 : decode jdk_65_method_123_code 17 = .ok (.astore_n 2, 1) := by decide +kernel
theorem d7_18 : decode jdk_65_method_123_code 18 = .ok (.aload_n 0, 1) := by decide +kernel
theorem d7_19 : decode jdk_65_method_123_code 19 = .ok (.iconst 0, 1) := by decide +kernel
theorem d7_20 : decode jdk_65_method_123_code 20 = .ok (.aload_n 2, 1) := by decide +kernel
theorem d7_21 : decode jdk_65_method_123_code 21 = .ok (.iconst 0, 1) := by decide +kernel
theorem d7_22 : decode jdk_65_method_123_code 22 = .ok (.aload_n 0, 1) := by decide +kernel
theorem d7_23 : decode jdk_65_method_123_code 23 = .ok (.arraylength, 1) := by decide +kernel
theorem d7_24 : decode jdk_65_method_123_code 24 = .ok (.iload_n 1, 1) := by decide +kernel
theorem d7_25 : decode jdk_65_method_123_code 25 = .ok (.invokestatic 304, 3) := by decide +kernel
theorem d7_28 : decode jdk_65_method_123_code 28 = .ok (.invokestatic 150, 3) := by decide +kernel
theorem d7_31 : decode jdk_65_method_123_code 31 = .ok (.aload_n 2, 1) := by decide +kernel
theorem d7_32 : decode jdk_65_method_123_code 32 = .ok (.areturn, 1) := by decide +kernel
theorem d8_0 : decode jdk_29_method_69_code 0 = .ok (.iload_n 0, 1) := by decide +kernel
theorem d8_1 : decode jdk_29_method_69_code 1 = .ok (.iload_n 1, 1) := by decide +kernel
theorem d8_2 : decode jdk_29_method_69_code 2 = .ok (.if_icmp .gt 7, 3) := by decide +kernel
theorem d8_5 : decode jdk_29_method_69_code 5 = .ok (.iload_n 0, 1) := by decide +kernel
theorem d8_6 : decode jdk_29_method_69_code 6 = .ok (.goto 4, 3) := by decide +kernel
theorem d8_10 : decode jdk_29_method_69_code 10 = .ok (.ireturn, 1) := by decide +kernel
theorem d9_0 : decode prog_22_method_15_code 0 = .ok (.iload_n 1, 1) := by decide +kernel
theorem d9_1 : decode prog_22_method_15_code 1 = .ok (.aload_n 0, 1) := by decide +kernel
theorem d9_2 : decode prog_22_method_15_code 2 = .ok (.getfield 42, 3) := by decide +kernel
theorem d9_5 : decode prog_22_method_15_code 5 = .ok (.if_icmp .ge 9, 3) := by decide +kernel
theorem d9_14 : decode prog_22_method_15_code 14 = .ok (.return_, 1) := by decide +kernel
theorem d10_0 : decode prog_22_method_8_code 0 = .ok (.aload_n 0, 1) := by decide +kernel
theorem d10_1 : decode prog_22_method_8_code 1 = .ok (.iload_n 1, 1) := by decide +kernel
theorem d10_2 : decode prog_22_method_8_code 2 = .ok (.putfield 16, 3) := by decide +kernel
theorem d10_5 : decode prog_22_method_8_code 5 = .ok (.return_, 1) := by decide +kernel
theorem pd0 : parseMethodDescriptor "()V" = some ⟨[], none⟩ := by decide +kernel
theorem pd1 : parseMethodDescriptor "()I" = some ⟨[], some .int⟩ := by decide +kernel
theorem pd2 : parseMethodDescriptor "(I)V" = some ⟨[.int], none⟩ := by decide +kernel
theorem pd3 : parseMethodDescriptor "(II)I" = some ⟨[.int, .int], some .int⟩ := by decide +kernel
theorem pd4 : parseMethodDescriptor "([II)[I" = some ⟨[(.array .int), .int], some (.array .int)⟩ := by decide +kernel
theorem pn0 : plainName "com/example/blackheight/blackheight/node/TrailLastPinLaw" = true := by first | (simp [plainName, overriddenIn]; done) | decide +kernel
theorem pn1 : plainName "com/example/blackheight/blackheight/node/Trail" = true := by first | (simp [plainName, overriddenIn]; done) | decide +kernel
theorem pn10 : plainName "com/example/blackheight/blackheight/node/Trail" = true := by first | (simp [plainName, overriddenIn]; done) | decide +kernel
theorem pn3 : plainName "com/example/blackheight/blackheight/node/Trail" = true := by first | (simp [plainName, overriddenIn]; done) | decide +kernel
theorem pn4 : plainName "com/example/blackheight/blackheight/node/Trail" = true := by first | (simp [plainName, overriddenIn]; done) | decide +kernel
theorem pn5 : plainName "com/example/blackheight/blackheight/node/Trail" = true := by first | (simp [plainName, overriddenIn]; done) | decide +kernel
theorem pn7 : plainName "java/util/Arrays" = true := by first | (simp [plainName, overriddenIn]; done) | decide +kernel
theorem pn9 : plainName "com/example/blackheight/blackheight/node/Trail" = true := by first | (simp [plainName, overriddenIn]; done) | decide +kernel
def World (Z : State) (w_Trail_NO_ROOM : Addr) (k_w_Trail_NO_ROOM : ClassId) : Prop :=
  Sta Z Z.heap "com/example/blackheight/blackheight/node/Trail" "NO_ROOM" "[I" (.ref w_Trail_NO_ROOM) ∧
  Arv Z Z.heap w_Trail_NO_ROOM k_w_Trail_NO_ROOM .int (0 : Int32) [] (.int 0)
abbrev Bg (Z : State) (a0 : Array Value) (w_Trail_NO_ROOM : Addr) (k_w_Trail_NO_ROOM : ClassId) : Prop := (∀ d ∈ tables_1, d.before a0 Z = true) ∧ World Z w_Trail_NO_ROOM k_w_Trail_NO_ROOM
abbrev yM4 : MethodName := ⟨"com/example/blackheight/blackheight/node/Trail", "push", "(I)V"⟩
abbrev yM9 : MethodName := ⟨"com/example/blackheight/blackheight/node/Trail", "changeAt", "(I)V"⟩
abbrev yM5 : MethodName := ⟨"com/example/blackheight/blackheight/node/Trail", "grow", "()V"⟩
abbrev yM7 : MethodName := ⟨"java/util/Arrays", "copyOf", "([II)[I"⟩
abbrev yM8 : MethodName := ⟨"java/lang/Math", "min", "(II)I"⟩
abbrev yM6 : MethodName := ⟨"java/lang/Math", "max", "(II)I"⟩
abbrev yM10 : MethodName := ⟨"com/example/blackheight/blackheight/node/Trail", "keep", "(I)V"⟩
abbrev yM3 : MethodName := ⟨"com/example/blackheight/blackheight/node/Trail", "last", "()I"⟩
abbrev yM1 : MethodName := ⟨"com/example/blackheight/blackheight/node/Trail", "<init>", "()V"⟩
abbrev cs0 : String := "com/example/blackheight/blackheight/node/Trail"
theorem extT {a b c : Heap} (x : Ext a b) (y : Ext b c) : Ext a c := ⟨Nat.le_trans x.1 y.1, fun q r s => y.2 q r (x.2 q r s)⟩
theorem extR (a : Heap) : Ext a a := ⟨Nat.le_refl _, fun _ _ q => q⟩
theorem extK {h0 h h' : Heap} {ws : List Addr} (O : Ext h0 h) (K : Keep h h' ws) (q : ∀ x ∈ ws, h0.size ≤ x) : Ext h0 h' := ⟨Nat.le_trans O.1 K.1, fun x c r => K.2.1 x c (O.2 x c r) fun z => absurd (Array.getElem?_eq_some_iff.mp r).1 (Nat.not_lt.mpr (q x z))⟩
theorem extW {h0 h h' : Heap} {a : Addr} {sl : Nat} {v : Value} (O : Ext h0 h) (W : Wr h h' a sl v) (q : h0.size ≤ a) : Ext h0 h' := extK O (Keep.of_wr W) (allS q all0)
theorem leW {h0 h h' : Heap} {a : Addr} {sl : Nat} {v : Value} (q : h0.size ≤ h.size) (W : Wr h h' a sl v) : h0.size ≤ h'.size := by rw [W.size]; exact q
theorem neB {a b : Addr} {h : Heap} (x : a < h.size) (y : h.size ≤ b) : a ≠ b := Nat.ne_of_lt (Nat.lt_of_lt_of_le x y)

theorem stoV {Z : State} {h : Heap} {a y : Addr} {k : ClassId} {ty : FieldType} {n : Int32} {vs : List Value} {d : Value} {C : String} (A : Arv Z h a k ty n vs d) (O : Ovr Z k C) (I : Ins Z h y C true) : Sto Z h a (.ref y) := by
  obtain ⟨c, Ar, q, -⟩ := A
  exact Sto.ofV Ar q O I

theorem m3 (k : Int32) : (k &&& (3 : Int32)) = (0 : Int32) ∨ (k &&& (3 : Int32)) = (1 : Int32) ∨ (k &&& (3 : Int32)) = (2 : Int32) ∨ (k &&& (3 : Int32)) = (3 : Int32) := by
  have h1 := c_mask k (3 : Int32) 2 (by decide) (by decide)
  simp only [← Int32.toInt_inj]
  have e0 : (0 : Int32).toInt = 0 := by decide
  have e1 : (1 : Int32).toInt = 1 := by decide
  have e2 : (2 : Int32).toInt = 2 := by decide
  have e3 : (3 : Int32).toInt = 3 := by decide
  omega
theorem sn0 {Z : State} {a0 : Array Value} (hw : ∀ d ∈ tables_1, d.before a0 Z = true) : Jvm.RoadKit.slotOf Z "com/example/blackheight/blackheight/node/Trail" "depth" "I" ≠ Jvm.RoadKit.slotOf Z "com/example/blackheight/blackheight/node/Trail" "entries" "[I" := slot_ne (Or.inl (hw _ wd19)) (Or.inl (hw _ wd12)) (by decide) (t := .int) (t' := (.array .int)) (by decide) (by decide)
theorem sn1 {Z : State} {a0 : Array Value} (hw : ∀ d ∈ tables_1, d.before a0 Z = true) : Jvm.RoadKit.slotOf Z "com/example/blackheight/blackheight/node/Trail" "unchanged" "B" ≠ Jvm.RoadKit.slotOf Z "com/example/blackheight/blackheight/node/Trail" "entries" "[I" := slot_ne (Or.inl (hw _ wd50)) (Or.inl (hw _ wd12)) (by decide) (t := .byte) (t' := (.array .int)) (by decide) (by decide)
theorem mod_1 (k : Int32) : ((k &&& (2147483647 : Int32)) % (1 : Int32)) = (0 : Int32) := by
  have h1 := c_mask k (2147483647 : Int32) 31 (by decide) (by decide)
  have h2 := (c_irem (k &&& (2147483647 : Int32)) (1 : Int32) 1 (by decide)).1 (by omega)
  simp only [← Int32.toInt_inj]
  have e0 : (0 : Int32).toInt = 0 := by decide
  omega
theorem sn2 {Z : State} {a0 : Array Value} (hw : ∀ d ∈ tables_1, d.before a0 Z = true) : Jvm.RoadKit.slotOf Z "com/example/blackheight/blackheight/node/Trail" "entries" "[I" ≠ Jvm.RoadKit.slotOf Z "com/example/blackheight/blackheight/node/Trail" "depth" "I" := slot_ne (Or.inl (hw _ wd12)) (Or.inl (hw _ wd19)) (by decide) (t := (.array .int)) (t' := .int) (by decide) (by decide)
theorem sn3 {Z : State} {a0 : Array Value} (hw : ∀ d ∈ tables_1, d.before a0 Z = true) : Jvm.RoadKit.slotOf Z "com/example/blackheight/blackheight/node/Trail" "unchanged" "B" ≠ Jvm.RoadKit.slotOf Z "com/example/blackheight/blackheight/node/Trail" "depth" "I" := slot_ne (Or.inl (hw _ wd50)) (Or.inl (hw _ wd19)) (by decide) (t := .byte) (t' := .int) (by decide) (by decide)
theorem mod_2 (k : Int32) : ((k &&& (2147483647 : Int32)) % (2 : Int32)) = (0 : Int32) ∨ ((k &&& (2147483647 : Int32)) % (2 : Int32)) = (1 : Int32) := by
  have h1 := c_mask k (2147483647 : Int32) 31 (by decide) (by decide)
  have h2 := (c_irem (k &&& (2147483647 : Int32)) (2 : Int32) 2 (by decide)).1 (by omega)
  simp only [← Int32.toInt_inj]
  have e0 : (0 : Int32).toInt = 0 := by decide
  have e1 : (1 : Int32).toInt = 1 := by decide
  omega
theorem mod_3 (k : Int32) : ((k &&& (2147483647 : Int32)) % (3 : Int32)) = (0 : Int32) ∨ ((k &&& (2147483647 : Int32)) % (3 : Int32)) = (1 : Int32) ∨ ((k &&& (2147483647 : Int32)) % (3 : Int32)) = (2 : Int32) := by
  have h1 := c_mask k (2147483647 : Int32) 31 (by decide) (by decide)
  have h2 := (c_irem (k &&& (2147483647 : Int32)) (3 : Int32) 3 (by decide)).1 (by omega)
  simp only [← Int32.toInt_inj]
  have e0 : (0 : Int32).toInt = 0 := by decide
  have e1 : (1 : Int32).toInt = 1 := by decide
  have e2 : (2 : Int32).toInt = 2 := by decide
  omega
theorem mod_4 (k : Int32) : ((k &&& (2147483647 : Int32)) % (4 : Int32)) = (0 : Int32) ∨ ((k &&& (2147483647 : Int32)) % (4 : Int32)) = (1 : Int32) ∨ ((k &&& (2147483647 : Int32)) % (4 : Int32)) = (2 : Int32) ∨ ((k &&& (2147483647 : Int32)) % (4 : Int32)) = (3 : Int32) := by
  have h1 := c_mask k (2147483647 : Int32) 31 (by decide) (by decide)
  have h2 := (c_irem (k &&& (2147483647 : Int32)) (4 : Int32) 4 (by decide)).1 (by omega)
  simp only [← Int32.toInt_inj]
  have e0 : (0 : Int32).toInt = 0 := by decide
  have e1 : (1 : Int32).toInt = 1 := by decide
  have e2 : (2 : Int32).toInt = 2 := by decide
  have e3 : (3 : Int32).toInt = 3 := by decide
  omega
section Walk
variable {l : Launch} {Z : State} {a0 : Array Value} {w_Trail_NO_ROOM : Addr} {k_w_Trail_NO_ROOM : ClassId}
theorem rm15_1 (B : Bg Z a0 w_Trail_NO_ROOM k_w_Trail_NO_ROOM) (ro0 : Addr) (h : Heap) (O : Ext Z.heap h) (hp6 : Exa Z h ro0 cs0) (hp7 : Fld Z h ro0 cs0 "entries" "[I" .null) (hp8 : Z.heap.size ≤ ro0) (hp10 : Fld Z h ro0 cs0 "depth" "I" (.int 0)) (hp12 : Fld Z h ro0 cs0 "unchanged" "B" (.int 0)) :
    Con l Z yM1 prog_22_method_1_code 1 none ({ frames := 1, cells := 0, slots := 0, locals := 12 } : Room) #[(.ref ro0)] h (fun v h' L => v = none ∧ Fr Z.heap.size L ∧ Keep h h' [ro0] ∧ Exa Z h' ro0 cs0 ∧ Fld Z h' ro0 cs0 "entries" "[I" (.ref w_Trail_NO_ROOM) ∧ Fld Z h' ro0 cs0 "depth" "I" (.int 0) ∧ Fld Z h' ro0 cs0 "unchanged" "B" (.int 0)) := by
  have hw := B.1
  obtain ⟨S_w_Trail_NO_ROOM, V_w_Trail_NO_ROOM⟩ := B.2
  refine Con.of (plainFor_of_name pn1) (Ls := #[vR ro0]) (fun m => by first | rfl | (simp [entryFrame, mkF, argsToLocals, Value.category]; done)) ?_
  intro p e s m below meth c T0 X0 H hml hZ hown hnm hret hlk e0
  have N0 := Fr.nil Z.heap.size
  refine gAloadN X0 H d1_0 rfl rfl 1 rfl ?_
  refine gInitO X0 H hZ hown (hw _ wd6) (hw _ wd7) (hw _ wd8) e0 hml rfl (V := 0) (Nat.le_of_eq rfl) (by decide) (by decide) d1_1 4 rfl ?_
  intro T3 X3 e3
  refine gAloadN X3 H d1_4 rfl rfl 5 rfl ?_
  refine gGetS X3 H hZ hown (hw _ wd9) e3 (S_w_Trail_NO_ROOM.ext O) d1_5 8 rfl ?_
  intro T4 X4 e4
  refine gPutF X4 H hZ hown (hw _ wd11) Via.refl e4 hp7 hp6 (Or.inl (hw _ wd12)) (hw _ wd1) (ty := (.array .int)) (by decide) (v' := (.ref w_Trail_NO_ROOM)) rfl rfl d1_8 11 rfl ?_
  intro T5 h5 X5 e5 W5 F5
  have O5 := extW O W5 hp8
  have N5 := Fr.snoc X5 N0 hp8
  have c9 := (hp6.wr W5)
  have c11 := (hp10.other W5 (Or.inr (sn0 hw)))
  have c13 := (hp12.other W5 (Or.inr (sn1 hw)))
  have K_14 := (Keep.refl h [ro0]).wr W5 (Or.inl (List.mem_of_getElem? (i := 0) rfl))
  exact gRetV X5 H hlk hret d1_11 e5 ⟨rfl, N5, K_14, c9, F5, c11, c13⟩
theorem rm19_3 (B : Bg Z a0 w_Trail_NO_ROOM k_w_Trail_NO_ROOM) (ro0 : Addr) (h : Heap) (O : Ext Z.heap h) (hp17 : Fld Z h ro0 cs0 "depth" "I" (.int 0)) :
    Con l Z yM3 prog_22_method_4_code 1 (some .int) ({ frames := 0, cells := 0, slots := 0, locals := 0 } : Room) #[(.ref ro0)] h (fun v h' L => v = some (.int (-1)) ∧ h' = h ∧ L = []) := by
  have hw := B.1
  refine Con.of (plainFor_of_name pn3) (Ls := #[vR ro0]) (fun m => by first | rfl | (simp [entryFrame, mkF, argsToLocals, Value.category]; done)) ?_
  intro p e s m below meth c T0 X0 H hml hZ hown hnm hret hlk e0
  refine gAloadN X0 H d3_0 rfl rfl 1 rfl ?_
  refine gGetF X0 H hZ hown (hw _ wd18) Via.refl e0 hp17 d3_1 4 rfl ?_
  intro T18 X18 e18
  refine gIfN X18 H d3_4 (by decide) 7 rfl ?_
  refine gIconst X18 H d3_7 (z := (-1)) rfl 8 rfl ?_
  refine gGoto X18 H d3_8 (by decide) 22 rfl ?_
  exact gRetI X18 H hlk hret d3_22 e18 ⟨rfl, rfl, rfl⟩
theorem rm34_10 (B : Bg Z a0 w_Trail_NO_ROOM k_w_Trail_NO_ROOM) (ro0 : Addr) (h : Heap) (O : Ext Z.heap h) (hp25 : Exa Z h ro0 cs0) (hp26 : Fld Z h ro0 cs0 "depth" "I" (.int 0)) (hp27 : Z.heap.size ≤ ro0) (hp29 : Fld Z h ro0 cs0 "entries" "[I" (.ref w_Trail_NO_ROOM)) (hp31 : Fld Z h ro0 cs0 "unchanged" "B" (.int 0)) :
    Con l Z yM10 prog_22_method_8_code 2 none ({ frames := 0, cells := 0, slots := 0, locals := 0 } : Room) #[(.ref ro0), (.int 0)] h (fun v h' L => v = none ∧ Fr Z.heap.size L ∧ Keep h h' [ro0] ∧ Exa Z h' ro0 cs0 ∧ Fld Z h' ro0 cs0 "depth" "I" (.int 0) ∧ Fld Z h' ro0 cs0 "entries" "[I" (.ref w_Trail_NO_ROOM) ∧ Fld Z h' ro0 cs0 "unchanged" "B" (.int 0)) := by
  have hw := B.1
  refine Con.of (plainFor_of_name pn10) (Ls := #[vR ro0, vI 0]) (fun m => by first | rfl | (simp [entryFrame, mkF, argsToLocals, Value.category]; done)) ?_
  intro p e s m below meth c T0 X0 H hml hZ hown hnm hret hlk e0
  have N0 := Fr.nil Z.heap.size
  refine gAloadN X0 H d10_0 rfl rfl 1 rfl ?_
  refine gIloadN X0 H d10_1 rfl 2 rfl ?_
  refine gPutF X0 H hZ hown (hw _ wd18) Via.refl e0 hp26 hp25 (Or.inl (hw _ wd19)) (hw _ wd1) (ty := .int) (by decide) (v' := (.int 0)) rfl rfl d10_2 5 rfl ?_
  intro T24 h24 X24 e24 W24 F24
  have O24 := extW O W24 hp27
  have N24 := Fr.snoc X24 N0 hp27
  have c28 := (hp25.wr W24)
  have c30 := (hp29.other W24 (Or.inr (sn2 hw)))
  have c32 := (hp31.other W24 (Or.inr (sn3 hw)))
  have K_33 := (Keep.refl h [ro0]).wr W24 (Or.inl (List.mem_of_getElem? (i := 0) rfl))
  exact gRetV X24 H hlk hret d10_5 e24 ⟨rfl, N24, K_33, c28, F24, c30, c32⟩
theorem lawAll_0 (B : Bg Z a0 w_Trail_NO_ROOM k_w_Trail_NO_ROOM) (p0 : Int32) (p1 : Int32) (p2 : Int32) (p3 : Int32) (p4 : Int32) (ha0 : (p0 &&& (3 : Int32)) = (0 : Int32)) :
    Con l Z x code maxLocals ret room_1 #[(.int p0), (.int p1), (.int p2), (.int p3), (.int p4)] Z.heap (fun v h' L => v = some (.int 1) ∧ Fr Z.heap.size L) := by
  have hw := B.1
  obtain ⟨S_w_Trail_NO_ROOM, V_w_Trail_NO_ROOM⟩ := B.2
  refine Con.of (plainFor_of_name pn0) (Ls := #[vI p0, vI p1, vI p2, vI p3, vI p4, .unset, .unset, .unset, .unset, .unset]) (fun m => by first | rfl | (simp [entryFrame, mkF, argsToLocals, Value.category, maxLocals]; done)) ?_
  intro p e s m below meth c T0 X0 H hml hZ hown hnm hret hlk e0
  have O0 := extR Z.heap
  have M0 := Nat.le_refl Z.heap.size
  have N0 := Fr.nil Z.heap.size
  refine gIloadN X0 H at_0 rfl 1 rfl ?_
  refine gIconst X0 H at_1 (z := 3) rfl 2 rfl ?_
  refine g_iand X0 H at_2 (z := 0) ha0 3 rfl ?_
  refine gIstore X0 H at_3 (Ls' := #[vI p0, vI p1, vI p2, vI p3, vI p4, vI 0, .unset, .unset, .unset, .unset]) rfl 5 rfl ?_
  refine gIloadN X0 H at_5 rfl 6 rfl ?_
  refine gIconst X0 H at_6 (z := 2) rfl 7 rfl ?_
  refine g_ishr X0 H at_7 (z := (p0 >>> ((2 : Int32) &&& 31))) rfl 8 rfl ?_
  refine gIconst X0 H at_8 (z := 1) rfl 9 rfl ?_
  refine g_iand X0 H at_9 (z := ((p0 >>> ((2 : Int32) &&& 31)) &&& (1 : Int32))) rfl 10 rfl ?_
  by_cases hc1 : ((p0 >>> ((2 : Int32) &&& 31)) &&& (1 : Int32)) = (0 : Int32)
  · refine gIfY X0 H at_10 ((if0 _ _).trans (teq hc1).1) (by decide) 17 rfl ?_
    refine gIconst X0 H at_17 (z := 0) rfl 18 rfl ?_
    refine gIstore X0 H at_18 (Ls' := #[vI p0, vI p1, vI p2, vI p3, vI p4, vI 0, vI 0, .unset, .unset, .unset]) rfl 20 rfl ?_
    refine gNew X0 H hZ hown (hw _ wd0) (hw _ wd1) (hw _ wd2) e0 (by decide) (by decide) at_20 23 rfl ?_
    intro T2 h2 b2 X2 e2 z2 E2 A2 D2
    have G_b2 := Nat.le_trans O0.1 (Nat.le_of_eq z2)
    have sz_b2 := Nat.le_trans M0 (Nat.le_of_eq z2)
    have O2 := extT O0 E2
    have F2_entries : Fld Z h2 b2 cs0 "entries" "[I" .null := D2 (Or.inl (hw _ wd12)) (ty := (.array .int)) (by decide)
    have F2_depth : Fld Z h2 b2 cs0 "depth" "I" (.int 0) := D2 (Or.inl (hw _ wd19)) (ty := .int) (by decide)
    have F2_unchanged : Fld Z h2 b2 cs0 "unchanged" "B" (.int 0) := D2 (Or.inl (hw _ wd50)) (ty := .byte) (by decide)
    refine gDup X2 H at_23 rfl 24 rfl ?_
    refine gSpecial X2 H hZ hown rfl rfl (hw _ wd3) (hw _ wd4) (by decide) (hw _ wd5) (hw _ wd2) (rm15_1 B b2 _ O2 A2 F2_entries G_b2 F2_depth F2_unchanged) e2 hml rfl pd0 rfl (W := 1) (argsL := []) (rest := [(.ref b2)]) rfl rfl at_24 27 rfl ?_
    intro v16 T16 L16 hq16 X16
    obtain ⟨rfl, N16q, K16, f16_0, f16_1, f16_2, f16_3⟩ := hq16
    have O16 := extK O2 K16 (allS G_b2 all0)
    have N16 := Fr.app N0 N16q
    show Go _ _ _ _ (State.setTop _ (mkF _ 27 _ [(.ref b2)]))
    refine gAstore X16 H at_27 rfl (Ls' := #[vI p0, vI p1, vI p2, vI p3, vI p4, vI 0, vI 0, vR b2, .unset, .unset]) rfl 29 rfl ?_
    refine gIload X16 H at_29 rfl 31 rfl ?_
    refine gIconst X16 H at_31 (z := 1) rfl 32 rfl ?_
    refine gCmpY X16 H at_32 (by decide) (by decide) 41 rfl ?_
    refine gIload X16 H at_41 rfl 43 rfl ?_
    refine gIconst X16 H at_43 (z := 2) rfl 44 rfl ?_
    refine gCmpY X16 H at_44 (by decide) (by decide) 53 rfl ?_
    refine gIload X16 H at_53 rfl 55 rfl ?_
    refine gIconst X16 H at_55 (z := 3) rfl 56 rfl ?_
    refine gCmpY X16 H at_56 (by decide) (by decide) 65 rfl ?_
    refine gIload X16 H at_65 rfl 67 rfl ?_
    refine gIstore X16 H at_67 (Ls' := #[vI p0, vI p1, vI p2, vI p3, vI p4, vI 0, vI 0, vR b2, vI 0, .unset]) rfl 69 rfl ?_
    refine gIload X16 H at_69 rfl 71 rfl ?_
    refine gIfY X16 H at_71 (by decide) (by decide) 93 rfl ?_
    refine gIload X16 H at_93 rfl 95 rfl ?_
    refine gIfN X16 H at_95 (by decide) 98 rfl ?_
    refine gIconst X16 H at_98 (z := (-1)) rfl 99 rfl ?_
    refine gIstore X16 H at_99 (Ls' := #[vI p0, vI p1, vI p2, vI p3, vI p4, vI 0, vI 0, vR b2, vI 0, vI (-1)]) rfl 101 rfl ?_
    refine gGoto X16 H at_101 (by decide) 131 rfl ?_
    refine gAload X16 H at_131 rfl rfl 133 rfl ?_
    refine gVirt X16 H hZ hown (hw _ wd13) (hw _ wd14) (hw _ wd16) (hw _ wd15) (by decide) f16_0 (hw _ wd17) (hw _ wd2) (rm19_3 B b2 _ O16 f16_2) rfl hml rfl pd1 rfl (W := 0) (argsL := []) (rest := []) rfl rfl at_133 136 rfl ?_
    intro v20 T20 L20 hq20 X20
    obtain ⟨rfl, e20, rfl⟩ := hq20
    have N20 := Fr.app N16 (Fr.nil _)
    show Go _ _ _ _ (State.setTop _ (mkF _ 136 _ [(.int (-1))]))
    refine gIload X20 H at_136 rfl 138 rfl ?_
    refine gCmpN X20 H at_138 (by decide) 141 rfl ?_
    refine gIconst X20 H at_141 (z := 1) rfl 142 rfl ?_
    refine gGoto X20 H at_142 (by decide) 146 rfl ?_
    exact gRetN X20 H hlk hret (t := .boolean) (by simp) at_146 e20 ⟨rfl, N20⟩
  · refine gIfN X0 H at_10 ((if0 _ _).trans (feq hc1).1) 13 rfl ?_
    refine gIconst X0 H at_13 (z := 1) rfl 14 rfl ?_
    refine gGoto X0 H at_14 (by decide) 18 rfl ?_
    refine gIstore X0 H at_18 (Ls' := #[vI p0, vI p1, vI p2, vI p3, vI p4, vI 0, vI 1, .unset, .unset, .unset]) rfl 20 rfl ?_
    refine gNew X0 H hZ hown (hw _ wd0) (hw _ wd1) (hw _ wd2) e0 (by decide) (by decide) at_20 23 rfl ?_
    intro T21 h21 b21 X21 e21 z21 E21 A21 D21
    have G_b21 := Nat.le_trans O0.1 (Nat.le_of_eq z21)
    have sz_b21 := Nat.le_trans M0 (Nat.le_of_eq z21)
    have O21 := extT O0 E21
    have F21_entries : Fld Z h21 b21 cs0 "entries" "[I" .null := D21 (Or.inl (hw _ wd12)) (ty := (.array .int)) (by decide)
    have F21_depth : Fld Z h21 b21 cs0 "depth" "I" (.int 0) := D21 (Or.inl (hw _ wd19)) (ty := .int) (by decide)
    have F21_unchanged : Fld Z h21 b21 cs0 "unchanged" "B" (.int 0) := D21 (Or.inl (hw _ wd50)) (ty := .byte) (by decide)
    refine gDup X21 H at_23 rfl 24 rfl ?_
    refine gSpecial X21 H hZ hown rfl rfl (hw _ wd3) (hw _ wd4) (by decide) (hw _ wd5) (hw _ wd2) (rm15_1 B b21 _ O21 A21 F21_entries G_b21 F21_depth F21_unchanged) e21 hml rfl pd0 rfl (W := 1) (argsL := []) (rest := [(.ref b21)]) rfl rfl at_24 27 rfl ?_
    intro v22 T22 L22 hq22 X22
    obtain ⟨rfl, N22q, K22, f22_0, f22_1, f22_2, f22_3⟩ := hq22
    have O22 := extK O21 K22 (allS G_b21 all0)
    have N22 := Fr.app N0 N22q
    show Go _ _ _ _ (State.setTop _ (mkF _ 27 _ [(.ref b21)]))
    refine gAstore X22 H at_27 rfl (Ls' := #[vI p0, vI p1, vI p2, vI p3, vI p4, vI 0, vI 1, vR b21, .unset, .unset]) rfl 29 rfl ?_
    refine gIload X22 H at_29 rfl 31 rfl ?_
    refine gIconst X22 H at_31 (z := 1) rfl 32 rfl ?_
    refine gCmpY X22 H at_32 (by decide) (by decide) 41 rfl ?_
    refine gIload X22 H at_41 rfl 43 rfl ?_
    refine gIconst X22 H at_43 (z := 2) rfl 44 rfl ?_
    refine gCmpY X22 H at_44 (by decide) (by decide) 53 rfl ?_
    refine gIload X22 H at_53 rfl 55 rfl ?_
    refine gIconst X22 H at_55 (z := 3) rfl 56 rfl ?_
    refine gCmpY X22 H at_56 (by decide) (by decide) 65 rfl ?_
    refine gIload X22 H at_65 rfl 67 rfl ?_
    refine gIstore X22 H at_67 (Ls' := #[vI p0, vI p1, vI p2, vI p3, vI p4, vI 0, vI 1, vR b21, vI 0, .unset]) rfl 69 rfl ?_
    refine gIload X22 H at_69 rfl 71 rfl ?_
    refine gIfN X22 H at_71 (by decide) 74 rfl ?_
    refine gIload X22 H at_74 rfl 76 rfl ?_
    refine gLdc X22 H hZ hown (hw _ wd51) at_76 78 rfl ?_
    refine g_iand X22 H at_78 (z := (p4 &&& (2147483647 : Int32))) rfl 79 rfl ?_
    refine gIload X22 H at_79 rfl 81 rfl ?_
    refine gIconst X22 H at_81 (z := 1) rfl 82 rfl ?_
    refine g_iadd X22 H at_82 (z := 1) (by decide) 83 rfl ?_
    rcases mod_1 p4 with hn23
    · refine g_irem X22 H at_83 (by decide) (z := 0) hn23 84 rfl ?_
      refine gIstore X22 H at_84 (Ls' := #[vI p0, vI p1, vI p2, vI p3, vI p4, vI 0, vI 1, vR b21, vI 0, .unset]) rfl 86 rfl ?_
      refine gAload X22 H at_86 rfl rfl 88 rfl ?_
      refine gIload X22 H at_88 rfl 90 rfl ?_
      refine gVirt X22 H hZ hown (hw _ wd52) (hw _ wd53) (hw _ wd55) (hw _ wd54) (by decide) f22_0 (hw _ wd56) (hw _ wd2) (rm34_10 B b21 _ O22 f22_0 f22_2 G_b21 f22_1 f22_3) rfl hml rfl pd2 rfl (W := 0) (argsL := [(.int 0)]) (rest := []) rfl rfl at_90 93 rfl ?_
      intro v35 T35 L35 hq35 X35
      obtain ⟨rfl, N35q, K35, f35_0, f35_1, f35_2, f35_3⟩ := hq35
      have O35 := extK O22 K35 (allS G_b21 all0)
      have N35 := Fr.app N22 N35q
      show Go _ _ _ _ (State.setTop _ (mkF _ 93 _ []))
      refine gIload X35 H at_93 rfl 95 rfl ?_
      refine gIfN X35 H at_95 (by decide) 98 rfl ?_
      refine gIconst X35 H at_98 (z := (-1)) rfl 99 rfl ?_
      refine gIstore X35 H at_99 (Ls' := #[vI p0, vI p1, vI p2, vI p3, vI p4, vI 0, vI 1, vR b21, vI 0, vI (-1)]) rfl 101 rfl ?_
      refine gGoto X35 H at_101 (by decide) 131 rfl ?_
      refine gAload X35 H at_131 rfl rfl 133 rfl ?_
      refine gVirt X35 H hZ hown (hw _ wd13) (hw _ wd14) (hw _ wd16) (hw _ wd15) (by decide) f35_0 (hw _ wd17) (hw _ wd2) (rm19_3 B b21 _ O35 f35_1) rfl hml rfl pd1 rfl (W := 0) (argsL := []) (rest := []) rfl rfl at_133 136 rfl ?_
      intro v36 T36 L36 hq36 X36
      obtain ⟨rfl, e36, rfl⟩ := hq36
      have N36 := Fr.app N35 (Fr.nil _)
      show Go _ _ _ _ (State.setTop _ (mkF _ 136 _ [(.int (-1))]))
      refine gIload X36 H at_136 rfl 138 rfl ?_
      refine gCmpN X36 H at_138 (by decide) 141 rfl ?_
      refine gIconst X36 H at_141 (z := 1) rfl 142 rfl ?_
      refine gGoto X36 H at_142 (by decide) 146 rfl ?_
      exact gRetN X36 H hlk hret (t := .boolean) (by simp) at_146 e36 ⟨rfl, N36⟩
theorem rm50_6 (B : Bg Z a0 w_Trail_NO_ROOM k_w_Trail_NO_ROOM) (h : Heap) (O : Ext Z.heap h) :
    Con l Z yM6 jdk_29_method_65_code 2 (some .int) ({ frames := 0, cells := 0, slots := 0, locals := 0 } : Room) #[(.int 16), (.int 0)] h (fun v h' L => v = some (.int 16) ∧ h' = h ∧ L = []) := by
  refine Con.of (Jvm.Free.JP.mathPlain rfl (by decide +kernel)) (Ls := #[vI 16, vI 0]) (fun m => by first | rfl | (simp [entryFrame, mkF, argsToLocals, Value.category]; done)) ?_
  intro p e s m below meth c T0 X0 H hml hZ hown hnm hret hlk e0
  refine gIloadN X0 H d6_0 rfl 1 rfl ?_
  refine gIloadN X0 H d6_1 rfl 2 rfl ?_
  refine gCmpN X0 H d6_2 (by decide) 5 rfl ?_
  refine gIloadN X0 H d6_5 rfl 6 rfl ?_
  refine gGoto X0 H d6_6 (by decide) 10 rfl ?_
  exact gRetI X0 H hlk hret d6_10 e0 ⟨rfl, rfl, rfl⟩
theorem rm55_8 (B : Bg Z a0 w_Trail_NO_ROOM k_w_Trail_NO_ROOM) (h : Heap) (O : Ext Z.heap h) :
    Con l Z yM8 jdk_29_method_69_code 2 (some .int) ({ frames := 0, cells := 0, slots := 0, locals := 0 } : Room) #[(.int 0), (.int 16)] h (fun v h' L => v = some (.int 0) ∧ h' = h ∧ L = []) := by
  refine Con.of (Jvm.Free.JP.mathPlain rfl (by decide +kernel)) (Ls := #[vI 0, vI 16]) (fun m => by first | rfl | (simp [entryFrame, mkF, argsToLocals, Value.category]; done)) ?_
  intro p e s m below meth c T0 X0 H hml hZ hown hnm hret hlk e0
  refine gIloadN X0 H d8_0 rfl 1 rfl ?_
  refine gIloadN X0 H d8_1 rfl 2 rfl ?_
  refine gCmpN X0 H d8_2 (by decide) 5 rfl ?_
  refine gIloadN X0 H d8_5 rfl 6 rfl ?_
  refine gGoto X0 H d8_6 (by decide) 10 rfl ?_
  exact gRetI X0 H hlk hret d8_10 e0 ⟨rfl, rfl, rfl⟩
theorem rm60_7 (B : Bg Z a0 w_Trail_NO_ROOM k_w_Trail_NO_ROOM) (h : Heap) (O : Ext Z.heap h) :
    Con l Z yM7 jdk_65_method_123_code 3 (some (.array .int)) ({ frames := 1, cells := 1, slots := 16, locals := 18 } : Room) #[(.ref w_Trail_NO_ROOM), (.int 16)] h (fun v h' L => ∃ (b53 : Addr) (k53 : ClassId), v = some (.ref b53) ∧ Fr Z.heap.size L ∧ Keep h h' [] ∧ h.size ≤ b53 ∧ Arv Z h' b53 k53 .int (16 : Int32) [(.int 0), (.int 0), (.int 0), (.int 0), (.int 0), (.int 0), (.int 0), (.int 0), (.int 0), (.int 0), (.int 0), (.int 0), (.int 0), (.int 0), (.int 0), (.int 0)] (.int 0)) := by
  have hw := B.1
  obtain ⟨S_w_Trail_NO_ROOM, V_w_Trail_NO_ROOM⟩ := B.2
  refine Con.of (plainFor_of_name pn7) (Ls := #[vR w_Trail_NO_ROOM, vI 16, .unset]) (fun m => by first | rfl | (simp [entryFrame, mkF, argsToLocals, Value.category]; done)) ?_
  intro p e s m below meth c T0 X0 H hml hZ hown hnm hret hlk e0
  have M0 := Nat.le_refl h.size
  have N0 := Fr.nil Z.heap.size
  refine gIloadN X0 H d7_0 rfl 1 rfl ?_
  refine gAloadN X0 H d7_1 rfl rfl 2 rfl ?_
  refine gLen X0 H hZ e0 (Arv.arl (V_w_Trail_NO_ROOM.ext O)) d7_2 3 rfl ?_
  refine gCmpY X0 H d7_3 (by decide) (by decide) 14 rfl ?_
  refine gIloadN X0 H d7_14 rfl 15 rfl ?_
  refine gNewP X0 H hZ (aty := .int) (hw _ wd37) e0 (by decide) (cap := 16) (by decide) (by decide) (vs := [(.int 0), (.int 0), (.int 0), (.int 0), (.int 0), (.int 0), (.int 0), (.int 0), (.int 0), (.int 0), (.int 0), (.int 0), (.int 0), (.int 0), (.int 0), (.int 0)]) rfl (by decide) (by decide) d7_15 17 rfl ?_
  intro T53 h53 b53 k53 X53 e53 z53 E53 V53
  have G_b53 := Nat.le_trans O.1 (Nat.le_of_eq z53)
  have sz_b53 := Nat.le_trans M0 (Nat.le_of_eq z53)
  have O53 := extT O E53
  refine gAstoreN X53 H d7_17 rfl (Ls' := #[vR w_Trail_NO_ROOM, vI 16, vR b53]) rfl 18 rfl ?_
  refine gAloadN X53 H d7_18 rfl rfl 19 rfl ?_
  refine gIconst X53 H d7_19 (z := 0) rfl 20 rfl ?_
  refine gAloadN X53 H d7_20 rfl rfl 21 rfl ?_
  refine gIconst X53 H d7_21 (z := 0) rfl 22 rfl ?_
  refine gAloadN X53 H d7_22 rfl rfl 23 rfl ?_
  refine gLen X53 H hZ e53 (Arv.arl (V_w_Trail_NO_ROOM.ext O53)) d7_23 24 rfl ?_
  refine gIloadN X53 H d7_24 rfl 25 rfl ?_
  refine gStatic X53 H hZ hown (hw _ wd38) (hw _ wd39) (by decide) (hw _ wd40) (hw _ wd31) (rm55_8 B _ O53) e53 hml rfl pd3 rfl (W := 4) (argsL := [(.int 0), (.int 16)]) (rest := [(.int 0), (.ref b53), (.int 0), (.ref w_Trail_NO_ROOM)]) rfl rfl d7_25 28 rfl ?_
  intro v56 T56 L56 hq56 X56
  obtain ⟨rfl, e56, rfl⟩ := hq56
  have N56 := Fr.app N0 (Fr.nil _)
  show Go _ _ _ _ (State.setTop _ (mkF _ 28 _ [(.int 0), (.int 0), (.ref b53), (.int 0), (.ref w_Trail_NO_ROOM)]))
  refine gCopy X56 H hZ hown (hw _ wd41) (hw _ wd44) (hw _ wd42) (hw _ wd43) e56 (V_w_Trail_NO_ROOM.ext O53) V53 (us := []) (Or.inl ⟨rfl, rfl⟩) (by decide) (by decide) (by decide) (by decide) (by decide) rfl (Nat.le_of_ble_eq_true rfl) N56 G_b53 hml rfl (V := 0) (by decide) (Nat.le_of_eq rfl) (by decide) (vd' := [(.int 0), (.int 0), (.int 0), (.int 0), (.int 0), (.int 0), (.int 0), (.int 0), (.int 0), (.int 0), (.int 0), (.int 0), (.int 0), (.int 0), (.int 0), (.int 0)]) rfl d7_28 31 rfl ?_
  intro T57 h57 L57 X57 e57 N57c K57 V57
  have O57 := extK O53 K57 (allS G_b53 all0)
  refine gAloadN X57 H d7_31 rfl rfl 32 rfl ?_
  have K_58 := (Keep.refl h []).ext E53
  have K_59 := K_58.trans K57 (allS (Or.inr sz_b53) all0)
  exact gRetA X57 H hlk hret rfl rfl rfl d7_32 e57 ⟨b53, k53, rfl, N57c, K_59, sz_b53, V57⟩
theorem rm75_5 (B : Bg Z a0 w_Trail_NO_ROOM k_w_Trail_NO_ROOM) (ro0 : Addr) (h : Heap) (O : Ext Z.heap h) (hp46 : Fld Z h ro0 cs0 "entries" "[I" (.ref w_Trail_NO_ROOM)) (hp63 : Exa Z h ro0 cs0) (hp66 : Z.heap.size ≤ ro0) (hp68 : Fld Z h ro0 cs0 "depth" "I" (.int 0)) (hp70 : Fld Z h ro0 cs0 "unchanged" "B" (.int 0)) :
    Con l Z yM5 prog_22_method_16_code 1 none ({ frames := 2, cells := 1, slots := 16, locals := 33 } : Room) #[(.ref ro0)] h (fun v h' L => ∃ (b61_0 : Addr) (k61_0 : ClassId), v = none ∧ Fr Z.heap.size L ∧ Keep h h' [ro0] ∧ h.size ≤ b61_0 ∧ Fld Z h' ro0 cs0 "entries" "[I" (.ref b61_0) ∧ Arv Z h' b61_0 k61_0 .int (16 : Int32) [(.int 0), (.int 0), (.int 0), (.int 0), (.int 0), (.int 0), (.int 0), (.int 0), (.int 0), (.int 0), (.int 0), (.int 0), (.int 0), (.int 0), (.int 0), (.int 0)] (.int 0) ∧ Exa Z h' ro0 cs0 ∧ Fld Z h' ro0 cs0 "depth" "I" (.int 0) ∧ Fld Z h' ro0 cs0 "unchanged" "B" (.int 0)) := by
  have hw := B.1
  obtain ⟨S_w_Trail_NO_ROOM, V_w_Trail_NO_ROOM⟩ := B.2
  refine Con.of (plainFor_of_name pn5) (Ls := #[vR ro0]) (fun m => by first | rfl | (simp [entryFrame, mkF, argsToLocals, Value.category]; done)) ?_
  intro p e s m below meth c T0 X0 H hml hZ hown hnm hret hlk e0
  have M0 := Nat.le_refl h.size
  have N0 := Fr.nil Z.heap.size
  refine gAloadN X0 H d5_0 rfl rfl 1 rfl ?_
  refine gAloadN X0 H d5_1 rfl rfl 2 rfl ?_
  refine gGetF X0 H hZ hown (hw _ wd11) Via.refl e0 hp46 d5_2 5 rfl ?_
  intro T47 X47 e47
  refine gBipush X47 H d5_5 (z := 16) rfl 7 rfl ?_
  refine gIconst X47 H d5_7 (z := 2) rfl 8 rfl ?_
  refine gAloadN X47 H d5_8 rfl rfl 9 rfl ?_
  refine gGetF X47 H hZ hown (hw _ wd11) Via.refl e47 hp46 d5_9 12 rfl ?_
  intro T48 X48 e48
  refine gLen X48 H hZ e48 (Arv.arl (V_w_Trail_NO_ROOM.ext O)) d5_12 13 rfl ?_
  refine g_imul X48 H d5_13 (z := 0) (by decide) 14 rfl ?_
  refine gStatic X48 H hZ hown (hw _ wd29) (hw _ wd30) (by decide) (hw _ wd32) (hw _ wd31) (rm50_6 B _ O) e48 hml rfl pd3 rfl (W := 2) (argsL := [(.int 16), (.int 0)]) (rest := [(.ref w_Trail_NO_ROOM), (.ref ro0)]) rfl rfl d5_14 17 rfl ?_
  intro v51 T51 L51 hq51 X51
  obtain ⟨rfl, e51, rfl⟩ := hq51
  have N51 := Fr.app N0 (Fr.nil _)
  show Go _ _ _ _ (State.setTop _ (mkF _ 17 _ [(.int 16), (.ref w_Trail_NO_ROOM), (.ref ro0)]))
  refine gStatic X51 H hZ hown (hw _ wd33) (hw _ wd34) (by decide) (hw _ wd36) (hw _ wd35) (rm60_7 B _ O) e51 hml rfl pd4 rfl (W := 1) (argsL := [(.ref w_Trail_NO_ROOM), (.int 16)]) (rest := [(.ref ro0)]) rfl rfl d5_17 20 rfl ?_
  intro v61 T61 L61 hq61 X61
  obtain ⟨b61_0, k61_0, rfl, N61q, K61, s61_0, f61_0⟩ := hq61
  have G_b61_0 := Nat.le_trans O.1 s61_0
  have sz_b61_0 := Nat.le_trans M0 s61_0
  have O61 := extK O K61 all0
  have N61 := Fr.app N51 N61q
  show Go _ _ _ _ (State.setTop _ (mkF _ 20 _ [(.ref b61_0), (.ref ro0)]))
  have c64 := (hp63.keep K61)
  have c65 := (hp46.keep K61 nin0)
  refine gPutF X61 H hZ hown (hw _ wd11) Via.refl rfl c65 c64 (Or.inl (hw _ wd12)) (hw _ wd1) (ty := (.array .int)) (by decide) (v' := (.ref b61_0)) rfl rfl d5_20 23 rfl ?_
  intro T62 h62 X62 e62 W62 F62
  have O62 := extW O61 W62 hp66
  have N62 := Fr.snoc X62 N61 hp66
  have c67 := (c64.wr W62)
  have c69 := ((hp68.keep K61 nin0).other W62 (Or.inr (sn0 hw)))
  have c71 := ((hp70.keep K61 nin0).other W62 (Or.inr (sn1 hw)))
  have c72 := (f61_0.other W62 (Ne.symm (neB hp46.lt sz_b61_0)))
  have K_73 := (Keep.refl h [ro0]).trans K61 all0
  have K_74 := K_73.wr W62 (Or.inl (List.mem_of_getElem? (i := 0) rfl))
  exact gRetV X62 H hlk hret d5_23 e62 ⟨b61_0, k61_0, rfl, N62, K_74, sz_b61_0, F62, c72, c67, c69, c71⟩
theorem rm82_9 (B : Bg Z a0 w_Trail_NO_ROOM k_w_Trail_NO_ROOM) (ro0 : Addr) (h : Heap) (O : Ext Z.heap h) (hp80 : Fld Z h ro0 cs0 "unchanged" "B" (.int 0)) :
    Con l Z yM9 prog_22_method_15_code 2 none ({ frames := 0, cells := 0, slots := 0, locals := 0 } : Room) #[(.ref ro0), (.int 0)] h (fun v h' L => v = none ∧ h' = h ∧ L = []) := by
  have hw := B.1
  refine Con.of (plainFor_of_name pn9) (Ls := #[vR ro0, vI 0]) (fun m => by first | rfl | (simp [entryFrame, mkF, argsToLocals, Value.category]; done)) ?_
  intro p e s m below meth c T0 X0 H hml hZ hown hnm hret hlk e0
  refine gIloadN X0 H d9_0 rfl 1 rfl ?_
  refine gAloadN X0 H d9_1 rfl rfl 2 rfl ?_
  refine gGetF X0 H hZ hown (hw _ wd49) Via.refl e0 hp80 d9_2 5 rfl ?_
  intro T81 X81 e81
  refine gCmpY X81 H d9_5 (by decide) (by decide) 14 rfl ?_
  exact gRetV X81 H hlk hret d9_14 e81 ⟨rfl, rfl, rfl⟩
theorem rm98_4 (B : Bg Z a0 w_Trail_NO_ROOM k_w_Trail_NO_ROOM) (ro0 : Addr) (vi1 : Int32) (h : Heap) (O : Ext Z.heap h) (hp40 : Fld Z h ro0 cs0 "depth" "I" (.int 0)) (hp42 : Fld Z h ro0 cs0 "entries" "[I" (.ref w_Trail_NO_ROOM)) (hp45 : Exa Z h ro0 cs0) (hp76 : Z.heap.size ≤ ro0) (hp77 : Fld Z h ro0 cs0 "unchanged" "B" (.int 0)) :
    Con l Z yM4 prog_22_method_6_code 2 none ({ frames := 3, cells := 1, slots := 16, locals := 45 } : Room) #[(.ref ro0), (.int vi1)] h (fun v h' L => ∃ (b78_0 : Addr) (k78_0 : ClassId), v = none ∧ Fr Z.heap.size L ∧ Keep h h' [ro0] ∧ h.size ≤ b78_0 ∧ Fld Z h' ro0 cs0 "depth" "I" (.int 1) ∧ Fld Z h' ro0 cs0 "entries" "[I" (.ref b78_0) ∧ Exa Z h' ro0 cs0 ∧ Fld Z h' ro0 cs0 "unchanged" "B" (.int 0) ∧ Arv Z h' b78_0 k78_0 .int (16 : Int32) [(.int vi1), (.int 0), (.int 0), (.int 0), (.int 0), (.int 0), (.int 0), (.int 0), (.int 0), (.int 0), (.int 0), (.int 0), (.int 0), (.int 0), (.int 0), (.int 0)] (.int 0)) := by
  have hw := B.1
  obtain ⟨S_w_Trail_NO_ROOM, V_w_Trail_NO_ROOM⟩ := B.2
  refine Con.of (plainFor_of_name pn4) (Ls := #[vR ro0, vI vi1]) (fun m => by first | rfl | (simp [entryFrame, mkF, argsToLocals, Value.category]; done)) ?_
  intro p e s m below meth c T0 X0 H hml hZ hown hnm hret hlk e0
  have M0 := Nat.le_refl h.size
  have N0 := Fr.nil Z.heap.size
  refine gAloadN X0 H d4_0 rfl rfl 1 rfl ?_
  refine gGetF X0 H hZ hown (hw _ wd18) Via.refl e0 hp40 d4_1 4 rfl ?_
  intro T41 X41 e41
  refine gAloadN X41 H d4_4 rfl rfl 5 rfl ?_
  refine gGetF X41 H hZ hown (hw _ wd11) Via.refl e41 hp42 d4_5 8 rfl ?_
  intro T43 X43 e43
  refine gLen X43 H hZ e43 (Arv.arl (V_w_Trail_NO_ROOM.ext O)) d4_8 9 rfl ?_
  refine gCmpN X43 H d4_9 (by decide) 12 rfl ?_
  refine gAloadN X43 H d4_12 rfl rfl 13 rfl ?_
  refine gPrivate X43 H hZ hown (hw _ wd25) (hw _ wd26) (hw _ wd27) (hw _ wd1) (by decide) hp45 (hw _ wd28) (hw _ wd2) (rm75_5 B ro0 _ O hp42 hp45 hp76 hp40 hp77) e43 hml rfl pd0 rfl (W := 0) (argsL := []) (rest := []) rfl rfl d4_13 16 rfl ?_
  intro v78 T78 L78 hq78 X78
  obtain ⟨b78_0, k78_0, rfl, N78q, K78, s78_0, f78_0, f78_1, f78_2, f78_3, f78_4⟩ := hq78
  have G_b78_0 := Nat.le_trans O.1 s78_0
  have sz_b78_0 := Nat.le_trans M0 s78_0
  have O78 := extK O K78 (allS hp76 all0)
  have N78 := Fr.app N0 N78q
  show Go _ _ _ _ (State.setTop _ (mkF _ 16 _ []))
  refine gAloadN X78 H d4_16 rfl rfl 17 rfl ?_
  refine gAloadN X78 H d4_17 rfl rfl 18 rfl ?_
  refine gGetF X78 H hZ hown (hw _ wd18) Via.refl rfl f78_3 d4_18 21 rfl ?_
  intro T79 X79 e79
  refine gPrivate X79 H hZ hown (hw _ wd45) (hw _ wd46) (hw _ wd47) (hw _ wd1) (by decide) f78_2 (hw _ wd48) (hw _ wd2) (rm82_9 B ro0 _ O78 f78_4) e79 hml rfl pd2 rfl (W := 0) (argsL := [(.int 0)]) (rest := []) rfl rfl d4_21 24 rfl ?_
  intro v83 T83 L83 hq83 X83
  obtain ⟨rfl, e83, rfl⟩ := hq83
  have N83 := Fr.app N78 (Fr.nil _)
  show Go _ _ _ _ (State.setTop _ (mkF _ 24 _ []))
  refine gAloadN X83 H d4_24 rfl rfl 25 rfl ?_
  refine gGetF X83 H hZ hown (hw _ wd11) Via.refl e83 f78_0 d4_25 28 rfl ?_
  intro T84 X84 e84
  refine gAloadN X84 H d4_28 rfl rfl 29 rfl ?_
  refine gGetF X84 H hZ hown (hw _ wd18) Via.refl e84 f78_3 d4_29 32 rfl ?_
  intro T85 X85 e85
  refine gIloadN X85 H d4_32 rfl 33 rfl ?_
  refine gIastore X85 H hZ e85 f78_1 ⟨by decide, by decide⟩ (i := 0) rfl (Nat.le_of_ble_eq_true rfl) (vs' := [(.int vi1), (.int 0), (.int 0), (.int 0), (.int 0), (.int 0), (.int 0), (.int 0), (.int 0), (.int 0), (.int 0), (.int 0), (.int 0), (.int 0), (.int 0), (.int 0)]) rfl d4_33 34 rfl ?_
  intro T86 h86 X86 e86 W86 V86
  have O86 := extW O78 W86 G_b78_0
  have N86 := Fr.snoc X86 N83 G_b78_0
  refine gAloadN X86 H d4_34 rfl rfl 35 rfl ?_
  refine gDup X86 H d4_35 rfl 36 rfl ?_
  have c87 := (f78_3.other W86 (Or.inl (neB hp40.lt sz_b78_0)))
  refine gGetF X86 H hZ hown (hw _ wd18) Via.refl e86 c87 d4_36 39 rfl ?_
  intro T88 X88 e88
  refine gIconst X88 H d4_39 (z := 1) rfl 40 rfl ?_
  refine g_iadd X88 H d4_40 (z := 1) (by decide) 41 rfl ?_
  have c90 := (f78_2.wr W86)
  refine gPutF X88 H hZ hown (hw _ wd18) Via.refl e88 c87 c90 (Or.inl (hw _ wd19)) (hw _ wd1) (ty := .int) (by decide) (v' := (.int 1)) rfl rfl d4_41 44 rfl ?_
  intro T89 h89 X89 e89 W89 F89
  have O89 := extW O86 W89 hp76
  have N89 := Fr.snoc X89 N86 hp76
  have c91 := ((f78_0.other W86 (Or.inl (neB hp40.lt sz_b78_0))).other W89 (Or.inr (sn2 hw)))
  have c92 := (c90.wr W89)
  have c93 := ((f78_4.other W86 (Or.inl (neB hp40.lt sz_b78_0))).other W89 (Or.inr (sn3 hw)))
  have c94 := (V86.other W89 (Ne.symm (neB hp40.lt sz_b78_0)))
  have K_95 := (Keep.refl h [ro0]).trans K78 (allS (Or.inl (List.mem_of_getElem? (i := 0) rfl)) all0)
  have K_96 := K_95.wr W86 (Or.inr sz_b78_0)
  have K_97 := K_96.wr W89 (Or.inl (List.mem_of_getElem? (i := 0) rfl))
  exact gRetV X89 H hlk hret d4_44 e89 ⟨b78_0, k78_0, rfl, N89, K_97, sz_b78_0, F89, c91, c92, c93, c94⟩
theorem rm108_3 (B : Bg Z a0 w_Trail_NO_ROOM k_w_Trail_NO_ROOM) (ro0 : Addr) (ro1 : Addr) (ck2 : ClassId) (vi3 : Int32) (h : Heap) (O : Ext Z.heap h) (hp101 : Fld Z h ro0 cs0 "depth" "I" (.int 1)) (hp103 : Fld Z h ro0 cs0 "entries" "[I" (.ref ro1)) (hp107 : Arv Z h ro1 ck2 .int (16 : Int32) [(.int vi3), (.int 0), (.int 0), (.int 0), (.int 0), (.int 0), (.int 0), (.int 0), (.int 0), (.int 0), (.int 0), (.int 0), (.int 0), (.int 0), (.int 0), (.int 0)] (.int 0)) :
    Con l Z yM3 prog_22_method_4_code 1 (some .int) ({ frames := 0, cells := 0, slots := 0, locals := 0 } : Room) #[(.ref ro0)] h (fun v h' L => v = some (.int vi3) ∧ h' = h ∧ L = []) := by
  have hw := B.1
  refine Con.of (plainFor_of_name pn3) (Ls := #[vR ro0]) (fun m => by first | rfl | (simp [entryFrame, mkF, argsToLocals, Value.category]; done)) ?_
  intro p e s m below meth c T0 X0 H hml hZ hown hnm hret hlk e0
  refine gAloadN X0 H d3_0 rfl rfl 1 rfl ?_
  refine gGetF X0 H hZ hown (hw _ wd18) Via.refl e0 hp101 d3_1 4 rfl ?_
  intro T102 X102 e102
  refine gIfY X102 H d3_4 (by decide) (by decide) 11 rfl ?_
  refine gAloadN X102 H d3_11 rfl rfl 12 rfl ?_
  refine gGetF X102 H hZ hown (hw _ wd11) Via.refl e102 hp103 d3_12 15 rfl ?_
  intro T104 X104 e104
  refine gAloadN X104 H d3_15 rfl rfl 16 rfl ?_
  refine gGetF X104 H hZ hown (hw _ wd18) Via.refl e104 hp101 d3_16 19 rfl ?_
  intro T105 X105 e105
  refine gIconst X105 H d3_19 (z := 1) rfl 20 rfl ?_
  refine g_isub X105 H d3_20 (z := 0) (by decide) 21 rfl ?_
  refine gIaload X105 H hZ e105 hp107 ⟨by decide, by decide⟩ (v := (.int vi3)) rfl d3_21 22 rfl ?_
  exact gRetI X105 H hlk hret d3_22 e105 ⟨rfl, rfl, rfl⟩
theorem rm125_10 (B : Bg Z a0 w_Trail_NO_ROOM k_w_Trail_NO_ROOM) (ro0 : Addr) (ro1 : Addr) (h : Heap) (O : Ext Z.heap h) (hp116 : Exa Z h ro0 cs0) (hp117 : Fld Z h ro0 cs0 "depth" "I" (.int 1)) (hp118 : Z.heap.size ≤ ro0) (hp120 : Fld Z h ro0 cs0 "entries" "[I" (.ref ro1)) (hp122 : Fld Z h ro0 cs0 "unchanged" "B" (.int 0)) :
    Con l Z yM10 prog_22_method_8_code 2 none ({ frames := 0, cells := 0, slots := 0, locals := 0 } : Room) #[(.ref ro0), (.int 0)] h (fun v h' L => v = none ∧ Fr Z.heap.size L ∧ Keep h h' [ro0] ∧ Exa Z h' ro0 cs0 ∧ Fld Z h' ro0 cs0 "depth" "I" (.int 0) ∧ Fld Z h' ro0 cs0 "entries" "[I" (.ref ro1) ∧ Fld Z h' ro0 cs0 "unchanged" "B" (.int 0)) := by
  have hw := B.1
  refine Con.of (plainFor_of_name pn10) (Ls := #[vR ro0, vI 0]) (fun m => by first | rfl | (simp [entryFrame, mkF, argsToLocals, Value.category]; done)) ?_
  intro p e s m below meth c T0 X0 H hml hZ hown hnm hret hlk e0
  have N0 := Fr.nil Z.heap.size
  refine gAloadN X0 H d10_0 rfl rfl 1 rfl ?_
  refine gIloadN X0 H d10_1 rfl 2 rfl ?_
  refine gPutF X0 H hZ hown (hw _ wd18) Via.refl e0 hp117 hp116 (Or.inl (hw _ wd19)) (hw _ wd1) (ty := .int) (by decide) (v' := (.int 0)) rfl rfl d10_2 5 rfl ?_
  intro T115 h115 X115 e115 W115 F115
  have O115 := extW O W115 hp118
  have N115 := Fr.snoc X115 N0 hp118
  have c119 := (hp116.wr W115)
  have c121 := (hp120.other W115 (Or.inr (sn2 hw)))
  have c123 := (hp122.other W115 (Or.inr (sn3 hw)))
  have K_124 := (Keep.refl h [ro0]).wr W115 (Or.inl (List.mem_of_getElem? (i := 0) rfl))
  exact gRetV X115 H hlk hret d10_5 e115 ⟨rfl, N115, K_124, c119, F115, c121, c123⟩
theorem rm138_10 (B : Bg Z a0 w_Trail_NO_ROOM k_w_Trail_NO_ROOM) (ro0 : Addr) (ro1 : Addr) (h : Heap) (O : Ext Z.heap h) (hp129 : Exa Z h ro0 cs0) (hp130 : Fld Z h ro0 cs0 "depth" "I" (.int 1)) (hp131 : Z.heap.size ≤ ro0) (hp133 : Fld Z h ro0 cs0 "entries" "[I" (.ref ro1)) (hp135 : Fld Z h ro0 cs0 "unchanged" "B" (.int 0)) :
    Con l Z yM10 prog_22_method_8_code 2 none ({ frames := 0, cells := 0, slots := 0, locals := 0 } : Room) #[(.ref ro0), (.int 1)] h (fun v h' L => v = none ∧ Fr Z.heap.size L ∧ Keep h h' [ro0] ∧ Exa Z h' ro0 cs0 ∧ Fld Z h' ro0 cs0 "depth" "I" (.int 1) ∧ Fld Z h' ro0 cs0 "entries" "[I" (.ref ro1) ∧ Fld Z h' ro0 cs0 "unchanged" "B" (.int 0)) := by
  have hw := B.1
  refine Con.of (plainFor_of_name pn10) (Ls := #[vR ro0, vI 1]) (fun m => by first | rfl | (simp [entryFrame, mkF, argsToLocals, Value.category]; done)) ?_
  intro p e s m below meth c T0 X0 H hml hZ hown hnm hret hlk e0
  have N0 := Fr.nil Z.heap.size
  refine gAloadN X0 H d10_0 rfl rfl 1 rfl ?_
  refine gIloadN X0 H d10_1 rfl 2 rfl ?_
  refine gPutF X0 H hZ hown (hw _ wd18) Via.refl e0 hp130 hp129 (Or.inl (hw _ wd19)) (hw _ wd1) (ty := .int) (by decide) (v' := (.int 1)) rfl rfl d10_2 5 rfl ?_
  intro T128 h128 X128 e128 W128 F128
  have O128 := extW O W128 hp131
  have N128 := Fr.snoc X128 N0 hp131
  have c132 := (hp129.wr W128)
  have c134 := (hp133.other W128 (Or.inr (sn2 hw)))
  have c136 := (hp135.other W128 (Or.inr (sn3 hw)))
  have K_137 := (Keep.refl h [ro0]).wr W128 (Or.inl (List.mem_of_getElem? (i := 0) rfl))
  exact gRetV X128 H hlk hret d10_5 e128 ⟨rfl, N128, K_137, c132, F128, c134, c136⟩
theorem lawAll_1 (B : Bg Z a0 w_Trail_NO_ROOM k_w_Trail_NO_ROOM) (p0 : Int32) (p1 : Int32) (p2 : Int32) (p3 : Int32) (p4 : Int32) (ha0 : (p0 &&& (3 : Int32)) = (1 : Int32)) :
    Con l Z x code maxLocals ret room_1 #[(.int p0), (.int p1), (.int p2), (.int p3), (.int p4)] Z.heap (fun v h' L => v = some (.int 1) ∧ Fr Z.heap.size L) := by
  have hw := B.1
  obtain ⟨S_w_Trail_NO_ROOM, V_w_Trail_NO_ROOM⟩ := B.2
  refine Con.of (plainFor_of_name pn0) (Ls := #[vI p0, vI p1, vI p2, vI p3, vI p4, .unset, .unset, .unset, .unset, .unset]) (fun m => by first | rfl | (simp [entryFrame, mkF, argsToLocals, Value.category, maxLocals]; done)) ?_
  intro p e s m below meth c T0 X0 H hml hZ hown hnm hret hlk e0
  have O0 := extR Z.heap
  have M0 := Nat.le_refl Z.heap.size
  have N0 := Fr.nil Z.heap.size
  refine gIloadN X0 H at_0 rfl 1 rfl ?_
  refine gIconst X0 H at_1 (z := 3) rfl 2 rfl ?_
  refine g_iand X0 H at_2 (z := 1) ha0 3 rfl ?_
  refine gIstore X0 H at_3 (Ls' := #[vI p0, vI p1, vI p2, vI p3, vI p4, vI 1, .unset, .unset, .unset, .unset]) rfl 5 rfl ?_
  refine gIloadN X0 H at_5 rfl 6 rfl ?_
  refine gIconst X0 H at_6 (z := 2) rfl 7 rfl ?_
  refine g_ishr X0 H at_7 (z := (p0 >>> ((2 : Int32) &&& 31))) rfl 8 rfl ?_
  refine gIconst X0 H at_8 (z := 1) rfl 9 rfl ?_
  refine g_iand X0 H at_9 (z := ((p0 >>> ((2 : Int32) &&& 31)) &&& (1 : Int32))) rfl 10 rfl ?_
  by_cases hc37 : ((p0 >>> ((2 : Int32) &&& 31)) &&& (1 : Int32)) = (0 : Int32)
  · refine gIfY X0 H at_10 ((if0 _ _).trans (teq hc37).1) (by decide) 17 rfl ?_
    refine gIconst X0 H at_17 (z := 0) rfl 18 rfl ?_
    refine gIstore X0 H at_18 (Ls' := #[vI p0, vI p1, vI p2, vI p3, vI p4, vI 1, vI 0, .unset, .unset, .unset]) rfl 20 rfl ?_
    refine gNew X0 H hZ hown (hw _ wd0) (hw _ wd1) (hw _ wd2) e0 (by decide) (by decide) at_20 23 rfl ?_
    intro T38 h38 b38 X38 e38 z38 E38 A38 D38
    have G_b38 := Nat.le_trans O0.1 (Nat.le_of_eq z38)
    have sz_b38 := Nat.le_trans M0 (Nat.le_of_eq z38)
    have O38 := extT O0 E38
    have F38_entries : Fld Z h38 b38 cs0 "entries" "[I" .null := D38 (Or.inl (hw _ wd12)) (ty := (.array .int)) (by decide)
    have F38_depth : Fld Z h38 b38 cs0 "depth" "I" (.int 0) := D38 (Or.inl (hw _ wd19)) (ty := .int) (by decide)
    have F38_unchanged : Fld Z h38 b38 cs0 "unchanged" "B" (.int 0) := D38 (Or.inl (hw _ wd50)) (ty := .byte) (by decide)
    refine gDup X38 H at_23 rfl 24 rfl ?_
    refine gSpecial X38 H hZ hown rfl rfl (hw _ wd3) (hw _ wd4) (by decide) (hw _ wd5) (hw _ wd2) (rm15_1 B b38 _ O38 A38 F38_entries G_b38 F38_depth F38_unchanged) e38 hml rfl pd0 rfl (W := 1) (argsL := []) (rest := [(.ref b38)]) rfl rfl at_24 27 rfl ?_
    intro v39 T39 L39 hq39 X39
    obtain ⟨rfl, N39q, K39, f39_0, f39_1, f39_2, f39_3⟩ := hq39
    have O39 := extK O38 K39 (allS G_b38 all0)
    have N39 := Fr.app N0 N39q
    show Go _ _ _ _ (State.setTop _ (mkF _ 27 _ [(.ref b38)]))
    refine gAstore X39 H at_27 rfl (Ls' := #[vI p0, vI p1, vI p2, vI p3, vI p4, vI 1, vI 0, vR b38, .unset, .unset]) rfl 29 rfl ?_
    refine gIload X39 H at_29 rfl 31 rfl ?_
    refine gIconst X39 H at_31 (z := 1) rfl 32 rfl ?_
    refine gCmpN X39 H at_32 (by decide) 35 rfl ?_
    refine gAload X39 H at_35 rfl rfl 37 rfl ?_
    refine gIloadN X39 H at_37 rfl 38 rfl ?_
    refine gVirt X39 H hZ hown (hw _ wd20) (hw _ wd21) (hw _ wd23) (hw _ wd22) (by decide) f39_0 (hw _ wd24) (hw _ wd2) (rm98_4 B b38 p1 _ O39 f39_2 f39_1 f39_0 G_b38 f39_3) rfl hml rfl pd2 rfl (W := 0) (argsL := [(.int p1)]) (rest := []) rfl rfl at_38 41 rfl ?_
    intro v99 T99 L99 hq99 X99
    obtain ⟨b99_0, k99_0, rfl, N99q, K99, s99_0, f99_0, f99_1, f99_2, f99_3, f99_4⟩ := hq99
    have M100 := (Nat.le_trans (Nat.le_trans M0 E38.1) K39.1)
    have G_b99_0 := Nat.le_trans O39.1 s99_0
    have sz_b99_0 := Nat.le_trans M100 s99_0
    have ne_b38_b99_0 : b38 ≠ b99_0 := neB f39_0.lt s99_0
    have O99 := extK O39 K99 (allS G_b38 all0)
    have N99 := Fr.app N39 N99q
    show Go _ _ _ _ (State.setTop _ (mkF _ 41 _ []))
    refine gIload X99 H at_41 rfl 43 rfl ?_
    refine gIconst X99 H at_43 (z := 2) rfl 44 rfl ?_
    refine gCmpY X99 H at_44 (by decide) (by decide) 53 rfl ?_
    refine gIload X99 H at_53 rfl 55 rfl ?_
    refine gIconst X99 H at_55 (z := 3) rfl 56 rfl ?_
    refine gCmpY X99 H at_56 (by decide) (by decide) 65 rfl ?_
    refine gIload X99 H at_65 rfl 67 rfl ?_
    refine gIstore X99 H at_67 (Ls' := #[vI p0, vI p1, vI p2, vI p3, vI p4, vI 1, vI 0, vR b38, vI 1, .unset]) rfl 69 rfl ?_
    refine gIload X99 H at_69 rfl 71 rfl ?_
    refine gIfY X99 H at_71 (by decide) (by decide) 93 rfl ?_
    refine gIload X99 H at_93 rfl 95 rfl ?_
    refine gIfY X99 H at_95 (by decide) (by decide) 104 rfl ?_
    refine gIload X99 H at_104 rfl 106 rfl ?_
    refine gIconst X99 H at_106 (z := 1) rfl 107 rfl ?_
    refine gCmpN X99 H at_107 (by decide) 110 rfl ?_
    refine gIloadN X99 H at_110 rfl 111 rfl ?_
    refine gIstore X99 H at_111 (Ls' := #[vI p0, vI p1, vI p2, vI p3, vI p4, vI 1, vI 0, vR b38, vI 1, vI p1]) rfl 113 rfl ?_
    refine gGoto X99 H at_113 (by decide) 131 rfl ?_
    refine gAload X99 H at_131 rfl rfl 133 rfl ?_
    refine gVirt X99 H hZ hown (hw _ wd13) (hw _ wd14) (hw _ wd16) (hw _ wd15) (by decide) f99_2 (hw _ wd17) (hw _ wd2) (rm108_3 B b38 b99_0 k99_0 p1 _ O99 f99_0 f99_1 f99_4) rfl hml rfl pd1 rfl (W := 0) (argsL := []) (rest := []) rfl rfl at_133 136 rfl ?_
    intro v109 T109 L109 hq109 X109
    obtain ⟨rfl, e109, rfl⟩ := hq109
    have N109 := Fr.app N99 (Fr.nil _)
    show Go _ _ _ _ (State.setTop _ (mkF _ 136 _ [(.int p1)]))
    refine gIload X109 H at_136 rfl 138 rfl ?_
    refine gCmpN X109 H at_138 (teq rfl).2 141 rfl ?_
    refine gIconst X109 H at_141 (z := 1) rfl 142 rfl ?_
    refine gGoto X109 H at_142 (by decide) 146 rfl ?_
    exact gRetN X109 H hlk hret (t := .boolean) (by simp) at_146 e109 ⟨rfl, N109⟩
  · refine gIfN X0 H at_10 ((if0 _ _).trans (feq hc37).1) 13 rfl ?_
    refine gIconst X0 H at_13 (z := 1) rfl 14 rfl ?_
    refine gGoto X0 H at_14 (by decide) 18 rfl ?_
    refine gIstore X0 H at_18 (Ls' := #[vI p0, vI p1, vI p2, vI p3, vI p4, vI 1, vI 1, .unset, .unset, .unset]) rfl 20 rfl ?_
    refine gNew X0 H hZ hown (hw _ wd0) (hw _ wd1) (hw _ wd2) e0 (by decide) (by decide) at_20 23 rfl ?_
    intro T110 h110 b110 X110 e110 z110 E110 A110 D110
    have G_b110 := Nat.le_trans O0.1 (Nat.le_of_eq z110)
    have sz_b110 := Nat.le_trans M0 (Nat.le_of_eq z110)
    have O110 := extT O0 E110
    have F110_entries : Fld Z h110 b110 cs0 "entries" "[I" .null := D110 (Or.inl (hw _ wd12)) (ty := (.array .int)) (by decide)
    have F110_depth : Fld Z h110 b110 cs0 "depth" "I" (.int 0) := D110 (Or.inl (hw _ wd19)) (ty := .int) (by decide)
    have F110_unchanged : Fld Z h110 b110 cs0 "unchanged" "B" (.int 0) := D110 (Or.inl (hw _ wd50)) (ty := .byte) (by decide)
    refine gDup X110 H at_23 rfl 24 rfl ?_
    refine gSpecial X110 H hZ hown rfl rfl (hw _ wd3) (hw _ wd4) (by decide) (hw _ wd5) (hw _ wd2) (rm15_1 B b110 _ O110 A110 F110_entries G_b110 F110_depth F110_unchanged) e110 hml rfl pd0 rfl (W := 1) (argsL := []) (rest := [(.ref b110)]) rfl rfl at_24 27 rfl ?_
    intro v111 T111 L111 hq111 X111
    obtain ⟨rfl, N111q, K111, f111_0, f111_1, f111_2, f111_3⟩ := hq111
    have O111 := extK O110 K111 (allS G_b110 all0)
    have N111 := Fr.app N0 N111q
    show Go _ _ _ _ (State.setTop _ (mkF _ 27 _ [(.ref b110)]))
    refine gAstore X111 H at_27 rfl (Ls' := #[vI p0, vI p1, vI p2, vI p3, vI p4, vI 1, vI 1, vR b110, .unset, .unset]) rfl 29 rfl ?_
    refine gIload X111 H at_29 rfl 31 rfl ?_
    refine gIconst X111 H at_31 (z := 1) rfl 32 rfl ?_
    refine gCmpN X111 H at_32 (by decide) 35 rfl ?_
    refine gAload X111 H at_35 rfl rfl 37 rfl ?_
    refine gIloadN X111 H at_37 rfl 38 rfl ?_
    refine gVirt X111 H hZ hown (hw _ wd20) (hw _ wd21) (hw _ wd23) (hw _ wd22) (by decide) f111_0 (hw _ wd24) (hw _ wd2) (rm98_4 B b110 p1 _ O111 f111_2 f111_1 f111_0 G_b110 f111_3) rfl hml rfl pd2 rfl (W := 0) (argsL := [(.int p1)]) (rest := []) rfl rfl at_38 41 rfl ?_
    intro v112 T112 L112 hq112 X112
    obtain ⟨b112_0, k112_0, rfl, N112q, K112, s112_0, f112_0, f112_1, f112_2, f112_3, f112_4⟩ := hq112
    have M113 := (Nat.le_trans (Nat.le_trans M0 E110.1) K111.1)
    have G_b112_0 := Nat.le_trans O111.1 s112_0
    have sz_b112_0 := Nat.le_trans M113 s112_0
    have ne_b110_b112_0 : b110 ≠ b112_0 := neB f111_0.lt s112_0
    have O112 := extK O111 K112 (allS G_b110 all0)
    have N112 := Fr.app N111 N112q
    show Go _ _ _ _ (State.setTop _ (mkF _ 41 _ []))
    refine gIload X112 H at_41 rfl 43 rfl ?_
    refine gIconst X112 H at_43 (z := 2) rfl 44 rfl ?_
    refine gCmpY X112 H at_44 (by decide) (by decide) 53 rfl ?_
    refine gIload X112 H at_53 rfl 55 rfl ?_
    refine gIconst X112 H at_55 (z := 3) rfl 56 rfl ?_
    refine gCmpY X112 H at_56 (by decide) (by decide) 65 rfl ?_
    refine gIload X112 H at_65 rfl 67 rfl ?_
    refine gIstore X112 H at_67 (Ls' := #[vI p0, vI p1, vI p2, vI p3, vI p4, vI 1, vI 1, vR b110, vI 1, .unset]) rfl 69 rfl ?_
    refine gIload X112 H at_69 rfl 71 rfl ?_
    refine gIfN X112 H at_71 (by decide) 74 rfl ?_
    refine gIload X112 H at_74 rfl 76 rfl ?_
    refine gLdc X112 H hZ hown (hw _ wd51) at_76 78 rfl ?_
    refine g_iand X112 H at_78 (z := (p4 &&& (2147483647 : Int32))) rfl 79 rfl ?_
    refine gIload X112 H at_79 rfl 81 rfl ?_
    refine gIconst X112 H at_81 (z := 1) rfl 82 rfl ?_
    refine g_iadd X112 H at_82 (z := 2) (by decide) 83 rfl ?_
    rcases mod_2 p4 with hn114 | hn114
    · refine g_irem X112 H at_83 (by decide) (z := 0) hn114 84 rfl ?_
      refine gIstore X112 H at_84 (Ls' := #[vI p0, vI p1, vI p2, vI p3, vI p4, vI 1, vI 1, vR b110, vI 0, .unset]) rfl 86 rfl ?_
      refine gAload X112 H at_86 rfl rfl 88 rfl ?_
      refine gIload X112 H at_88 rfl 90 rfl ?_
      refine gVirt X112 H hZ hown (hw _ wd52) (hw _ wd53) (hw _ wd55) (hw _ wd54) (by decide) f112_2 (hw _ wd56) (hw _ wd2) (rm125_10 B b110 b112_0 _ O112 f112_2 f112_0 G_b110 f112_1 f112_3) rfl hml rfl pd2 rfl (W := 0) (argsL := [(.int 0)]) (rest := []) rfl rfl at_90 93 rfl ?_
      intro v126 T126 L126 hq126 X126
      obtain ⟨rfl, N126q, K126, f126_0, f126_1, f126_2, f126_3⟩ := hq126
      have O126 := extK O112 K126 (allS G_b110 all0)
      have N126 := Fr.app N112 N126q
      show Go _ _ _ _ (State.setTop _ (mkF _ 93 _ []))
      refine gIload X126 H at_93 rfl 95 rfl ?_
      refine gIfN X126 H at_95 (by decide) 98 rfl ?_
      refine gIconst X126 H at_98 (z := (-1)) rfl 99 rfl ?_
      refine gIstore X126 H at_99 (Ls' := #[vI p0, vI p1, vI p2, vI p3, vI p4, vI 1, vI 1, vR b110, vI 0, vI (-1)]) rfl 101 rfl ?_
      refine gGoto X126 H at_101 (by decide) 131 rfl ?_
      refine gAload X126 H at_131 rfl rfl 133 rfl ?_
      refine gVirt X126 H hZ hown (hw _ wd13) (hw _ wd14) (hw _ wd16) (hw _ wd15) (by decide) f126_0 (hw _ wd17) (hw _ wd2) (rm19_3 B b110 _ O126 f126_1) rfl hml rfl pd1 rfl (W := 0) (argsL := []) (rest := []) rfl rfl at_133 136 rfl ?_
      intro v127 T127 L127 hq127 X127
      obtain ⟨rfl, e127, rfl⟩ := hq127
      have N127 := Fr.app N126 (Fr.nil _)
      show Go _ _ _ _ (State.setTop _ (mkF _ 136 _ [(.int (-1))]))
      refine gIload X127 H at_136 rfl 138 rfl ?_
      refine gCmpN X127 H at_138 (by decide) 141 rfl ?_
      refine gIconst X127 H at_141 (z := 1) rfl 142 rfl ?_
      refine gGoto X127 H at_142 (by decide) 146 rfl ?_
      exact gRetN X127 H hlk hret (t := .boolean) (by simp) at_146 e127 ⟨rfl, N127⟩
    · refine g_irem X112 H at_83 (by decide) (z := 1) hn114 84 rfl ?_
      refine gIstore X112 H at_84 (Ls' := #[vI p0, vI p1, vI p2, vI p3, vI p4, vI 1, vI 1, vR b110, vI 1, .unset]) rfl 86 rfl ?_
      refine gAload X112 H at_86 rfl rfl 88 rfl ?_
      refine gIload X112 H at_88 rfl 90 rfl ?_
      refine gVirt X112 H hZ hown (hw _ wd52) (hw _ wd53) (hw _ wd55) (hw _ wd54) (by decide) f112_2 (hw _ wd56) (hw _ wd2) (rm138_10 B b110 b112_0 _ O112 f112_2 f112_0 G_b110 f112_1 f112_3) rfl hml rfl pd2 rfl (W := 0) (argsL := [(.int 1)]) (rest := []) rfl rfl at_90 93 rfl ?_
      intro v139 T139 L139 hq139 X139
      obtain ⟨rfl, N139q, K139, f139_0, f139_1, f139_2, f139_3⟩ := hq139
      have O139 := extK O112 K139 (allS G_b110 all0)
      have N139 := Fr.app N112 N139q
      show Go _ _ _ _ (State.setTop _ (mkF _ 93 _ []))
      refine gIload X139 H at_93 rfl 95 rfl ?_
      refine gIfY X139 H at_95 (by decide) (by decide) 104 rfl ?_
      refine gIload X139 H at_104 rfl 106 rfl ?_
      refine gIconst X139 H at_106 (z := 1) rfl 107 rfl ?_
      refine gCmpN X139 H at_107 (by decide) 110 rfl ?_
      refine gIloadN X139 H at_110 rfl 111 rfl ?_
      refine gIstore X139 H at_111 (Ls' := #[vI p0, vI p1, vI p2, vI p3, vI p4, vI 1, vI 1, vR b110, vI 1, vI p1]) rfl 113 rfl ?_
      refine gGoto X139 H at_113 (by decide) 131 rfl ?_
      refine gAload X139 H at_131 rfl rfl 133 rfl ?_
      have c140 := (f112_4.keep K139 (ninS (Ne.symm ne_b110_b112_0) nin0))
      refine gVirt X139 H hZ hown (hw _ wd13) (hw _ wd14) (hw _ wd16) (hw _ wd15) (by decide) f139_0 (hw _ wd17) (hw _ wd2) (rm108_3 B b110 b112_0 k112_0 p1 _ O139 f139_1 f139_2 c140) rfl hml rfl pd1 rfl (W := 0) (argsL := []) (rest := []) rfl rfl at_133 136 rfl ?_
      intro v141 T141 L141 hq141 X141
      obtain ⟨rfl, e141, rfl⟩ := hq141
      have N141 := Fr.app N139 (Fr.nil _)
      show Go _ _ _ _ (State.setTop _ (mkF _ 136 _ [(.int p1)]))
      refine gIload X141 H at_136 rfl 138 rfl ?_
      refine gCmpN X141 H at_138 (teq rfl).2 141 rfl ?_
      refine gIconst X141 H at_141 (z := 1) rfl 142 rfl ?_
      refine gGoto X141 H at_142 (by decide) 146 rfl ?_
      exact gRetN X141 H hlk hret (t := .boolean) (by simp) at_146 e141 ⟨rfl, N141⟩
theorem rm157_9 (B : Bg Z a0 w_Trail_NO_ROOM k_w_Trail_NO_ROOM) (ro0 : Addr) (h : Heap) (O : Ext Z.heap h) (hp155 : Fld Z h ro0 cs0 "unchanged" "B" (.int 0)) :
    Con l Z yM9 prog_22_method_15_code 2 none ({ frames := 0, cells := 0, slots := 0, locals := 0 } : Room) #[(.ref ro0), (.int 1)] h (fun v h' L => v = none ∧ h' = h ∧ L = []) := by
  have hw := B.1
  refine Con.of (plainFor_of_name pn9) (Ls := #[vR ro0, vI 1]) (fun m => by first | rfl | (simp [entryFrame, mkF, argsToLocals, Value.category]; done)) ?_
  intro p e s m below meth c T0 X0 H hml hZ hown hnm hret hlk e0
  refine gIloadN X0 H d9_0 rfl 1 rfl ?_
  refine gAloadN X0 H d9_1 rfl rfl 2 rfl ?_
  refine gGetF X0 H hZ hown (hw _ wd49) Via.refl e0 hp155 d9_2 5 rfl ?_
  intro T156 X156 e156
  refine gCmpY X156 H d9_5 (by decide) (by decide) 14 rfl ?_
  exact gRetV X156 H hlk hret d9_14 e156 ⟨rfl, rfl, rfl⟩
theorem rm177_4 (B : Bg Z a0 w_Trail_NO_ROOM k_w_Trail_NO_ROOM) (ro0 : Addr) (vi1 : Int32) (ro2 : Addr) (ck3 : ClassId) (vi4 : Int32) (h : Heap) (O : Ext Z.heap h) (hp147 : Fld Z h ro0 cs0 "depth" "I" (.int 1)) (hp149 : Fld Z h ro0 cs0 "entries" "[I" (.ref ro2)) (hp152 : Arl Z h ro2 (16 : Int32)) (hp154 : Exa Z h ro0 cs0) (hp158 : Fld Z h ro0 cs0 "unchanged" "B" (.int 0)) (hp163 : Arv Z h ro2 ck3 .int (16 : Int32) [(.int vi4), (.int 0), (.int 0), (.int 0), (.int 0), (.int 0), (.int 0), (.int 0), (.int 0), (.int 0), (.int 0), (.int 0), (.int 0), (.int 0), (.int 0), (.int 0)] (.int 0)) (hp164 : Z.heap.size ≤ ro2) (hp165 : ro0 ≠ ro2) (hp170 : Z.heap.size ≤ ro0) :
    Con l Z yM4 prog_22_method_6_code 2 none ({ frames := 1, cells := 0, slots := 0, locals := 13 } : Room) #[(.ref ro0), (.int vi1)] h (fun v h' L => v = none ∧ Fr Z.heap.size L ∧ Keep h h' [ro2, ro0] ∧ Fld Z h' ro0 cs0 "depth" "I" (.int 2) ∧ Fld Z h' ro0 cs0 "entries" "[I" (.ref ro2) ∧ Exa Z h' ro0 cs0 ∧ Fld Z h' ro0 cs0 "unchanged" "B" (.int 0) ∧ Arv Z h' ro2 ck3 .int (16 : Int32) [(.int vi4), (.int vi1), (.int 0), (.int 0), (.int 0), (.int 0), (.int 0), (.int 0), (.int 0), (.int 0), (.int 0), (.int 0), (.int 0), (.int 0), (.int 0), (.int 0)] (.int 0)) := by
  have hw := B.1
  refine Con.of (plainFor_of_name pn4) (Ls := #[vR ro0, vI vi1]) (fun m => by first | rfl | (simp [entryFrame, mkF, argsToLocals, Value.category]; done)) ?_
  intro p e s m below meth c T0 X0 H hml hZ hown hnm hret hlk e0
  have N0 := Fr.nil Z.heap.size
  refine gAloadN X0 H d4_0 rfl rfl 1 rfl ?_
  refine gGetF X0 H hZ hown (hw _ wd18) Via.refl e0 hp147 d4_1 4 rfl ?_
  intro T148 X148 e148
  refine gAloadN X148 H d4_4 rfl rfl 5 rfl ?_
  refine gGetF X148 H hZ hown (hw _ wd11) Via.refl e148 hp149 d4_5 8 rfl ?_
  intro T150 X150 e150
  refine gLen X150 H hZ e150 hp152 d4_8 9 rfl ?_
  refine gCmpY X150 H d4_9 (by decide) (by decide) 16 rfl ?_
  refine gAloadN X150 H d4_16 rfl rfl 17 rfl ?_
  refine gAloadN X150 H d4_17 rfl rfl 18 rfl ?_
  refine gGetF X150 H hZ hown (hw _ wd18) Via.refl e150 hp147 d4_18 21 rfl ?_
  intro T153 X153 e153
  refine gPrivate X153 H hZ hown (hw _ wd45) (hw _ wd46) (hw _ wd47) (hw _ wd1) (by decide) hp154 (hw _ wd48) (hw _ wd2) (rm157_9 B ro0 _ O hp158) e153 hml rfl pd2 rfl (W := 0) (argsL := [(.int 1)]) (rest := []) rfl rfl d4_21 24 rfl ?_
  intro v159 T159 L159 hq159 X159
  obtain ⟨rfl, e159, rfl⟩ := hq159
  have N159 := Fr.app N0 (Fr.nil _)
  show Go _ _ _ _ (State.setTop _ (mkF _ 24 _ []))
  refine gAloadN X159 H d4_24 rfl rfl 25 rfl ?_
  refine gGetF X159 H hZ hown (hw _ wd11) Via.refl e159 hp149 d4_25 28 rfl ?_
  intro T160 X160 e160
  refine gAloadN X160 H d4_28 rfl rfl 29 rfl ?_
  refine gGetF X160 H hZ hown (hw _ wd18) Via.refl e160 hp147 d4_29 32 rfl ?_
  intro T161 X161 e161
  refine gIloadN X161 H d4_32 rfl 33 rfl ?_
  refine gIastore X161 H hZ e161 hp163 ⟨by decide, by decide⟩ (i := 1) rfl (Nat.le_of_ble_eq_true rfl) (vs' := [(.int vi4), (.int vi1), (.int 0), (.int 0), (.int 0), (.int 0), (.int 0), (.int 0), (.int 0), (.int 0), (.int 0), (.int 0), (.int 0), (.int 0), (.int 0), (.int 0)]) rfl d4_33 34 rfl ?_
  intro T162 h162 X162 e162 W162 V162
  have O162 := extW O W162 hp164
  have N162 := Fr.snoc X162 N159 hp164
  refine gAloadN X162 H d4_34 rfl rfl 35 rfl ?_
  refine gDup X162 H d4_35 rfl 36 rfl ?_
  have c166 := (hp147.other W162 (Or.inl hp165))
  refine gGetF X162 H hZ hown (hw _ wd18) Via.refl e162 c166 d4_36 39 rfl ?_
  intro T167 X167 e167
  refine gIconst X167 H d4_39 (z := 1) rfl 40 rfl ?_
  refine g_iadd X167 H d4_40 (z := 2) (by decide) 41 rfl ?_
  have c169 := (hp154.wr W162)
  refine gPutF X167 H hZ hown (hw _ wd18) Via.refl e167 c166 c169 (Or.inl (hw _ wd19)) (hw _ wd1) (ty := .int) (by decide) (v' := (.int 2)) rfl rfl d4_41 44 rfl ?_
  intro T168 h168 X168 e168 W168 F168
  have O168 := extW O162 W168 hp170
  have N168 := Fr.snoc X168 N162 hp170
  have c171 := (V162.other W168 (Ne.symm hp165))
  have c172 := ((hp149.other W162 (Or.inl hp165)).other W168 (Or.inr (sn2 hw)))
  have c173 := (c169.wr W168)
  have c174 := ((hp158.other W162 (Or.inl hp165)).other W168 (Or.inr (sn3 hw)))
  have K_175 := (Keep.refl h [ro2, ro0]).wr W162 (Or.inl (List.mem_of_getElem? (i := 0) rfl))
  have K_176 := K_175.wr W168 (Or.inl (List.mem_of_getElem? (i := 1) rfl))
  exact gRetV X168 H hlk hret d4_44 e168 ⟨rfl, N168, K_176, F168, c172, c173, c174, c171⟩
theorem rm186_3 (B : Bg Z a0 w_Trail_NO_ROOM k_w_Trail_NO_ROOM) (ro0 : Addr) (ro1 : Addr) (ck2 : ClassId) (vi3 : Int32) (vi4 : Int32) (h : Heap) (O : Ext Z.heap h) (hp179 : Fld Z h ro0 cs0 "depth" "I" (.int 2)) (hp181 : Fld Z h ro0 cs0 "entries" "[I" (.ref ro1)) (hp185 : Arv Z h ro1 ck2 .int (16 : Int32) [(.int vi3), (.int vi4), (.int 0), (.int 0), (.int 0), (.int 0), (.int 0), (.int 0), (.int 0), (.int 0), (.int 0), (.int 0), (.int 0), (.int 0), (.int 0), (.int 0)] (.int 0)) :
    Con l Z yM3 prog_22_method_4_code 1 (some .int) ({ frames := 0, cells := 0, slots := 0, locals := 0 } : Room) #[(.ref ro0)] h (fun v h' L => v = some (.int vi4) ∧ h' = h ∧ L = []) := by
  have hw := B.1
  refine Con.of (plainFor_of_name pn3) (Ls := #[vR ro0]) (fun m => by first | rfl | (simp [entryFrame, mkF, argsToLocals, Value.category]; done)) ?_
  intro p e s m below meth c T0 X0 H hml hZ hown hnm hret hlk e0
  refine gAloadN X0 H d3_0 rfl rfl 1 rfl ?_
  refine gGetF X0 H hZ hown (hw _ wd18) Via.refl e0 hp179 d3_1 4 rfl ?_
  intro T180 X180 e180
  refine gIfY X180 H d3_4 (by decide) (by decide) 11 rfl ?_
  refine gAloadN X180 H d3_11 rfl rfl 12 rfl ?_
  refine gGetF X180 H hZ hown (hw _ wd11) Via.refl e180 hp181 d3_12 15 rfl ?_
  intro T182 X182 e182
  refine gAloadN X182 H d3_15 rfl rfl 16 rfl ?_
  refine gGetF X182 H hZ hown (hw _ wd18) Via.refl e182 hp179 d3_16 19 rfl ?_
  intro T183 X183 e183
  refine gIconst X183 H d3_19 (z := 1) rfl 20 rfl ?_
  refine g_isub X183 H d3_20 (z := 1) (by decide) 21 rfl ?_
  refine gIaload X183 H hZ e183 hp185 ⟨by decide, by decide⟩ (v := (.int vi4)) rfl d3_21 22 rfl ?_
  exact gRetI X183 H hlk hret d3_22 e183 ⟨rfl, rfl, rfl⟩
theorem rm204_10 (B : Bg Z a0 w_Trail_NO_ROOM k_w_Trail_NO_ROOM) (ro0 : Addr) (ro1 : Addr) (h : Heap) (O : Ext Z.heap h) (hp195 : Exa Z h ro0 cs0) (hp196 : Fld Z h ro0 cs0 "depth" "I" (.int 2)) (hp197 : Z.heap.size ≤ ro0) (hp199 : Fld Z h ro0 cs0 "entries" "[I" (.ref ro1)) (hp201 : Fld Z h ro0 cs0 "unchanged" "B" (.int 0)) :
    Con l Z yM10 prog_22_method_8_code 2 none ({ frames := 0, cells := 0, slots := 0, locals := 0 } : Room) #[(.ref ro0), (.int 0)] h (fun v h' L => v = none ∧ Fr Z.heap.size L ∧ Keep h h' [ro0] ∧ Exa Z h' ro0 cs0 ∧ Fld Z h' ro0 cs0 "depth" "I" (.int 0) ∧ Fld Z h' ro0 cs0 "entries" "[I" (.ref ro1) ∧ Fld Z h' ro0 cs0 "unchanged" "B" (.int 0)) := by
  have hw := B.1
  refine Con.of (plainFor_of_name pn10) (Ls := #[vR ro0, vI 0]) (fun m => by first | rfl | (simp [entryFrame, mkF, argsToLocals, Value.category]; done)) ?_
  intro p e s m below meth c T0 X0 H hml hZ hown hnm hret hlk e0
  have N0 := Fr.nil Z.heap.size
  refine gAloadN X0 H d10_0 rfl rfl 1 rfl ?_
  refine gIloadN X0 H d10_1 rfl 2 rfl ?_
  refine gPutF X0 H hZ hown (hw _ wd18) Via.refl e0 hp196 hp195 (Or.inl (hw _ wd19)) (hw _ wd1) (ty := .int) (by decide) (v' := (.int 0)) rfl rfl d10_2 5 rfl ?_
  intro T194 h194 X194 e194 W194 F194
  have O194 := extW O W194 hp197
  have N194 := Fr.snoc X194 N0 hp197
  have c198 := (hp195.wr W194)
  have c200 := (hp199.other W194 (Or.inr (sn2 hw)))
  have c202 := (hp201.other W194 (Or.inr (sn3 hw)))
  have K_203 := (Keep.refl h [ro0]).wr W194 (Or.inl (List.mem_of_getElem? (i := 0) rfl))
  exact gRetV X194 H hlk hret d10_5 e194 ⟨rfl, N194, K_203, c198, F194, c200, c202⟩
theorem rm217_10 (B : Bg Z a0 w_Trail_NO_ROOM k_w_Trail_NO_ROOM) (ro0 : Addr) (ro1 : Addr) (h : Heap) (O : Ext Z.heap h) (hp208 : Exa Z h ro0 cs0) (hp209 : Fld Z h ro0 cs0 "depth" "I" (.int 2)) (hp210 : Z.heap.size ≤ ro0) (hp212 : Fld Z h ro0 cs0 "entries" "[I" (.ref ro1)) (hp214 : Fld Z h ro0 cs0 "unchanged" "B" (.int 0)) :
    Con l Z yM10 prog_22_method_8_code 2 none ({ frames := 0, cells := 0, slots := 0, locals := 0 } : Room) #[(.ref ro0), (.int 1)] h (fun v h' L => v = none ∧ Fr Z.heap.size L ∧ Keep h h' [ro0] ∧ Exa Z h' ro0 cs0 ∧ Fld Z h' ro0 cs0 "depth" "I" (.int 1) ∧ Fld Z h' ro0 cs0 "entries" "[I" (.ref ro1) ∧ Fld Z h' ro0 cs0 "unchanged" "B" (.int 0)) := by
  have hw := B.1
  refine Con.of (plainFor_of_name pn10) (Ls := #[vR ro0, vI 1]) (fun m => by first | rfl | (simp [entryFrame, mkF, argsToLocals, Value.category]; done)) ?_
  intro p e s m below meth c T0 X0 H hml hZ hown hnm hret hlk e0
  have N0 := Fr.nil Z.heap.size
  refine gAloadN X0 H d10_0 rfl rfl 1 rfl ?_
  refine gIloadN X0 H d10_1 rfl 2 rfl ?_
  refine gPutF X0 H hZ hown (hw _ wd18) Via.refl e0 hp209 hp208 (Or.inl (hw _ wd19)) (hw _ wd1) (ty := .int) (by decide) (v' := (.int 1)) rfl rfl d10_2 5 rfl ?_
  intro T207 h207 X207 e207 W207 F207
  have O207 := extW O W207 hp210
  have N207 := Fr.snoc X207 N0 hp210
  have c211 := (hp208.wr W207)
  have c213 := (hp212.other W207 (Or.inr (sn2 hw)))
  have c215 := (hp214.other W207 (Or.inr (sn3 hw)))
  have K_216 := (Keep.refl h [ro0]).wr W207 (Or.inl (List.mem_of_getElem? (i := 0) rfl))
  exact gRetV X207 H hlk hret d10_5 e207 ⟨rfl, N207, K_216, c211, F207, c213, c215⟩
theorem rm226_3 (B : Bg Z a0 w_Trail_NO_ROOM k_w_Trail_NO_ROOM) (ro0 : Addr) (ro1 : Addr) (ck2 : ClassId) (vi3 : Int32) (vi4 : Int32) (h : Heap) (O : Ext Z.heap h) (hp219 : Fld Z h ro0 cs0 "depth" "I" (.int 1)) (hp221 : Fld Z h ro0 cs0 "entries" "[I" (.ref ro1)) (hp225 : Arv Z h ro1 ck2 .int (16 : Int32) [(.int vi3), (.int vi4), (.int 0), (.int 0), (.int 0), (.int 0), (.int 0), (.int 0), (.int 0), (.int 0), (.int 0), (.int 0), (.int 0), (.int 0), (.int 0), (.int 0)] (.int 0)) :
    Con l Z yM3 prog_22_method_4_code 1 (some .int) ({ frames := 0, cells := 0, slots := 0, locals := 0 } : Room) #[(.ref ro0)] h (fun v h' L => v = some (.int vi3) ∧ h' = h ∧ L = []) := by
  have hw := B.1
  refine Con.of (plainFor_of_name pn3) (Ls := #[vR ro0]) (fun m => by first | rfl | (simp [entryFrame, mkF, argsToLocals, Value.category]; done)) ?_
  intro p e s m below meth c T0 X0 H hml hZ hown hnm hret hlk e0
  refine gAloadN X0 H d3_0 rfl rfl 1 rfl ?_
  refine gGetF X0 H hZ hown (hw _ wd18) Via.refl e0 hp219 d3_1 4 rfl ?_
  intro T220 X220 e220
  refine gIfY X220 H d3_4 (by decide) (by decide) 11 rfl ?_
  refine gAloadN X220 H d3_11 rfl rfl 12 rfl ?_
  refine gGetF X220 H hZ hown (hw _ wd11) Via.refl e220 hp221 d3_12 15 rfl ?_
  intro T222 X222 e222
  refine gAloadN X222 H d3_15 rfl rfl 16 rfl ?_
  refine gGetF X222 H hZ hown (hw _ wd18) Via.refl e222 hp219 d3_16 19 rfl ?_
  intro T223 X223 e223
  refine gIconst X223 H d3_19 (z := 1) rfl 20 rfl ?_
  refine g_isub X223 H d3_20 (z := 0) (by decide) 21 rfl ?_
  refine gIaload X223 H hZ e223 hp225 ⟨by decide, by decide⟩ (v := (.int vi3)) rfl d3_21 22 rfl ?_
  exact gRetI X223 H hlk hret d3_22 e223 ⟨rfl, rfl, rfl⟩
theorem rm239_10 (B : Bg Z a0 w_Trail_NO_ROOM k_w_Trail_NO_ROOM) (ro0 : Addr) (ro1 : Addr) (h : Heap) (O : Ext Z.heap h) (hp230 : Exa Z h ro0 cs0) (hp231 : Fld Z h ro0 cs0 "depth" "I" (.int 2)) (hp232 : Z.heap.size ≤ ro0) (hp234 : Fld Z h ro0 cs0 "entries" "[I" (.ref ro1)) (hp236 : Fld Z h ro0 cs0 "unchanged" "B" (.int 0)) :
    Con l Z yM10 prog_22_method_8_code 2 none ({ frames := 0, cells := 0, slots := 0, locals := 0 } : Room) #[(.ref ro0), (.int 2)] h (fun v h' L => v = none ∧ Fr Z.heap.size L ∧ Keep h h' [ro0] ∧ Exa Z h' ro0 cs0 ∧ Fld Z h' ro0 cs0 "depth" "I" (.int 2) ∧ Fld Z h' ro0 cs0 "entries" "[I" (.ref ro1) ∧ Fld Z h' ro0 cs0 "unchanged" "B" (.int 0)) := by
  have hw := B.1
  refine Con.of (plainFor_of_name pn10) (Ls := #[vR ro0, vI 2]) (fun m => by first | rfl | (simp [entryFrame, mkF, argsToLocals, Value.category]; done)) ?_
  intro p e s m below meth c T0 X0 H hml hZ hown hnm hret hlk e0
  have N0 := Fr.nil Z.heap.size
  refine gAloadN X0 H d10_0 rfl rfl 1 rfl ?_
  refine gIloadN X0 H d10_1 rfl 2 rfl ?_
  refine gPutF X0 H hZ hown (hw _ wd18) Via.refl e0 hp231 hp230 (Or.inl (hw _ wd19)) (hw _ wd1) (ty := .int) (by decide) (v' := (.int 2)) rfl rfl d10_2 5 rfl ?_
  intro T229 h229 X229 e229 W229 F229
  have O229 := extW O W229 hp232
  have N229 := Fr.snoc X229 N0 hp232
  have c233 := (hp230.wr W229)
  have c235 := (hp234.other W229 (Or.inr (sn2 hw)))
  have c237 := (hp236.other W229 (Or.inr (sn3 hw)))
  have K_238 := (Keep.refl h [ro0]).wr W229 (Or.inl (List.mem_of_getElem? (i := 0) rfl))
  exact gRetV X229 H hlk hret d10_5 e229 ⟨rfl, N229, K_238, c233, F229, c235, c237⟩
theorem lawAll_2 (B : Bg Z a0 w_Trail_NO_ROOM k_w_Trail_NO_ROOM) (p0 : Int32) (p1 : Int32) (p2 : Int32) (p3 : Int32) (p4 : Int32) (ha0 : (p0 &&& (3 : Int32)) = (2 : Int32)) :
    Con l Z x code maxLocals ret room_1 #[(.int p0), (.int p1), (.int p2), (.int p3), (.int p4)] Z.heap (fun v h' L => v = some (.int 1) ∧ Fr Z.heap.size L) := by
  have hw := B.1
  obtain ⟨S_w_Trail_NO_ROOM, V_w_Trail_NO_ROOM⟩ := B.2
  refine Con.of (plainFor_of_name pn0) (Ls := #[vI p0, vI p1, vI p2, vI p3, vI p4, .unset, .unset, .unset, .unset, .unset]) (fun m => by first | rfl | (simp [entryFrame, mkF, argsToLocals, Value.category, maxLocals]; done)) ?_
  intro p e s m below meth c T0 X0 H hml hZ hown hnm hret hlk e0
  have O0 := extR Z.heap
  have M0 := Nat.le_refl Z.heap.size
  have N0 := Fr.nil Z.heap.size
  refine gIloadN X0 H at_0 rfl 1 rfl ?_
  refine gIconst X0 H at_1 (z := 3) rfl 2 rfl ?_
  refine g_iand X0 H at_2 (z := 2) ha0 3 rfl ?_
  refine gIstore X0 H at_3 (Ls' := #[vI p0, vI p1, vI p2, vI p3, vI p4, vI 2, .unset, .unset, .unset, .unset]) rfl 5 rfl ?_
  refine gIloadN X0 H at_5 rfl 6 rfl ?_
  refine gIconst X0 H at_6 (z := 2) rfl 7 rfl ?_
  refine g_ishr X0 H at_7 (z := (p0 >>> ((2 : Int32) &&& 31))) rfl 8 rfl ?_
  refine gIconst X0 H at_8 (z := 1) rfl 9 rfl ?_
  refine g_iand X0 H at_9 (z := ((p0 >>> ((2 : Int32) &&& 31)) &&& (1 : Int32))) rfl 10 rfl ?_
  by_cases hc142 : ((p0 >>> ((2 : Int32) &&& 31)) &&& (1 : Int32)) = (0 : Int32)
  · refine gIfY X0 H at_10 ((if0 _ _).trans (teq hc142).1) (by decide) 17 rfl ?_
    refine gIconst X0 H at_17 (z := 0) rfl 18 rfl ?_
    refine gIstore X0 H at_18 (Ls' := #[vI p0, vI p1, vI p2, vI p3, vI p4, vI 2, vI 0, .unset, .unset, .unset]) rfl 20 rfl ?_
    refine gNew X0 H hZ hown (hw _ wd0) (hw _ wd1) (hw _ wd2) e0 (by decide) (by decide) at_20 23 rfl ?_
    intro T143 h143 b143 X143 e143 z143 E143 A143 D143
    have G_b143 := Nat.le_trans O0.1 (Nat.le_of_eq z143)
    have sz_b143 := Nat.le_trans M0 (Nat.le_of_eq z143)
    have O143 := extT O0 E143
    have F143_entries : Fld Z h143 b143 cs0 "entries" "[I" .null := D143 (Or.inl (hw _ wd12)) (ty := (.array .int)) (by decide)
    have F143_depth : Fld Z h143 b143 cs0 "depth" "I" (.int 0) := D143 (Or.inl (hw _ wd19)) (ty := .int) (by decide)
    have F143_unchanged : Fld Z h143 b143 cs0 "unchanged" "B" (.int 0) := D143 (Or.inl (hw _ wd50)) (ty := .byte) (by decide)
    refine gDup X143 H at_23 rfl 24 rfl ?_
    refine gSpecial X143 H hZ hown rfl rfl (hw _ wd3) (hw _ wd4) (by decide) (hw _ wd5) (hw _ wd2) (rm15_1 B b143 _ O143 A143 F143_entries G_b143 F143_depth F143_unchanged) e143 hml rfl pd0 rfl (W := 1) (argsL := []) (rest := [(.ref b143)]) rfl rfl at_24 27 rfl ?_
    intro v144 T144 L144 hq144 X144
    obtain ⟨rfl, N144q, K144, f144_0, f144_1, f144_2, f144_3⟩ := hq144
    have O144 := extK O143 K144 (allS G_b143 all0)
    have N144 := Fr.app N0 N144q
    show Go _ _ _ _ (State.setTop _ (mkF _ 27 _ [(.ref b143)]))
    refine gAstore X144 H at_27 rfl (Ls' := #[vI p0, vI p1, vI p2, vI p3, vI p4, vI 2, vI 0, vR b143, .unset, .unset]) rfl 29 rfl ?_
    refine gIload X144 H at_29 rfl 31 rfl ?_
    refine gIconst X144 H at_31 (z := 1) rfl 32 rfl ?_
    refine gCmpN X144 H at_32 (by decide) 35 rfl ?_
    refine gAload X144 H at_35 rfl rfl 37 rfl ?_
    refine gIloadN X144 H at_37 rfl 38 rfl ?_
    refine gVirt X144 H hZ hown (hw _ wd20) (hw _ wd21) (hw _ wd23) (hw _ wd22) (by decide) f144_0 (hw _ wd24) (hw _ wd2) (rm98_4 B b143 p1 _ O144 f144_2 f144_1 f144_0 G_b143 f144_3) rfl hml rfl pd2 rfl (W := 0) (argsL := [(.int p1)]) (rest := []) rfl rfl at_38 41 rfl ?_
    intro v145 T145 L145 hq145 X145
    obtain ⟨b145_0, k145_0, rfl, N145q, K145, s145_0, f145_0, f145_1, f145_2, f145_3, f145_4⟩ := hq145
    have M146 := (Nat.le_trans (Nat.le_trans M0 E143.1) K144.1)
    have G_b145_0 := Nat.le_trans O144.1 s145_0
    have sz_b145_0 := Nat.le_trans M146 s145_0
    have ne_b143_b145_0 : b143 ≠ b145_0 := neB f144_0.lt s145_0
    have O145 := extK O144 K145 (allS G_b143 all0)
    have N145 := Fr.app N144 N145q
    show Go _ _ _ _ (State.setTop _ (mkF _ 41 _ []))
    refine gIload X145 H at_41 rfl 43 rfl ?_
    refine gIconst X145 H at_43 (z := 2) rfl 44 rfl ?_
    refine gCmpN X145 H at_44 (by decide) 47 rfl ?_
    refine gAload X145 H at_47 rfl rfl 49 rfl ?_
    refine gIloadN X145 H at_49 rfl 50 rfl ?_
    refine gVirt X145 H hZ hown (hw _ wd20) (hw _ wd21) (hw _ wd23) (hw _ wd22) (by decide) f145_2 (hw _ wd24) (hw _ wd2) (rm177_4 B b143 p2 b145_0 k145_0 p1 _ O145 f145_0 f145_1 (Arv.arl f145_4) f145_2 f145_3 f145_4 G_b145_0 ne_b143_b145_0 G_b143) rfl hml rfl pd2 rfl (W := 0) (argsL := [(.int p2)]) (rest := []) rfl rfl at_50 53 rfl ?_
    intro v178 T178 L178 hq178 X178
    obtain ⟨rfl, N178q, K178, f178_0, f178_1, f178_2, f178_3, f178_4⟩ := hq178
    have O178 := extK O145 K178 (allS G_b145_0 (allS G_b143 all0))
    have N178 := Fr.app N145 N178q
    show Go _ _ _ _ (State.setTop _ (mkF _ 53 _ []))
    refine gIload X178 H at_53 rfl 55 rfl ?_
    refine gIconst X178 H at_55 (z := 3) rfl 56 rfl ?_
    refine gCmpY X178 H at_56 (by decide) (by decide) 65 rfl ?_
    refine gIload X178 H at_65 rfl 67 rfl ?_
    refine gIstore X178 H at_67 (Ls' := #[vI p0, vI p1, vI p2, vI p3, vI p4, vI 2, vI 0, vR b143, vI 2, .unset]) rfl 69 rfl ?_
    refine gIload X178 H at_69 rfl 71 rfl ?_
    refine gIfY X178 H at_71 (by decide) (by decide) 93 rfl ?_
    refine gIload X178 H at_93 rfl 95 rfl ?_
    refine gIfY X178 H at_95 (by decide) (by decide) 104 rfl ?_
    refine gIload X178 H at_104 rfl 106 rfl ?_
    refine gIconst X178 H at_106 (z := 1) rfl 107 rfl ?_
    refine gCmpY X178 H at_107 (by decide) (by decide) 116 rfl ?_
    refine gIload X178 H at_116 rfl 118 rfl ?_
    refine gIconst X178 H at_118 (z := 2) rfl 119 rfl ?_
    refine gCmpN X178 H at_119 (by decide) 122 rfl ?_
    refine gIloadN X178 H at_122 rfl 123 rfl ?_
    refine gIstore X178 H at_123 (Ls' := #[vI p0, vI p1, vI p2, vI p3, vI p4, vI 2, vI 0, vR b143, vI 2, vI p2]) rfl 125 rfl ?_
    refine gGoto X178 H at_125 (by decide) 131 rfl ?_
    refine gAload X178 H at_131 rfl rfl 133 rfl ?_
    refine gVirt X178 H hZ hown (hw _ wd13) (hw _ wd14) (hw _ wd16) (hw _ wd15) (by decide) f178_2 (hw _ wd17) (hw _ wd2) (rm186_3 B b143 b145_0 k145_0 p1 p2 _ O178 f178_0 f178_1 f178_4) rfl hml rfl pd1 rfl (W := 0) (argsL := []) (rest := []) rfl rfl at_133 136 rfl ?_
    intro v187 T187 L187 hq187 X187
    obtain ⟨rfl, e187, rfl⟩ := hq187
    have N187 := Fr.app N178 (Fr.nil _)
    show Go _ _ _ _ (State.setTop _ (mkF _ 136 _ [(.int p2)]))
    refine gIload X187 H at_136 rfl 138 rfl ?_
    refine gCmpN X187 H at_138 (teq rfl).2 141 rfl ?_
    refine gIconst X187 H at_141 (z := 1) rfl 142 rfl ?_
    refine gGoto X187 H at_142 (by decide) 146 rfl ?_
    exact gRetN X187 H hlk hret (t := .boolean) (by simp) at_146 e187 ⟨rfl, N187⟩
  · refine gIfN X0 H at_10 ((if0 _ _).trans (feq hc142).1) 13 rfl ?_
    refine gIconst X0 H at_13 (z := 1) rfl 14 rfl ?_
    refine gGoto X0 H at_14 (by decide) 18 rfl ?_
    refine gIstore X0 H at_18 (Ls' := #[vI p0, vI p1, vI p2, vI p3, vI p4, vI 2, vI 1, .unset, .unset, .unset]) rfl 20 rfl ?_
    refine gNew X0 H hZ hown (hw _ wd0) (hw _ wd1) (hw _ wd2) e0 (by decide) (by decide) at_20 23 rfl ?_
    intro T188 h188 b188 X188 e188 z188 E188 A188 D188
    have G_b188 := Nat.le_trans O0.1 (Nat.le_of_eq z188)
    have sz_b188 := Nat.le_trans M0 (Nat.le_of_eq z188)
    have O188 := extT O0 E188
    have F188_entries : Fld Z h188 b188 cs0 "entries" "[I" .null := D188 (Or.inl (hw _ wd12)) (ty := (.array .int)) (by decide)
    have F188_depth : Fld Z h188 b188 cs0 "depth" "I" (.int 0) := D188 (Or.inl (hw _ wd19)) (ty := .int) (by decide)
    have F188_unchanged : Fld Z h188 b188 cs0 "unchanged" "B" (.int 0) := D188 (Or.inl (hw _ wd50)) (ty := .byte) (by decide)
    refine gDup X188 H at_23 rfl 24 rfl ?_
    refine gSpecial X188 H hZ hown rfl rfl (hw _ wd3) (hw _ wd4) (by decide) (hw _ wd5) (hw _ wd2) (rm15_1 B b188 _ O188 A188 F188_entries G_b188 F188_depth F188_unchanged) e188 hml rfl pd0 rfl (W := 1) (argsL := []) (rest := [(.ref b188)]) rfl rfl at_24 27 rfl ?_
    intro v189 T189 L189 hq189 X189
    obtain ⟨rfl, N189q, K189, f189_0, f189_1, f189_2, f189_3⟩ := hq189
    have O189 := extK O188 K189 (allS G_b188 all0)
    have N189 := Fr.app N0 N189q
    show Go _ _ _ _ (State.setTop _ (mkF _ 27 _ [(.ref b188)]))
    refine gAstore X189 H at_27 rfl (Ls' := #[vI p0, vI p1, vI p2, vI p3, vI p4, vI 2, vI 1, vR b188, .unset, .unset]) rfl 29 rfl ?_
    refine gIload X189 H at_29 rfl 31 rfl ?_
    refine gIconst X189 H at_31 (z := 1) rfl 32 rfl ?_
    refine gCmpN X189 H at_32 (by decide) 35 rfl ?_
    refine gAload X189 H at_35 rfl rfl 37 rfl ?_
    refine gIloadN X189 H at_37 rfl 38 rfl ?_
    refine gVirt X189 H hZ hown (hw _ wd20) (hw _ wd21) (hw _ wd23) (hw _ wd22) (by decide) f189_0 (hw _ wd24) (hw _ wd2) (rm98_4 B b188 p1 _ O189 f189_2 f189_1 f189_0 G_b188 f189_3) rfl hml rfl pd2 rfl (W := 0) (argsL := [(.int p1)]) (rest := []) rfl rfl at_38 41 rfl ?_
    intro v190 T190 L190 hq190 X190
    obtain ⟨b190_0, k190_0, rfl, N190q, K190, s190_0, f190_0, f190_1, f190_2, f190_3, f190_4⟩ := hq190
    have M191 := (Nat.le_trans (Nat.le_trans M0 E188.1) K189.1)
    have G_b190_0 := Nat.le_trans O189.1 s190_0
    have sz_b190_0 := Nat.le_trans M191 s190_0
    have ne_b188_b190_0 : b188 ≠ b190_0 := neB f189_0.lt s190_0
    have O190 := extK O189 K190 (allS G_b188 all0)
    have N190 := Fr.app N189 N190q
    show Go _ _ _ _ (State.setTop _ (mkF _ 41 _ []))
    refine gIload X190 H at_41 rfl 43 rfl ?_
    refine gIconst X190 H at_43 (z := 2) rfl 44 rfl ?_
    refine gCmpN X190 H at_44 (by decide) 47 rfl ?_
    refine gAload X190 H at_47 rfl rfl 49 rfl ?_
    refine gIloadN X190 H at_49 rfl 50 rfl ?_
    refine gVirt X190 H hZ hown (hw _ wd20) (hw _ wd21) (hw _ wd23) (hw _ wd22) (by decide) f190_2 (hw _ wd24) (hw _ wd2) (rm177_4 B b188 p2 b190_0 k190_0 p1 _ O190 f190_0 f190_1 (Arv.arl f190_4) f190_2 f190_3 f190_4 G_b190_0 ne_b188_b190_0 G_b188) rfl hml rfl pd2 rfl (W := 0) (argsL := [(.int p2)]) (rest := []) rfl rfl at_50 53 rfl ?_
    intro v192 T192 L192 hq192 X192
    obtain ⟨rfl, N192q, K192, f192_0, f192_1, f192_2, f192_3, f192_4⟩ := hq192
    have O192 := extK O190 K192 (allS G_b190_0 (allS G_b188 all0))
    have N192 := Fr.app N190 N192q
    show Go _ _ _ _ (State.setTop _ (mkF _ 53 _ []))
    refine gIload X192 H at_53 rfl 55 rfl ?_
    refine gIconst X192 H at_55 (z := 3) rfl 56 rfl ?_
    refine gCmpY X192 H at_56 (by decide) (by decide) 65 rfl ?_
    refine gIload X192 H at_65 rfl 67 rfl ?_
    refine gIstore X192 H at_67 (Ls' := #[vI p0, vI p1, vI p2, vI p3, vI p4, vI 2, vI 1, vR b188, vI 2, .unset]) rfl 69 rfl ?_
    refine gIload X192 H at_69 rfl 71 rfl ?_
    refine gIfN X192 H at_71 (by decide) 74 rfl ?_
    refine gIload X192 H at_74 rfl 76 rfl ?_
    refine gLdc X192 H hZ hown (hw _ wd51) at_76 78 rfl ?_
    refine g_iand X192 H at_78 (z := (p4 &&& (2147483647 : Int32))) rfl 79 rfl ?_
    refine gIload X192 H at_79 rfl 81 rfl ?_
    refine gIconst X192 H at_81 (z := 1) rfl 82 rfl ?_
    refine g_iadd X192 H at_82 (z := 3) (by decide) 83 rfl ?_
    rcases mod_3 p4 with hn193 | hn193 | hn193
    · refine g_irem X192 H at_83 (by decide) (z := 0) hn193 84 rfl ?_
      refine gIstore X192 H at_84 (Ls' := #[vI p0, vI p1, vI p2, vI p3, vI p4, vI 2, vI 1, vR b188, vI 0, .unset]) rfl 86 rfl ?_
      refine gAload X192 H at_86 rfl rfl 88 rfl ?_
      refine gIload X192 H at_88 rfl 90 rfl ?_
      refine gVirt X192 H hZ hown (hw _ wd52) (hw _ wd53) (hw _ wd55) (hw _ wd54) (by decide) f192_2 (hw _ wd56) (hw _ wd2) (rm204_10 B b188 b190_0 _ O192 f192_2 f192_0 G_b188 f192_1 f192_3) rfl hml rfl pd2 rfl (W := 0) (argsL := [(.int 0)]) (rest := []) rfl rfl at_90 93 rfl ?_
      intro v205 T205 L205 hq205 X205
      obtain ⟨rfl, N205q, K205, f205_0, f205_1, f205_2, f205_3⟩ := hq205
      have O205 := extK O192 K205 (allS G_b188 all0)
      have N205 := Fr.app N192 N205q
      show Go _ _ _ _ (State.setTop _ (mkF _ 93 _ []))
      refine gIload X205 H at_93 rfl 95 rfl ?_
      refine gIfN X205 H at_95 (by decide) 98 rfl ?_
      refine gIconst X205 H at_98 (z := (-1)) rfl 99 rfl ?_
      refine gIstore X205 H at_99 (Ls' := #[vI p0, vI p1, vI p2, vI p3, vI p4, vI 2, vI 1, vR b188, vI 0, vI (-1)]) rfl 101 rfl ?_
      refine gGoto X205 H at_101 (by decide) 131 rfl ?_
      refine gAload X205 H at_131 rfl rfl 133 rfl ?_
      refine gVirt X205 H hZ hown (hw _ wd13) (hw _ wd14) (hw _ wd16) (hw _ wd15) (by decide) f205_0 (hw _ wd17) (hw _ wd2) (rm19_3 B b188 _ O205 f205_1) rfl hml rfl pd1 rfl (W := 0) (argsL := []) (rest := []) rfl rfl at_133 136 rfl ?_
      intro v206 T206 L206 hq206 X206
      obtain ⟨rfl, e206, rfl⟩ := hq206
      have N206 := Fr.app N205 (Fr.nil _)
      show Go _ _ _ _ (State.setTop _ (mkF _ 136 _ [(.int (-1))]))
      refine gIload X206 H at_136 rfl 138 rfl ?_
      refine gCmpN X206 H at_138 (by decide) 141 rfl ?_
      refine gIconst X206 H at_141 (z := 1) rfl 142 rfl ?_
      refine gGoto X206 H at_142 (by decide) 146 rfl ?_
      exact gRetN X206 H hlk hret (t := .boolean) (by simp) at_146 e206 ⟨rfl, N206⟩
    · refine g_irem X192 H at_83 (by decide) (z := 1) hn193 84 rfl ?_
      refine gIstore X192 H at_84 (Ls' := #[vI p0, vI p1, vI p2, vI p3, vI p4, vI 2, vI 1, vR b188, vI 1, .unset]) rfl 86 rfl ?_
      refine gAload X192 H at_86 rfl rfl 88 rfl ?_
      refine gIload X192 H at_88 rfl 90 rfl ?_
      refine gVirt X192 H hZ hown (hw _ wd52) (hw _ wd53) (hw _ wd55) (hw _ wd54) (by decide) f192_2 (hw _ wd56) (hw _ wd2) (rm217_10 B b188 b190_0 _ O192 f192_2 f192_0 G_b188 f192_1 f192_3) rfl hml rfl pd2 rfl (W := 0) (argsL := [(.int 1)]) (rest := []) rfl rfl at_90 93 rfl ?_
      intro v218 T218 L218 hq218 X218
      obtain ⟨rfl, N218q, K218, f218_0, f218_1, f218_2, f218_3⟩ := hq218
      have O218 := extK O192 K218 (allS G_b188 all0)
      have N218 := Fr.app N192 N218q
      show Go _ _ _ _ (State.setTop _ (mkF _ 93 _ []))
      refine gIload X218 H at_93 rfl 95 rfl ?_
      refine gIfY X218 H at_95 (by decide) (by decide) 104 rfl ?_
      refine gIload X218 H at_104 rfl 106 rfl ?_
      refine gIconst X218 H at_106 (z := 1) rfl 107 rfl ?_
      refine gCmpN X218 H at_107 (by decide) 110 rfl ?_
      refine gIloadN X218 H at_110 rfl 111 rfl ?_
      refine gIstore X218 H at_111 (Ls' := #[vI p0, vI p1, vI p2, vI p3, vI p4, vI 2, vI 1, vR b188, vI 1, vI p1]) rfl 113 rfl ?_
      refine gGoto X218 H at_113 (by decide) 131 rfl ?_
      refine gAload X218 H at_131 rfl rfl 133 rfl ?_
      have c227 := (f192_4.keep K218 (ninS (Ne.symm ne_b188_b190_0) nin0))
      refine gVirt X218 H hZ hown (hw _ wd13) (hw _ wd14) (hw _ wd16) (hw _ wd15) (by decide) f218_0 (hw _ wd17) (hw _ wd2) (rm226_3 B b188 b190_0 k190_0 p1 p2 _ O218 f218_1 f218_2 c227) rfl hml rfl pd1 rfl (W := 0) (argsL := []) (rest := []) rfl rfl at_133 136 rfl ?_
      intro v228 T228 L228 hq228 X228
      obtain ⟨rfl, e228, rfl⟩ := hq228
      have N228 := Fr.app N218 (Fr.nil _)
      show Go _ _ _ _ (State.setTop _ (mkF _ 136 _ [(.int p1)]))
      refine gIload X228 H at_136 rfl 138 rfl ?_
      refine gCmpN X228 H at_138 (teq rfl).2 141 rfl ?_
      refine gIconst X228 H at_141 (z := 1) rfl 142 rfl ?_
      refine gGoto X228 H at_142 (by decide) 146 rfl ?_
      exact gRetN X228 H hlk hret (t := .boolean) (by simp) at_146 e228 ⟨rfl, N228⟩
    · refine g_irem X192 H at_83 (by decide) (z := 2) hn193 84 rfl ?_
      refine gIstore X192 H at_84 (Ls' := #[vI p0, vI p1, vI p2, vI p3, vI p4, vI 2, vI 1, vR b188, vI 2, .unset]) rfl 86 rfl ?_
      refine gAload X192 H at_86 rfl rfl 88 rfl ?_
      refine gIload X192 H at_88 rfl 90 rfl ?_
      refine gVirt X192 H hZ hown (hw _ wd52) (hw _ wd53) (hw _ wd55) (hw _ wd54) (by decide) f192_2 (hw _ wd56) (hw _ wd2) (rm239_10 B b188 b190_0 _ O192 f192_2 f192_0 G_b188 f192_1 f192_3) rfl hml rfl pd2 rfl (W := 0) (argsL := [(.int 2)]) (rest := []) rfl rfl at_90 93 rfl ?_
      intro v240 T240 L240 hq240 X240
      obtain ⟨rfl, N240q, K240, f240_0, f240_1, f240_2, f240_3⟩ := hq240
      have O240 := extK O192 K240 (allS G_b188 all0)
      have N240 := Fr.app N192 N240q
      show Go _ _ _ _ (State.setTop _ (mkF _ 93 _ []))
      refine gIload X240 H at_93 rfl 95 rfl ?_
      refine gIfY X240 H at_95 (by decide) (by decide) 104 rfl ?_
      refine gIload X240 H at_104 rfl 106 rfl ?_
      refine gIconst X240 H at_106 (z := 1) rfl 107 rfl ?_
      refine gCmpY X240 H at_107 (by decide) (by decide) 116 rfl ?_
      refine gIload X240 H at_116 rfl 118 rfl ?_
      refine gIconst X240 H at_118 (z := 2) rfl 119 rfl ?_
      refine gCmpN X240 H at_119 (by decide) 122 rfl ?_
      refine gIloadN X240 H at_122 rfl 123 rfl ?_
      refine gIstore X240 H at_123 (Ls' := #[vI p0, vI p1, vI p2, vI p3, vI p4, vI 2, vI 1, vR b188, vI 2, vI p2]) rfl 125 rfl ?_
      refine gGoto X240 H at_125 (by decide) 131 rfl ?_
      refine gAload X240 H at_131 rfl rfl 133 rfl ?_
      have c241 := (f192_4.keep K240 (ninS (Ne.symm ne_b188_b190_0) nin0))
      refine gVirt X240 H hZ hown (hw _ wd13) (hw _ wd14) (hw _ wd16) (hw _ wd15) (by decide) f240_0 (hw _ wd17) (hw _ wd2) (rm186_3 B b188 b190_0 k190_0 p1 p2 _ O240 f240_1 f240_2 c241) rfl hml rfl pd1 rfl (W := 0) (argsL := []) (rest := []) rfl rfl at_133 136 rfl ?_
      intro v242 T242 L242 hq242 X242
      obtain ⟨rfl, e242, rfl⟩ := hq242
      have N242 := Fr.app N240 (Fr.nil _)
      show Go _ _ _ _ (State.setTop _ (mkF _ 136 _ [(.int p2)]))
      refine gIload X242 H at_136 rfl 138 rfl ?_
      refine gCmpN X242 H at_138 (teq rfl).2 141 rfl ?_
      refine gIconst X242 H at_141 (z := 1) rfl 142 rfl ?_
      refine gGoto X242 H at_142 (by decide) 146 rfl ?_
      exact gRetN X242 H hlk hret (t := .boolean) (by simp) at_146 e242 ⟨rfl, N242⟩
theorem rm259_9 (B : Bg Z a0 w_Trail_NO_ROOM k_w_Trail_NO_ROOM) (ro0 : Addr) (h : Heap) (O : Ext Z.heap h) (hp257 : Fld Z h ro0 cs0 "unchanged" "B" (.int 0)) :
    Con l Z yM9 prog_22_method_15_code 2 none ({ frames := 0, cells := 0, slots := 0, locals := 0 } : Room) #[(.ref ro0), (.int 2)] h (fun v h' L => v = none ∧ h' = h ∧ L = []) := by
  have hw := B.1
  refine Con.of (plainFor_of_name pn9) (Ls := #[vR ro0, vI 2]) (fun m => by first | rfl | (simp [entryFrame, mkF, argsToLocals, Value.category]; done)) ?_
  intro p e s m below meth c T0 X0 H hml hZ hown hnm hret hlk e0
  refine gIloadN X0 H d9_0 rfl 1 rfl ?_
  refine gAloadN X0 H d9_1 rfl rfl 2 rfl ?_
  refine gGetF X0 H hZ hown (hw _ wd49) Via.refl e0 hp257 d9_2 5 rfl ?_
  intro T258 X258 e258
  refine gCmpY X258 H d9_5 (by decide) (by decide) 14 rfl ?_
  exact gRetV X258 H hlk hret d9_14 e258 ⟨rfl, rfl, rfl⟩
theorem rm279_4 (B : Bg Z a0 w_Trail_NO_ROOM k_w_Trail_NO_ROOM) (ro0 : Addr) (vi1 : Int32) (ro2 : Addr) (ck3 : ClassId) (vi4 : Int32) (vi5 : Int32) (h : Heap) (O : Ext Z.heap h) (hp249 : Fld Z h ro0 cs0 "depth" "I" (.int 2)) (hp251 : Fld Z h ro0 cs0 "entries" "[I" (.ref ro2)) (hp254 : Arl Z h ro2 (16 : Int32)) (hp256 : Exa Z h ro0 cs0) (hp260 : Fld Z h ro0 cs0 "unchanged" "B" (.int 0)) (hp265 : Arv Z h ro2 ck3 .int (16 : Int32) [(.int vi4), (.int vi5), (.int 0), (.int 0), (.int 0), (.int 0), (.int 0), (.int 0), (.int 0), (.int 0), (.int 0), (.int 0), (.int 0), (.int 0), (.int 0), (.int 0)] (.int 0)) (hp266 : Z.heap.size ≤ ro2) (hp267 : ro0 ≠ ro2) (hp272 : Z.heap.size ≤ ro0) :
    Con l Z yM4 prog_22_method_6_code 2 none ({ frames := 1, cells := 0, slots := 0, locals := 13 } : Room) #[(.ref ro0), (.int vi1)] h (fun v h' L => v = none ∧ Fr Z.heap.size L ∧ Keep h h' [ro2, ro0] ∧ Fld Z h' ro0 cs0 "depth" "I" (.int 3) ∧ Fld Z h' ro0 cs0 "entries" "[I" (.ref ro2) ∧ Exa Z h' ro0 cs0 ∧ Fld Z h' ro0 cs0 "unchanged" "B" (.int 0) ∧ Arv Z h' ro2 ck3 .int (16 : Int32) [(.int vi4), (.int vi5), (.int vi1), (.int 0), (.int 0), (.int 0), (.int 0), (.int 0), (.int 0), (.int 0), (.int 0), (.int 0), (.int 0), (.int 0), (.int 0), (.int 0)] (.int 0)) := by
  have hw := B.1
  refine Con.of (plainFor_of_name pn4) (Ls := #[vR ro0, vI vi1]) (fun m => by first | rfl | (simp [entryFrame, mkF, argsToLocals, Value.category]; done)) ?_
  intro p e s m below meth c T0 X0 H hml hZ hown hnm hret hlk e0
  have N0 := Fr.nil Z.heap.size
  refine gAloadN X0 H d4_0 rfl rfl 1 rfl ?_
  refine gGetF X0 H hZ hown (hw _ wd18) Via.refl e0 hp249 d4_1 4 rfl ?_
  intro T250 X250 e250
  refine gAloadN X250 H d4_4 rfl rfl 5 rfl ?_
  refine gGetF X250 H hZ hown (hw _ wd11) Via.refl e250 hp251 d4_5 8 rfl ?_
  intro T252 X252 e252
  refine gLen X252 H hZ e252 hp254 d4_8 9 rfl ?_
  refine gCmpY X252 H d4_9 (by decide) (by decide) 16 rfl ?_
  refine gAloadN X252 H d4_16 rfl rfl 17 rfl ?_
  refine gAloadN X252 H d4_17 rfl rfl 18 rfl ?_
  refine gGetF X252 H hZ hown (hw _ wd18) Via.refl e252 hp249 d4_18 21 rfl ?_
  intro T255 X255 e255
  refine gPrivate X255 H hZ hown (hw _ wd45) (hw _ wd46) (hw _ wd47) (hw _ wd1) (by decide) hp256 (hw _ wd48) (hw _ wd2) (rm259_9 B ro0 _ O hp260) e255 hml rfl pd2 rfl (W := 0) (argsL := [(.int 2)]) (rest := []) rfl rfl d4_21 24 rfl ?_
  intro v261 T261 L261 hq261 X261
  obtain ⟨rfl, e261, rfl⟩ := hq261
  have N261 := Fr.app N0 (Fr.nil _)
  show Go _ _ _ _ (State.setTop _ (mkF _ 24 _ []))
  refine gAloadN X261 H d4_24 rfl rfl 25 rfl ?_
  refine gGetF X261 H hZ hown (hw _ wd11) Via.refl e261 hp251 d4_25 28 rfl ?_
  intro T262 X262 e262
  refine gAloadN X262 H d4_28 rfl rfl 29 rfl ?_
  refine gGetF X262 H hZ hown (hw _ wd18) Via.refl e262 hp249 d4_29 32 rfl ?_
  intro T263 X263 e263
  refine gIloadN X263 H d4_32 rfl 33 rfl ?_
  refine gIastore X263 H hZ e263 hp265 ⟨by decide, by decide⟩ (i := 2) rfl (Nat.le_of_ble_eq_true rfl) (vs' := [(.int vi4), (.int vi5), (.int vi1), (.int 0), (.int 0), (.int 0), (.int 0), (.int 0), (.int 0), (.int 0), (.int 0), (.int 0), (.int 0), (.int 0), (.int 0), (.int 0)]) rfl d4_33 34 rfl ?_
  intro T264 h264 X264 e264 W264 V264
  have O264 := extW O W264 hp266
  have N264 := Fr.snoc X264 N261 hp266
  refine gAloadN X264 H d4_34 rfl rfl 35 rfl ?_
  refine gDup X264 H d4_35 rfl 36 rfl ?_
  have c268 := (hp249.other W264 (Or.inl hp267))
  refine gGetF X264 H hZ hown (hw _ wd18) Via.refl e264 c268 d4_36 39 rfl ?_
  intro T269 X269 e269
  refine gIconst X269 H d4_39 (z := 1) rfl 40 rfl ?_
  refine g_iadd X269 H d4_40 (z := 3) (by decide) 41 rfl ?_
  have c271 := (hp256.wr W264)
  refine gPutF X269 H hZ hown (hw _ wd18) Via.refl e269 c268 c271 (Or.inl (hw _ wd19)) (hw _ wd1) (ty := .int) (by decide) (v' := (.int 3)) rfl rfl d4_41 44 rfl ?_
  intro T270 h270 X270 e270 W270 F270
  have O270 := extW O264 W270 hp272
  have N270 := Fr.snoc X270 N264 hp272
  have c273 := (V264.other W270 (Ne.symm hp267))
  have c274 := ((hp251.other W264 (Or.inl hp267)).other W270 (Or.inr (sn2 hw)))
  have c275 := (c271.wr W270)
  have c276 := ((hp260.other W264 (Or.inl hp267)).other W270 (Or.inr (sn3 hw)))
  have K_277 := (Keep.refl h [ro2, ro0]).wr W264 (Or.inl (List.mem_of_getElem? (i := 0) rfl))
  have K_278 := K_277.wr W270 (Or.inl (List.mem_of_getElem? (i := 1) rfl))
  exact gRetV X270 H hlk hret d4_44 e270 ⟨rfl, N270, K_278, F270, c274, c275, c276, c273⟩
theorem rm288_3 (B : Bg Z a0 w_Trail_NO_ROOM k_w_Trail_NO_ROOM) (ro0 : Addr) (ro1 : Addr) (ck2 : ClassId) (vi3 : Int32) (vi4 : Int32) (vi5 : Int32) (h : Heap) (O : Ext Z.heap h) (hp281 : Fld Z h ro0 cs0 "depth" "I" (.int 3)) (hp283 : Fld Z h ro0 cs0 "entries" "[I" (.ref ro1)) (hp287 : Arv Z h ro1 ck2 .int (16 : Int32) [(.int vi3), (.int vi4), (.int vi5), (.int 0), (.int 0), (.int 0), (.int 0), (.int 0), (.int 0), (.int 0), (.int 0), (.int 0), (.int 0), (.int 0), (.int 0), (.int 0)] (.int 0)) :
    Con l Z yM3 prog_22_method_4_code 1 (some .int) ({ frames := 0, cells := 0, slots := 0, locals := 0 } : Room) #[(.ref ro0)] h (fun v h' L => v = some (.int vi5) ∧ h' = h ∧ L = []) := by
  have hw := B.1
  refine Con.of (plainFor_of_name pn3) (Ls := #[vR ro0]) (fun m => by first | rfl | (simp [entryFrame, mkF, argsToLocals, Value.category]; done)) ?_
  intro p e s m below meth c T0 X0 H hml hZ hown hnm hret hlk e0
  refine gAloadN X0 H d3_0 rfl rfl 1 rfl ?_
  refine gGetF X0 H hZ hown (hw _ wd18) Via.refl e0 hp281 d3_1 4 rfl ?_
  intro T282 X282 e282
  refine gIfY X282 H d3_4 (by decide) (by decide) 11 rfl ?_
  refine gAloadN X282 H d3_11 rfl rfl 12 rfl ?_
  refine gGetF X282 H hZ hown (hw _ wd11) Via.refl e282 hp283 d3_12 15 rfl ?_
  intro T284 X284 e284
  refine gAloadN X284 H d3_15 rfl rfl 16 rfl ?_
  refine gGetF X284 H hZ hown (hw _ wd18) Via.refl e284 hp281 d3_16 19 rfl ?_
  intro T285 X285 e285
  refine gIconst X285 H d3_19 (z := 1) rfl 20 rfl ?_
  refine g_isub X285 H d3_20 (z := 2) (by decide) 21 rfl ?_
  refine gIaload X285 H hZ e285 hp287 ⟨by decide, by decide⟩ (v := (.int vi5)) rfl d3_21 22 rfl ?_
  exact gRetI X285 H hlk hret d3_22 e285 ⟨rfl, rfl, rfl⟩
theorem rm307_10 (B : Bg Z a0 w_Trail_NO_ROOM k_w_Trail_NO_ROOM) (ro0 : Addr) (ro1 : Addr) (h : Heap) (O : Ext Z.heap h) (hp298 : Exa Z h ro0 cs0) (hp299 : Fld Z h ro0 cs0 "depth" "I" (.int 3)) (hp300 : Z.heap.size ≤ ro0) (hp302 : Fld Z h ro0 cs0 "entries" "[I" (.ref ro1)) (hp304 : Fld Z h ro0 cs0 "unchanged" "B" (.int 0)) :
    Con l Z yM10 prog_22_method_8_code 2 none ({ frames := 0, cells := 0, slots := 0, locals := 0 } : Room) #[(.ref ro0), (.int 0)] h (fun v h' L => v = none ∧ Fr Z.heap.size L ∧ Keep h h' [ro0] ∧ Exa Z h' ro0 cs0 ∧ Fld Z h' ro0 cs0 "depth" "I" (.int 0) ∧ Fld Z h' ro0 cs0 "entries" "[I" (.ref ro1) ∧ Fld Z h' ro0 cs0 "unchanged" "B" (.int 0)) := by
  have hw := B.1
  refine Con.of (plainFor_of_name pn10) (Ls := #[vR ro0, vI 0]) (fun m => by first | rfl | (simp [entryFrame, mkF, argsToLocals, Value.category]; done)) ?_
  intro p e s m below meth c T0 X0 H hml hZ hown hnm hret hlk e0
  have N0 := Fr.nil Z.heap.size
  refine gAloadN X0 H d10_0 rfl rfl 1 rfl ?_
  refine gIloadN X0 H d10_1 rfl 2 rfl ?_
  refine gPutF X0 H hZ hown (hw _ wd18) Via.refl e0 hp299 hp298 (Or.inl (hw _ wd19)) (hw _ wd1) (ty := .int) (by decide) (v' := (.int 0)) rfl rfl d10_2 5 rfl ?_
  intro T297 h297 X297 e297 W297 F297
  have O297 := extW O W297 hp300
  have N297 := Fr.snoc X297 N0 hp300
  have c301 := (hp298.wr W297)
  have c303 := (hp302.other W297 (Or.inr (sn2 hw)))
  have c305 := (hp304.other W297 (Or.inr (sn3 hw)))
  have K_306 := (Keep.refl h [ro0]).wr W297 (Or.inl (List.mem_of_getElem? (i := 0) rfl))
  exact gRetV X297 H hlk hret d10_5 e297 ⟨rfl, N297, K_306, c301, F297, c303, c305⟩
theorem rm320_10 (B : Bg Z a0 w_Trail_NO_ROOM k_w_Trail_NO_ROOM) (ro0 : Addr) (ro1 : Addr) (h : Heap) (O : Ext Z.heap h) (hp311 : Exa Z h ro0 cs0) (hp312 : Fld Z h ro0 cs0 "depth" "I" (.int 3)) (hp313 : Z.heap.size ≤ ro0) (hp315 : Fld Z h ro0 cs0 "entries" "[I" (.ref ro1)) (hp317 : Fld Z h ro0 cs0 "unchanged" "B" (.int 0)) :
    Con l Z yM10 prog_22_method_8_code 2 none ({ frames := 0, cells := 0, slots := 0, locals := 0 } : Room) #[(.ref ro0), (.int 1)] h (fun v h' L => v = none ∧ Fr Z.heap.size L ∧ Keep h h' [ro0] ∧ Exa Z h' ro0 cs0 ∧ Fld Z h' ro0 cs0 "depth" "I" (.int 1) ∧ Fld Z h' ro0 cs0 "entries" "[I" (.ref ro1) ∧ Fld Z h' ro0 cs0 "unchanged" "B" (.int 0)) := by
  have hw := B.1
  refine Con.of (plainFor_of_name pn10) (Ls := #[vR ro0, vI 1]) (fun m => by first | rfl | (simp [entryFrame, mkF, argsToLocals, Value.category]; done)) ?_
  intro p e s m below meth c T0 X0 H hml hZ hown hnm hret hlk e0
  have N0 := Fr.nil Z.heap.size
  refine gAloadN X0 H d10_0 rfl rfl 1 rfl ?_
  refine gIloadN X0 H d10_1 rfl 2 rfl ?_
  refine gPutF X0 H hZ hown (hw _ wd18) Via.refl e0 hp312 hp311 (Or.inl (hw _ wd19)) (hw _ wd1) (ty := .int) (by decide) (v' := (.int 1)) rfl rfl d10_2 5 rfl ?_
  intro T310 h310 X310 e310 W310 F310
  have O310 := extW O W310 hp313
  have N310 := Fr.snoc X310 N0 hp313
  have c314 := (hp311.wr W310)
  have c316 := (hp315.other W310 (Or.inr (sn2 hw)))
  have c318 := (hp317.other W310 (Or.inr (sn3 hw)))
  have K_319 := (Keep.refl h [ro0]).wr W310 (Or.inl (List.mem_of_getElem? (i := 0) rfl))
  exact gRetV X310 H hlk hret d10_5 e310 ⟨rfl, N310, K_319, c314, F310, c316, c318⟩
theorem rm329_3 (B : Bg Z a0 w_Trail_NO_ROOM k_w_Trail_NO_ROOM) (ro0 : Addr) (ro1 : Addr) (ck2 : ClassId) (vi3 : Int32) (vi4 : Int32) (vi5 : Int32) (h : Heap) (O : Ext Z.heap h) (hp322 : Fld Z h ro0 cs0 "depth" "I" (.int 1)) (hp324 : Fld Z h ro0 cs0 "entries" "[I" (.ref ro1)) (hp328 : Arv Z h ro1 ck2 .int (16 : Int32) [(.int vi3), (.int vi4), (.int vi5), (.int 0), (.int 0), (.int 0), (.int 0), (.int 0), (.int 0), (.int 0), (.int 0), (.int 0), (.int 0), (.int 0), (.int 0), (.int 0)] (.int 0)) :
    Con l Z yM3 prog_22_method_4_code 1 (some .int) ({ frames := 0, cells := 0, slots := 0, locals := 0 } : Room) #[(.ref ro0)] h (fun v h' L => v = some (.int vi3) ∧ h' = h ∧ L = []) := by
  have hw := B.1
  refine Con.of (plainFor_of_name pn3) (Ls := #[vR ro0]) (fun m => by first | rfl | (simp [entryFrame, mkF, argsToLocals, Value.category]; done)) ?_
  intro p e s m below meth c T0 X0 H hml hZ hown hnm hret hlk e0
  refine gAloadN X0 H d3_0 rfl rfl 1 rfl ?_
  refine gGetF X0 H hZ hown (hw _ wd18) Via.refl e0 hp322 d3_1 4 rfl ?_
  intro T323 X323 e323
  refine gIfY X323 H d3_4 (by decide) (by decide) 11 rfl ?_
  refine gAloadN X323 H d3_11 rfl rfl 12 rfl ?_
  refine gGetF X323 H hZ hown (hw _ wd11) Via.refl e323 hp324 d3_12 15 rfl ?_
  intro T325 X325 e325
  refine gAloadN X325 H d3_15 rfl rfl 16 rfl ?_
  refine gGetF X325 H hZ hown (hw _ wd18) Via.refl e325 hp322 d3_16 19 rfl ?_
  intro T326 X326 e326
  refine gIconst X326 H d3_19 (z := 1) rfl 20 rfl ?_
  refine g_isub X326 H d3_20 (z := 0) (by decide) 21 rfl ?_
  refine gIaload X326 H hZ e326 hp328 ⟨by decide, by decide⟩ (v := (.int vi3)) rfl d3_21 22 rfl ?_
  exact gRetI X326 H hlk hret d3_22 e326 ⟨rfl, rfl, rfl⟩
theorem rm342_10 (B : Bg Z a0 w_Trail_NO_ROOM k_w_Trail_NO_ROOM) (ro0 : Addr) (ro1 : Addr) (h : Heap) (O : Ext Z.heap h) (hp333 : Exa Z h ro0 cs0) (hp334 : Fld Z h ro0 cs0 "depth" "I" (.int 3)) (hp335 : Z.heap.size ≤ ro0) (hp337 : Fld Z h ro0 cs0 "entries" "[I" (.ref ro1)) (hp339 : Fld Z h ro0 cs0 "unchanged" "B" (.int 0)) :
    Con l Z yM10 prog_22_method_8_code 2 none ({ frames := 0, cells := 0, slots := 0, locals := 0 } : Room) #[(.ref ro0), (.int 2)] h (fun v h' L => v = none ∧ Fr Z.heap.size L ∧ Keep h h' [ro0] ∧ Exa Z h' ro0 cs0 ∧ Fld Z h' ro0 cs0 "depth" "I" (.int 2) ∧ Fld Z h' ro0 cs0 "entries" "[I" (.ref ro1) ∧ Fld Z h' ro0 cs0 "unchanged" "B" (.int 0)) := by
  have hw := B.1
  refine Con.of (plainFor_of_name pn10) (Ls := #[vR ro0, vI 2]) (fun m => by first | rfl | (simp [entryFrame, mkF, argsToLocals, Value.category]; done)) ?_
  intro p e s m below meth c T0 X0 H hml hZ hown hnm hret hlk e0
  have N0 := Fr.nil Z.heap.size
  refine gAloadN X0 H d10_0 rfl rfl 1 rfl ?_
  refine gIloadN X0 H d10_1 rfl 2 rfl ?_
  refine gPutF X0 H hZ hown (hw _ wd18) Via.refl e0 hp334 hp333 (Or.inl (hw _ wd19)) (hw _ wd1) (ty := .int) (by decide) (v' := (.int 2)) rfl rfl d10_2 5 rfl ?_
  intro T332 h332 X332 e332 W332 F332
  have O332 := extW O W332 hp335
  have N332 := Fr.snoc X332 N0 hp335
  have c336 := (hp333.wr W332)
  have c338 := (hp337.other W332 (Or.inr (sn2 hw)))
  have c340 := (hp339.other W332 (Or.inr (sn3 hw)))
  have K_341 := (Keep.refl h [ro0]).wr W332 (Or.inl (List.mem_of_getElem? (i := 0) rfl))
  exact gRetV X332 H hlk hret d10_5 e332 ⟨rfl, N332, K_341, c336, F332, c338, c340⟩
theorem rm351_3 (B : Bg Z a0 w_Trail_NO_ROOM k_w_Trail_NO_ROOM) (ro0 : Addr) (ro1 : Addr) (ck2 : ClassId) (vi3 : Int32) (vi4 : Int32) (vi5 : Int32) (h : Heap) (O : Ext Z.heap h) (hp344 : Fld Z h ro0 cs0 "depth" "I" (.int 2)) (hp346 : Fld Z h ro0 cs0 "entries" "[I" (.ref ro1)) (hp350 : Arv Z h ro1 ck2 .int (16 : Int32) [(.int vi3), (.int vi4), (.int vi5), (.int 0), (.int 0), (.int 0), (.int 0), (.int 0), (.int 0), (.int 0), (.int 0), (.int 0), (.int 0), (.int 0), (.int 0), (.int 0)] (.int 0)) :
    Con l Z yM3 prog_22_method_4_code 1 (some .int) ({ frames := 0, cells := 0, slots := 0, locals := 0 } : Room) #[(.ref ro0)] h (fun v h' L => v = some (.int vi4) ∧ h' = h ∧ L = []) := by
  have hw := B.1
  refine Con.of (plainFor_of_name pn3) (Ls := #[vR ro0]) (fun m => by first | rfl | (simp [entryFrame, mkF, argsToLocals, Value.category]; done)) ?_
  intro p e s m below meth c T0 X0 H hml hZ hown hnm hret hlk e0
  refine gAloadN X0 H d3_0 rfl rfl 1 rfl ?_
  refine gGetF X0 H hZ hown (hw _ wd18) Via.refl e0 hp344 d3_1 4 rfl ?_
  intro T345 X345 e345
  refine gIfY X345 H d3_4 (by decide) (by decide) 11 rfl ?_
  refine gAloadN X345 H d3_11 rfl rfl 12 rfl ?_
  refine gGetF X345 H hZ hown (hw _ wd11) Via.refl e345 hp346 d3_12 15 rfl ?_
  intro T347 X347 e347
  refine gAloadN X347 H d3_15 rfl rfl 16 rfl ?_
  refine gGetF X347 H hZ hown (hw _ wd18) Via.refl e347 hp344 d3_16 19 rfl ?_
  intro T348 X348 e348
  refine gIconst X348 H d3_19 (z := 1) rfl 20 rfl ?_
  refine g_isub X348 H d3_20 (z := 1) (by decide) 21 rfl ?_
  refine gIaload X348 H hZ e348 hp350 ⟨by decide, by decide⟩ (v := (.int vi4)) rfl d3_21 22 rfl ?_
  exact gRetI X348 H hlk hret d3_22 e348 ⟨rfl, rfl, rfl⟩
theorem rm364_10 (B : Bg Z a0 w_Trail_NO_ROOM k_w_Trail_NO_ROOM) (ro0 : Addr) (ro1 : Addr) (h : Heap) (O : Ext Z.heap h) (hp355 : Exa Z h ro0 cs0) (hp356 : Fld Z h ro0 cs0 "depth" "I" (.int 3)) (hp357 : Z.heap.size ≤ ro0) (hp359 : Fld Z h ro0 cs0 "entries" "[I" (.ref ro1)) (hp361 : Fld Z h ro0 cs0 "unchanged" "B" (.int 0)) :
    Con l Z yM10 prog_22_method_8_code 2 none ({ frames := 0, cells := 0, slots := 0, locals := 0 } : Room) #[(.ref ro0), (.int 3)] h (fun v h' L => v = none ∧ Fr Z.heap.size L ∧ Keep h h' [ro0] ∧ Exa Z h' ro0 cs0 ∧ Fld Z h' ro0 cs0 "depth" "I" (.int 3) ∧ Fld Z h' ro0 cs0 "entries" "[I" (.ref ro1) ∧ Fld Z h' ro0 cs0 "unchanged" "B" (.int 0)) := by
  have hw := B.1
  refine Con.of (plainFor_of_name pn10) (Ls := #[vR ro0, vI 3]) (fun m => by first | rfl | (simp [entryFrame, mkF, argsToLocals, Value.category]; done)) ?_
  intro p e s m below meth c T0 X0 H hml hZ hown hnm hret hlk e0
  have N0 := Fr.nil Z.heap.size
  refine gAloadN X0 H d10_0 rfl rfl 1 rfl ?_
  refine gIloadN X0 H d10_1 rfl 2 rfl ?_
  refine gPutF X0 H hZ hown (hw _ wd18) Via.refl e0 hp356 hp355 (Or.inl (hw _ wd19)) (hw _ wd1) (ty := .int) (by decide) (v' := (.int 3)) rfl rfl d10_2 5 rfl ?_
  intro T354 h354 X354 e354 W354 F354
  have O354 := extW O W354 hp357
  have N354 := Fr.snoc X354 N0 hp357
  have c358 := (hp355.wr W354)
  have c360 := (hp359.other W354 (Or.inr (sn2 hw)))
  have c362 := (hp361.other W354 (Or.inr (sn3 hw)))
  have K_363 := (Keep.refl h [ro0]).wr W354 (Or.inl (List.mem_of_getElem? (i := 0) rfl))
  exact gRetV X354 H hlk hret d10_5 e354 ⟨rfl, N354, K_363, c358, F354, c360, c362⟩
theorem lawAll_3 (B : Bg Z a0 w_Trail_NO_ROOM k_w_Trail_NO_ROOM) (p0 : Int32) (p1 : Int32) (p2 : Int32) (p3 : Int32) (p4 : Int32) (ha0 : (p0 &&& (3 : Int32)) = (3 : Int32)) :
    Con l Z x code maxLocals ret room_1 #[(.int p0), (.int p1), (.int p2), (.int p3), (.int p4)] Z.heap (fun v h' L => v = some (.int 1) ∧ Fr Z.heap.size L) := by
  have hw := B.1
  obtain ⟨S_w_Trail_NO_ROOM, V_w_Trail_NO_ROOM⟩ := B.2
  refine Con.of (plainFor_of_name pn0) (Ls := #[vI p0, vI p1, vI p2, vI p3, vI p4, .unset, .unset, .unset, .unset, .unset]) (fun m => by first | rfl | (simp [entryFrame, mkF, argsToLocals, Value.category, maxLocals]; done)) ?_
  intro p e s m below meth c T0 X0 H hml hZ hown hnm hret hlk e0
  have O0 := extR Z.heap
  have M0 := Nat.le_refl Z.heap.size
  have N0 := Fr.nil Z.heap.size
  refine gIloadN X0 H at_0 rfl 1 rfl ?_
  refine gIconst X0 H at_1 (z := 3) rfl 2 rfl ?_
  refine g_iand X0 H at_2 (z := 3) ha0 3 rfl ?_
  refine gIstore X0 H at_3 (Ls' := #[vI p0, vI p1, vI p2, vI p3, vI p4, vI 3, .unset, .unset, .unset, .unset]) rfl 5 rfl ?_
  refine gIloadN X0 H at_5 rfl 6 rfl ?_
  refine gIconst X0 H at_6 (z := 2) rfl 7 rfl ?_
  refine g_ishr X0 H at_7 (z := (p0 >>> ((2 : Int32) &&& 31))) rfl 8 rfl ?_
  refine gIconst X0 H at_8 (z := 1) rfl 9 rfl ?_
  refine g_iand X0 H at_9 (z := ((p0 >>> ((2 : Int32) &&& 31)) &&& (1 : Int32))) rfl 10 rfl ?_
  by_cases hc243 : ((p0 >>> ((2 : Int32) &&& 31)) &&& (1 : Int32)) = (0 : Int32)
  · refine gIfY X0 H at_10 ((if0 _ _).trans (teq hc243).1) (by decide) 17 rfl ?_
    refine gIconst X0 H at_17 (z := 0) rfl 18 rfl ?_
    refine gIstore X0 H at_18 (Ls' := #[vI p0, vI p1, vI p2, vI p3, vI p4, vI 3, vI 0, .unset, .unset, .unset]) rfl 20 rfl ?_
    refine gNew X0 H hZ hown (hw _ wd0) (hw _ wd1) (hw _ wd2) e0 (by decide) (by decide) at_20 23 rfl ?_
    intro T244 h244 b244 X244 e244 z244 E244 A244 D244
    have G_b244 := Nat.le_trans O0.1 (Nat.le_of_eq z244)
    have sz_b244 := Nat.le_trans M0 (Nat.le_of_eq z244)
    have O244 := extT O0 E244
    have F244_entries : Fld Z h244 b244 cs0 "entries" "[I" .null := D244 (Or.inl (hw _ wd12)) (ty := (.array .int)) (by decide)
    have F244_depth : Fld Z h244 b244 cs0 "depth" "I" (.int 0) := D244 (Or.inl (hw _ wd19)) (ty := .int) (by decide)
    have F244_unchanged : Fld Z h244 b244 cs0 "unchanged" "B" (.int 0) := D244 (Or.inl (hw _ wd50)) (ty := .byte) (by decide)
    refine gDup X244 H at_23 rfl 24 rfl ?_
    refine gSpecial X244 H hZ hown rfl rfl (hw _ wd3) (hw _ wd4) (by decide) (hw _ wd5) (hw _ wd2) (rm15_1 B b244 _ O244 A244 F244_entries G_b244 F244_depth F244_unchanged) e244 hml rfl pd0 rfl (W := 1) (argsL := []) (rest := [(.ref b244)]) rfl rfl at_24 27 rfl ?_
    intro v245 T245 L245 hq245 X245
    obtain ⟨rfl, N245q, K245, f245_0, f245_1, f245_2, f245_3⟩ := hq245
    have O245 := extK O244 K245 (allS G_b244 all0)
    have N245 := Fr.app N0 N245q
    show Go _ _ _ _ (State.setTop _ (mkF _ 27 _ [(.ref b244)]))
    refine gAstore X245 H at_27 rfl (Ls' := #[vI p0, vI p1, vI p2, vI p3, vI p4, vI 3, vI 0, vR b244, .unset, .unset]) rfl 29 rfl ?_
    refine gIload X245 H at_29 rfl 31 rfl ?_
    refine gIconst X245 H at_31 (z := 1) rfl 32 rfl ?_
    refine gCmpN X245 H at_32 (by decide) 35 rfl ?_
    refine gAload X245 H at_35 rfl rfl 37 rfl ?_
    refine gIloadN X245 H at_37 rfl 38 rfl ?_
    refine gVirt X245 H hZ hown (hw _ wd20) (hw _ wd21) (hw _ wd23) (hw _ wd22) (by decide) f245_0 (hw _ wd24) (hw _ wd2) (rm98_4 B b244 p1 _ O245 f245_2 f245_1 f245_0 G_b244 f245_3) rfl hml rfl pd2 rfl (W := 0) (argsL := [(.int p1)]) (rest := []) rfl rfl at_38 41 rfl ?_
    intro v246 T246 L246 hq246 X246
    obtain ⟨b246_0, k246_0, rfl, N246q, K246, s246_0, f246_0, f246_1, f246_2, f246_3, f246_4⟩ := hq246
    have M247 := (Nat.le_trans (Nat.le_trans M0 E244.1) K245.1)
    have G_b246_0 := Nat.le_trans O245.1 s246_0
    have sz_b246_0 := Nat.le_trans M247 s246_0
    have ne_b244_b246_0 : b244 ≠ b246_0 := neB f245_0.lt s246_0
    have O246 := extK O245 K246 (allS G_b244 all0)
    have N246 := Fr.app N245 N246q
    show Go _ _ _ _ (State.setTop _ (mkF _ 41 _ []))
    refine gIload X246 H at_41 rfl 43 rfl ?_
    refine gIconst X246 H at_43 (z := 2) rfl 44 rfl ?_
    refine gCmpN X246 H at_44 (by decide) 47 rfl ?_
    refine gAload X246 H at_47 rfl rfl 49 rfl ?_
    refine gIloadN X246 H at_49 rfl 50 rfl ?_
    refine gVirt X246 H hZ hown (hw _ wd20) (hw _ wd21) (hw _ wd23) (hw _ wd22) (by decide) f246_2 (hw _ wd24) (hw _ wd2) (rm177_4 B b244 p2 b246_0 k246_0 p1 _ O246 f246_0 f246_1 (Arv.arl f246_4) f246_2 f246_3 f246_4 G_b246_0 ne_b244_b246_0 G_b244) rfl hml rfl pd2 rfl (W := 0) (argsL := [(.int p2)]) (rest := []) rfl rfl at_50 53 rfl ?_
    intro v248 T248 L248 hq248 X248
    obtain ⟨rfl, N248q, K248, f248_0, f248_1, f248_2, f248_3, f248_4⟩ := hq248
    have O248 := extK O246 K248 (allS G_b246_0 (allS G_b244 all0))
    have N248 := Fr.app N246 N248q
    show Go _ _ _ _ (State.setTop _ (mkF _ 53 _ []))
    refine gIload X248 H at_53 rfl 55 rfl ?_
    refine gIconst X248 H at_55 (z := 3) rfl 56 rfl ?_
    refine gCmpN X248 H at_56 (by decide) 59 rfl ?_
    refine gAload X248 H at_59 rfl rfl 61 rfl ?_
    refine gIloadN X248 H at_61 rfl 62 rfl ?_
    refine gVirt X248 H hZ hown (hw _ wd20) (hw _ wd21) (hw _ wd23) (hw _ wd22) (by decide) f248_2 (hw _ wd24) (hw _ wd2) (rm279_4 B b244 p3 b246_0 k246_0 p1 p2 _ O248 f248_0 f248_1 (Arv.arl f248_4) f248_2 f248_3 f248_4 G_b246_0 ne_b244_b246_0 G_b244) rfl hml rfl pd2 rfl (W := 0) (argsL := [(.int p3)]) (rest := []) rfl rfl at_62 65 rfl ?_
    intro v280 T280 L280 hq280 X280
    obtain ⟨rfl, N280q, K280, f280_0, f280_1, f280_2, f280_3, f280_4⟩ := hq280
    have O280 := extK O248 K280 (allS G_b246_0 (allS G_b244 all0))
    have N280 := Fr.app N248 N280q
    show Go _ _ _ _ (State.setTop _ (mkF _ 65 _ []))
    refine gIload X280 H at_65 rfl 67 rfl ?_
    refine gIstore X280 H at_67 (Ls' := #[vI p0, vI p1, vI p2, vI p3, vI p4, vI 3, vI 0, vR b244, vI 3, .unset]) rfl 69 rfl ?_
    refine gIload X280 H at_69 rfl 71 rfl ?_
    refine gIfY X280 H at_71 (by decide) (by decide) 93 rfl ?_
    refine gIload X280 H at_93 rfl 95 rfl ?_
    refine gIfY X280 H at_95 (by decide) (by decide) 104 rfl ?_
    refine gIload X280 H at_104 rfl 106 rfl ?_
    refine gIconst X280 H at_106 (z := 1) rfl 107 rfl ?_
    refine gCmpY X280 H at_107 (by decide) (by decide) 116 rfl ?_
    refine gIload X280 H at_116 rfl 118 rfl ?_
    refine gIconst X280 H at_118 (z := 2) rfl 119 rfl ?_
    refine gCmpY X280 H at_119 (by decide) (by decide) 128 rfl ?_
    refine gIloadN X280 H at_128 rfl 129 rfl ?_
    refine gIstore X280 H at_129 (Ls' := #[vI p0, vI p1, vI p2, vI p3, vI p4, vI 3, vI 0, vR b244, vI 3, vI p3]) rfl 131 rfl ?_
    refine gAload X280 H at_131 rfl rfl 133 rfl ?_
    refine gVirt X280 H hZ hown (hw _ wd13) (hw _ wd14) (hw _ wd16) (hw _ wd15) (by decide) f280_2 (hw _ wd17) (hw _ wd2) (rm288_3 B b244 b246_0 k246_0 p1 p2 p3 _ O280 f280_0 f280_1 f280_4) rfl hml rfl pd1 rfl (W := 0) (argsL := []) (rest := []) rfl rfl at_133 136 rfl ?_
    intro v289 T289 L289 hq289 X289
    obtain ⟨rfl, e289, rfl⟩ := hq289
    have N289 := Fr.app N280 (Fr.nil _)
    show Go _ _ _ _ (State.setTop _ (mkF _ 136 _ [(.int p3)]))
    refine gIload X289 H at_136 rfl 138 rfl ?_
    refine gCmpN X289 H at_138 (teq rfl).2 141 rfl ?_
    refine gIconst X289 H at_141 (z := 1) rfl 142 rfl ?_
    refine gGoto X289 H at_142 (by decide) 146 rfl ?_
    exact gRetN X289 H hlk hret (t := .boolean) (by simp) at_146 e289 ⟨rfl, N289⟩
  · refine gIfN X0 H at_10 ((if0 _ _).trans (feq hc243).1) 13 rfl ?_
    refine gIconst X0 H at_13 (z := 1) rfl 14 rfl ?_
    refine gGoto X0 H at_14 (by decide) 18 rfl ?_
    refine gIstore X0 H at_18 (Ls' := #[vI p0, vI p1, vI p2, vI p3, vI p4, vI 3, vI 1, .unset, .unset, .unset]) rfl 20 rfl ?_
    refine gNew X0 H hZ hown (hw _ wd0) (hw _ wd1) (hw _ wd2) e0 (by decide) (by decide) at_20 23 rfl ?_
    intro T290 h290 b290 X290 e290 z290 E290 A290 D290
    have G_b290 := Nat.le_trans O0.1 (Nat.le_of_eq z290)
    have sz_b290 := Nat.le_trans M0 (Nat.le_of_eq z290)
    have O290 := extT O0 E290
    have F290_entries : Fld Z h290 b290 cs0 "entries" "[I" .null := D290 (Or.inl (hw _ wd12)) (ty := (.array .int)) (by decide)
    have F290_depth : Fld Z h290 b290 cs0 "depth" "I" (.int 0) := D290 (Or.inl (hw _ wd19)) (ty := .int) (by decide)
    have F290_unchanged : Fld Z h290 b290 cs0 "unchanged" "B" (.int 0) := D290 (Or.inl (hw _ wd50)) (ty := .byte) (by decide)
    refine gDup X290 H at_23 rfl 24 rfl ?_
    refine gSpecial X290 H hZ hown rfl rfl (hw _ wd3) (hw _ wd4) (by decide) (hw _ wd5) (hw _ wd2) (rm15_1 B b290 _ O290 A290 F290_entries G_b290 F290_depth F290_unchanged) e290 hml rfl pd0 rfl (W := 1) (argsL := []) (rest := [(.ref b290)]) rfl rfl at_24 27 rfl ?_
    intro v291 T291 L291 hq291 X291
    obtain ⟨rfl, N291q, K291, f291_0, f291_1, f291_2, f291_3⟩ := hq291
    have O291 := extK O290 K291 (allS G_b290 all0)
    have N291 := Fr.app N0 N291q
    show Go _ _ _ _ (State.setTop _ (mkF _ 27 _ [(.ref b290)]))
    refine gAstore X291 H at_27 rfl (Ls' := #[vI p0, vI p1, vI p2, vI p3, vI p4, vI 3, vI 1, vR b290, .unset, .unset]) rfl 29 rfl ?_
    refine gIload X291 H at_29 rfl 31 rfl ?_
    refine gIconst X291 H at_31 (z := 1) rfl 32 rfl ?_
    refine gCmpN X291 H at_32 (by decide) 35 rfl ?_
    refine gAload X291 H at_35 rfl rfl 37 rfl ?_
    refine gIloadN X291 H at_37 rfl 38 rfl ?_
    refine gVirt X291 H hZ hown (hw _ wd20) (hw _ wd21) (hw _ wd23) (hw _ wd22) (by decide) f291_0 (hw _ wd24) (hw _ wd2) (rm98_4 B b290 p1 _ O291 f291_2 f291_1 f291_0 G_b290 f291_3) rfl hml rfl pd2 rfl (W := 0) (argsL := [(.int p1)]) (rest := []) rfl rfl at_38 41 rfl ?_
    intro v292 T292 L292 hq292 X292
    obtain ⟨b292_0, k292_0, rfl, N292q, K292, s292_0, f292_0, f292_1, f292_2, f292_3, f292_4⟩ := hq292
    have M293 := (Nat.le_trans (Nat.le_trans M0 E290.1) K291.1)
    have G_b292_0 := Nat.le_trans O291.1 s292_0
    have sz_b292_0 := Nat.le_trans M293 s292_0
    have ne_b290_b292_0 : b290 ≠ b292_0 := neB f291_0.lt s292_0
    have O292 := extK O291 K292 (allS G_b290 all0)
    have N292 := Fr.app N291 N292q
    show Go _ _ _ _ (State.setTop _ (mkF _ 41 _ []))
    refine gIload X292 H at_41 rfl 43 rfl ?_
    refine gIconst X292 H at_43 (z := 2) rfl 44 rfl ?_
    refine gCmpN X292 H at_44 (by decide) 47 rfl ?_
    refine gAload X292 H at_47 rfl rfl 49 rfl ?_
    refine gIloadN X292 H at_49 rfl 50 rfl ?_
    refine gVirt X292 H hZ hown (hw _ wd20) (hw _ wd21) (hw _ wd23) (hw _ wd22) (by decide) f292_2 (hw _ wd24) (hw _ wd2) (rm177_4 B b290 p2 b292_0 k292_0 p1 _ O292 f292_0 f292_1 (Arv.arl f292_4) f292_2 f292_3 f292_4 G_b292_0 ne_b290_b292_0 G_b290) rfl hml rfl pd2 rfl (W := 0) (argsL := [(.int p2)]) (rest := []) rfl rfl at_50 53 rfl ?_
    intro v294 T294 L294 hq294 X294
    obtain ⟨rfl, N294q, K294, f294_0, f294_1, f294_2, f294_3, f294_4⟩ := hq294
    have O294 := extK O292 K294 (allS G_b292_0 (allS G_b290 all0))
    have N294 := Fr.app N292 N294q
    show Go _ _ _ _ (State.setTop _ (mkF _ 53 _ []))
    refine gIload X294 H at_53 rfl 55 rfl ?_
    refine gIconst X294 H at_55 (z := 3) rfl 56 rfl ?_
    refine gCmpN X294 H at_56 (by decide) 59 rfl ?_
    refine gAload X294 H at_59 rfl rfl 61 rfl ?_
    refine gIloadN X294 H at_61 rfl 62 rfl ?_
    refine gVirt X294 H hZ hown (hw _ wd20) (hw _ wd21) (hw _ wd23) (hw _ wd22) (by decide) f294_2 (hw _ wd24) (hw _ wd2) (rm279_4 B b290 p3 b292_0 k292_0 p1 p2 _ O294 f294_0 f294_1 (Arv.arl f294_4) f294_2 f294_3 f294_4 G_b292_0 ne_b290_b292_0 G_b290) rfl hml rfl pd2 rfl (W := 0) (argsL := [(.int p3)]) (rest := []) rfl rfl at_62 65 rfl ?_
    intro v295 T295 L295 hq295 X295
    obtain ⟨rfl, N295q, K295, f295_0, f295_1, f295_2, f295_3, f295_4⟩ := hq295
    have O295 := extK O294 K295 (allS G_b292_0 (allS G_b290 all0))
    have N295 := Fr.app N294 N295q
    show Go _ _ _ _ (State.setTop _ (mkF _ 65 _ []))
    refine gIload X295 H at_65 rfl 67 rfl ?_
    refine gIstore X295 H at_67 (Ls' := #[vI p0, vI p1, vI p2, vI p3, vI p4, vI 3, vI 1, vR b290, vI 3, .unset]) rfl 69 rfl ?_
    refine gIload X295 H at_69 rfl 71 rfl ?_
    refine gIfN X295 H at_71 (by decide) 74 rfl ?_
    refine gIload X295 H at_74 rfl 76 rfl ?_
    refine gLdc X295 H hZ hown (hw _ wd51) at_76 78 rfl ?_
    refine g_iand X295 H at_78 (z := (p4 &&& (2147483647 : Int32))) rfl 79 rfl ?_
    refine gIload X295 H at_79 rfl 81 rfl ?_
    refine gIconst X295 H at_81 (z := 1) rfl 82 rfl ?_
    refine g_iadd X295 H at_82 (z := 4) (by decide) 83 rfl ?_
    rcases mod_4 p4 with hn296 | hn296 | hn296 | hn296
    · refine g_irem X295 H at_83 (by decide) (z := 0) hn296 84 rfl ?_
      refine gIstore X295 H at_84 (Ls' := #[vI p0, vI p1, vI p2, vI p3, vI p4, vI 3, vI 1, vR b290, vI 0, .unset]) rfl 86 rfl ?_
      refine gAload X295 H at_86 rfl rfl 88 rfl ?_
      refine gIload X295 H at_88 rfl 90 rfl ?_
      refine gVirt X295 H hZ hown (hw _ wd52) (hw _ wd53) (hw _ wd55) (hw _ wd54) (by decide) f295_2 (hw _ wd56) (hw _ wd2) (rm307_10 B b290 b292_0 _ O295 f295_2 f295_0 G_b290 f295_1 f295_3) rfl hml rfl pd2 rfl (W := 0) (argsL := [(.int 0)]) (rest := []) rfl rfl at_90 93 rfl ?_
      intro v308 T308 L308 hq308 X308
      obtain ⟨rfl, N308q, K308, f308_0, f308_1, f308_2, f308_3⟩ := hq308
      have O308 := extK O295 K308 (allS G_b290 all0)
      have N308 := Fr.app N295 N308q
      show Go _ _ _ _ (State.setTop _ (mkF _ 93 _ []))
      refine gIload X308 H at_93 rfl 95 rfl ?_
      refine gIfN X308 H at_95 (by decide) 98 rfl ?_
      refine gIconst X308 H at_98 (z := (-1)) rfl 99 rfl ?_
      refine gIstore X308 H at_99 (Ls' := #[vI p0, vI p1, vI p2, vI p3, vI p4, vI 3, vI 1, vR b290, vI 0, vI (-1)]) rfl 101 rfl ?_
      refine gGoto X308 H at_101 (by decide) 131 rfl ?_
      refine gAload X308 H at_131 rfl rfl 133 rfl ?_
      refine gVirt X308 H hZ hown (hw _ wd13) (hw _ wd14) (hw _ wd16) (hw _ wd15) (by decide) f308_0 (hw _ wd17) (hw _ wd2) (rm19_3 B b290 _ O308 f308_1) rfl hml rfl pd1 rfl (W := 0) (argsL := []) (rest := []) rfl rfl at_133 136 rfl ?_
      intro v309 T309 L309 hq309 X309
      obtain ⟨rfl, e309, rfl⟩ := hq309
      have N309 := Fr.app N308 (Fr.nil _)
      show Go _ _ _ _ (State.setTop _ (mkF _ 136 _ [(.int (-1))]))
      refine gIload X309 H at_136 rfl 138 rfl ?_
      refine gCmpN X309 H at_138 (by decide) 141 rfl ?_
      refine gIconst X309 H at_141 (z := 1) rfl 142 rfl ?_
      refine gGoto X309 H at_142 (by decide) 146 rfl ?_
      exact gRetN X309 H hlk hret (t := .boolean) (by simp) at_146 e309 ⟨rfl, N309⟩
    · refine g_irem X295 H at_83 (by decide) (z := 1) hn296 84 rfl ?_
      refine gIstore X295 H at_84 (Ls' := #[vI p0, vI p1, vI p2, vI p3, vI p4, vI 3, vI 1, vR b290, vI 1, .unset]) rfl 86 rfl ?_
      refine gAload X295 H at_86 rfl rfl 88 rfl ?_
      refine gIload X295 H at_88 rfl 90 rfl ?_
      refine gVirt X295 H hZ hown (hw _ wd52) (hw _ wd53) (hw _ wd55) (hw _ wd54) (by decide) f295_2 (hw _ wd56) (hw _ wd2) (rm320_10 B b290 b292_0 _ O295 f295_2 f295_0 G_b290 f295_1 f295_3) rfl hml rfl pd2 rfl (W := 0) (argsL := [(.int 1)]) (rest := []) rfl rfl at_90 93 rfl ?_
      intro v321 T321 L321 hq321 X321
      obtain ⟨rfl, N321q, K321, f321_0, f321_1, f321_2, f321_3⟩ := hq321
      have O321 := extK O295 K321 (allS G_b290 all0)
      have N321 := Fr.app N295 N321q
      show Go _ _ _ _ (State.setTop _ (mkF _ 93 _ []))
      refine gIload X321 H at_93 rfl 95 rfl ?_
      refine gIfY X321 H at_95 (by decide) (by decide) 104 rfl ?_
      refine gIload X321 H at_104 rfl 106 rfl ?_
      refine gIconst X321 H at_106 (z := 1) rfl 107 rfl ?_
      refine gCmpN X321 H at_107 (by decide) 110 rfl ?_
      refine gIloadN X321 H at_110 rfl 111 rfl ?_
      refine gIstore X321 H at_111 (Ls' := #[vI p0, vI p1, vI p2, vI p3, vI p4, vI 3, vI 1, vR b290, vI 1, vI p1]) rfl 113 rfl ?_
      refine gGoto X321 H at_113 (by decide) 131 rfl ?_
      refine gAload X321 H at_131 rfl rfl 133 rfl ?_
      have c330 := (f295_4.keep K321 (ninS (Ne.symm ne_b290_b292_0) nin0))
      refine gVirt X321 H hZ hown (hw _ wd13) (hw _ wd14) (hw _ wd16) (hw _ wd15) (by decide) f321_0 (hw _ wd17) (hw _ wd2) (rm329_3 B b290 b292_0 k292_0 p1 p2 p3 _ O321 f321_1 f321_2 c330) rfl hml rfl pd1 rfl (W := 0) (argsL := []) (rest := []) rfl rfl at_133 136 rfl ?_
      intro v331 T331 L331 hq331 X331
      obtain ⟨rfl, e331, rfl⟩ := hq331
      have N331 := Fr.app N321 (Fr.nil _)
      show Go _ _ _ _ (State.setTop _ (mkF _ 136 _ [(.int p1)]))
      refine gIload X331 H at_136 rfl 138 rfl ?_
      refine gCmpN X331 H at_138 (teq rfl).2 141 rfl ?_
      refine gIconst X331 H at_141 (z := 1) rfl 142 rfl ?_
      refine gGoto X331 H at_142 (by decide) 146 rfl ?_
      exact gRetN X331 H hlk hret (t := .boolean) (by simp) at_146 e331 ⟨rfl, N331⟩
    · refine g_irem X295 H at_83 (by decide) (z := 2) hn296 84 rfl ?_
      refine gIstore X295 H at_84 (Ls' := #[vI p0, vI p1, vI p2, vI p3, vI p4, vI 3, vI 1, vR b290, vI 2, .unset]) rfl 86 rfl ?_
      refine gAload X295 H at_86 rfl rfl 88 rfl ?_
      refine gIload X295 H at_88 rfl 90 rfl ?_
      refine gVirt X295 H hZ hown (hw _ wd52) (hw _ wd53) (hw _ wd55) (hw _ wd54) (by decide) f295_2 (hw _ wd56) (hw _ wd2) (rm342_10 B b290 b292_0 _ O295 f295_2 f295_0 G_b290 f295_1 f295_3) rfl hml rfl pd2 rfl (W := 0) (argsL := [(.int 2)]) (rest := []) rfl rfl at_90 93 rfl ?_
      intro v343 T343 L343 hq343 X343
      obtain ⟨rfl, N343q, K343, f343_0, f343_1, f343_2, f343_3⟩ := hq343
      have O343 := extK O295 K343 (allS G_b290 all0)
      have N343 := Fr.app N295 N343q
      show Go _ _ _ _ (State.setTop _ (mkF _ 93 _ []))
      refine gIload X343 H at_93 rfl 95 rfl ?_
      refine gIfY X343 H at_95 (by decide) (by decide) 104 rfl ?_
      refine gIload X343 H at_104 rfl 106 rfl ?_
      refine gIconst X343 H at_106 (z := 1) rfl 107 rfl ?_
      refine gCmpY X343 H at_107 (by decide) (by decide) 116 rfl ?_
      refine gIload X343 H at_116 rfl 118 rfl ?_
      refine gIconst X343 H at_118 (z := 2) rfl 119 rfl ?_
      refine gCmpN X343 H at_119 (by decide) 122 rfl ?_
      refine gIloadN X343 H at_122 rfl 123 rfl ?_
      refine gIstore X343 H at_123 (Ls' := #[vI p0, vI p1, vI p2, vI p3, vI p4, vI 3, vI 1, vR b290, vI 2, vI p2]) rfl 125 rfl ?_
      refine gGoto X343 H at_125 (by decide) 131 rfl ?_
      refine gAload X343 H at_131 rfl rfl 133 rfl ?_
      have c352 := (f295_4.keep K343 (ninS (Ne.symm ne_b290_b292_0) nin0))
      refine gVirt X343 H hZ hown (hw _ wd13) (hw _ wd14) (hw _ wd16) (hw _ wd15) (by decide) f343_0 (hw _ wd17) (hw _ wd2) (rm351_3 B b290 b292_0 k292_0 p1 p2 p3 _ O343 f343_1 f343_2 c352) rfl hml rfl pd1 rfl (W := 0) (argsL := []) (rest := []) rfl rfl at_133 136 rfl ?_
      intro v353 T353 L353 hq353 X353
      obtain ⟨rfl, e353, rfl⟩ := hq353
      have N353 := Fr.app N343 (Fr.nil _)
      show Go _ _ _ _ (State.setTop _ (mkF _ 136 _ [(.int p2)]))
      refine gIload X353 H at_136 rfl 138 rfl ?_
      refine gCmpN X353 H at_138 (teq rfl).2 141 rfl ?_
      refine gIconst X353 H at_141 (z := 1) rfl 142 rfl ?_
      refine gGoto X353 H at_142 (by decide) 146 rfl ?_
      exact gRetN X353 H hlk hret (t := .boolean) (by simp) at_146 e353 ⟨rfl, N353⟩
    · refine g_irem X295 H at_83 (by decide) (z := 3) hn296 84 rfl ?_
      refine gIstore X295 H at_84 (Ls' := #[vI p0, vI p1, vI p2, vI p3, vI p4, vI 3, vI 1, vR b290, vI 3, .unset]) rfl 86 rfl ?_
      refine gAload X295 H at_86 rfl rfl 88 rfl ?_
      refine gIload X295 H at_88 rfl 90 rfl ?_
      refine gVirt X295 H hZ hown (hw _ wd52) (hw _ wd53) (hw _ wd55) (hw _ wd54) (by decide) f295_2 (hw _ wd56) (hw _ wd2) (rm364_10 B b290 b292_0 _ O295 f295_2 f295_0 G_b290 f295_1 f295_3) rfl hml rfl pd2 rfl (W := 0) (argsL := [(.int 3)]) (rest := []) rfl rfl at_90 93 rfl ?_
      intro v365 T365 L365 hq365 X365
      obtain ⟨rfl, N365q, K365, f365_0, f365_1, f365_2, f365_3⟩ := hq365
      have O365 := extK O295 K365 (allS G_b290 all0)
      have N365 := Fr.app N295 N365q
      show Go _ _ _ _ (State.setTop _ (mkF _ 93 _ []))
      refine gIload X365 H at_93 rfl 95 rfl ?_
      refine gIfY X365 H at_95 (by decide) (by decide) 104 rfl ?_
      refine gIload X365 H at_104 rfl 106 rfl ?_
      refine gIconst X365 H at_106 (z := 1) rfl 107 rfl ?_
      refine gCmpY X365 H at_107 (by decide) (by decide) 116 rfl ?_
      refine gIload X365 H at_116 rfl 118 rfl ?_
      refine gIconst X365 H at_118 (z := 2) rfl 119 rfl ?_
      refine gCmpY X365 H at_119 (by decide) (by decide) 128 rfl ?_
      refine gIloadN X365 H at_128 rfl 129 rfl ?_
      refine gIstore X365 H at_129 (Ls' := #[vI p0, vI p1, vI p2, vI p3, vI p4, vI 3, vI 1, vR b290, vI 3, vI p3]) rfl 131 rfl ?_
      refine gAload X365 H at_131 rfl rfl 133 rfl ?_
      have c366 := (f295_4.keep K365 (ninS (Ne.symm ne_b290_b292_0) nin0))
      refine gVirt X365 H hZ hown (hw _ wd13) (hw _ wd14) (hw _ wd16) (hw _ wd15) (by decide) f365_0 (hw _ wd17) (hw _ wd2) (rm288_3 B b290 b292_0 k292_0 p1 p2 p3 _ O365 f365_1 f365_2 c366) rfl hml rfl pd1 rfl (W := 0) (argsL := []) (rest := []) rfl rfl at_133 136 rfl ?_
      intro v367 T367 L367 hq367 X367
      obtain ⟨rfl, e367, rfl⟩ := hq367
      have N367 := Fr.app N365 (Fr.nil _)
      show Go _ _ _ _ (State.setTop _ (mkF _ 136 _ [(.int p3)]))
      refine gIload X367 H at_136 rfl 138 rfl ?_
      refine gCmpN X367 H at_138 (teq rfl).2 141 rfl ?_
      refine gIconst X367 H at_141 (z := 1) rfl 142 rfl ?_
      refine gGoto X367 H at_142 (by decide) 146 rfl ?_
      exact gRetN X367 H hlk hret (t := .boolean) (by simp) at_146 e367 ⟨rfl, N367⟩
theorem lawAll (B : Bg Z a0 w_Trail_NO_ROOM k_w_Trail_NO_ROOM) (p0 : Int32) (p1 : Int32) (p2 : Int32) (p3 : Int32) (p4 : Int32) :
    Con l Z x code maxLocals ret room_1 #[(.int p0), (.int p1), (.int p2), (.int p3), (.int p4)] Z.heap (fun v h' L => v = some (.int 1) ∧ Fr Z.heap.size L) := by
  rcases m3 p0 with ha0 | ha0 | ha0 | ha0
  · exact lawAll_0 B p0 p1 p2 p3 p4 ha0
  · exact lawAll_1 B p0 p1 p2 p3 p4 ha0
  · exact lawAll_2 B p0 p1 p2 p3 p4 ha0
  · exact lawAll_3 B p0 p1 p2 p3 p4 ha0
end Walk
set_option maxHeartbeats 4000000 in
theorem comes_1 {Post : Tables → Env → Array Value → State → Outcome → State → Prop} (hpost : ∀ tb e args s v u, (limb_1_1.after args s (.returned v) u = true ∧ limb_1_2.after args s (.returned v) u = true ∧ True) → FrameEnd s (.returned v) u (Jvm.fieldLocs frame_1_writes args s ++ Jvm.arrayLocs frame_1_arrays args s ++ Jvm.staticLocs frame_1_statics s) 16 128 → Post tb e args s (.returned v) u) :
    ArmFor flags0 classFile x code maxLocals ret World_1 tables_1 room_1 Calls_1 rest_1 Pre_1 Post := by
  intro l hfl _ _ p e ha hc hk s m args below hf hA hF happ hP
  obtain ⟨hcalls, hrest, hpre⟩ := hP
  obtain ⟨-, -, -, hnamed, -, -, -, hat⟩ := (Spec.applies_iff hf).mp happ
  obtain ⟨hg, hn⟩ := and_e (Cond.before_iff.mp (show (Jvm.Cond.and given_1 narrow_1).before args s = true from hpre))
  obtain ⟨n1, n2⟩ := and_e hg
  obtain ⟨n3, n4⟩ := and_e n2
  obtain ⟨n5, n6⟩ := and_e n4
  obtain ⟨n7, n8⟩ := and_e n6
  obtain ⟨n9, n10⟩ := and_e n8
  obtain ⟨w0, w1, w2, w3, w4, rfl⟩ : ∃ w0 w1 w2 w3 w4 : Value, args = #[w0, w1, w2, w3, w4] := by
    have hs : args.size = 5 := by simpa [Cond.value, given_1] using n1
    obtain ⟨L⟩ := args
    match L, hs with
    | [w0, w1, w2, w3, w4], _ => exact ⟨w0, w1, w2, w3, w4, rfl⟩
  have hfit : Fit s := fun {y c} hc i hi => by
    obtain ⟨ha, rfl⟩ := Array.getElem?_eq_some_iff.mp hc
    have q := List.all_eq_true.mp ((Array.all_eq_true_iff_forall_mem.mp hF) _ (Array.getElem_mem ha)) i (List.mem_range.mpr hi)
    simpa [Array.getElem?_eq_getElem hi] using q
  have hw := fun d (hd : d ∈ tables_1) => atoms_spec (ws := Jvm.Cond.code x code maxLocals ret :: tables_1) hat d (List.mem_cons_of_mem _ hd)
  obtain ⟨i0, ei0⟩ := is_v n3
  obtain rfl : w0 = (.int i0) := Option.some.inj ei0
  obtain ⟨i1, ei1⟩ := is_v n5
  obtain rfl : w1 = (.int i1) := Option.some.inj ei1
  obtain ⟨i2, ei2⟩ := is_v n7
  obtain rfl : w2 = (.int i2) := Option.some.inj ei2
  obtain ⟨i3, ei3⟩ := is_v n9
  obtain rfl : w3 = (.int i3) := Option.some.inj ei3
  obtain ⟨i4, ei4⟩ := is_v n10
  obtain rfl : w4 = (.int i4) := Option.some.inj ei4
  obtain ⟨n11, n12⟩ := and_e hn
  obtain ⟨n13, n14⟩ := and_e n12
  obtain ⟨w_Trail_NO_ROOM, ev_w_Trail_NO_ROOM⟩ := arr_v n11
  obtain ⟨cl_w_Trail_NO_ROOM, Ar_w_Trail_NO_ROOM⟩ := Arr.start ev_w_Trail_NO_ROOM n11
  obtain ⟨ln_w_Trail_NO_ROOM, le_w_Trail_NO_ROOM⟩ := Jvm.Free.IntBox.length_fwd (Cond.before_iff.mpr n14) ev_w_Trail_NO_ROOM Ar_w_Trail_NO_ROOM.1 Ar_w_Trail_NO_ROOM.2.1 Ar_w_Trail_NO_ROOM.2.2
  obtain ⟨k_w_Trail_NO_ROOM, ek_w_Trail_NO_ROOM⟩ : ∃ k, k = cl_w_Trail_NO_ROOM.cls := ⟨_, rfl⟩
  have W : World s w_Trail_NO_ROOM k_w_Trail_NO_ROOM := ⟨Sta.start ev_w_Trail_NO_ROOM (Or.inr ⟨(hw _ wd2), (hw _ wd10)⟩), (ek_w_Trail_NO_ROOM ▸ Arv.start hfit Ar_w_Trail_NO_ROOM ln_w_Trail_NO_ROOM le_w_Trail_NO_ROOM (by decide) rfl trivial)⟩
  have B : Bg s _ w_Trail_NO_ROOM k_w_Trail_NO_ROOM := ⟨hw, W⟩
  obtain ⟨n, o, h1, h2, h3, _, L, rfl, ⟨rfl, N⟩, hq⟩ := (lawAll (l := l) B i0 i1 i2 i3 i4) tables_1 p e ha hc hk s m _ below hf ((Spec.applies_iff_loose hf).mp happ).1 ⟨rfl, State.Warmed39.refl s, rfl⟩ trivial
  refine ⟨n, _, h1, h2, h3, hpost _ _ _ _ _ _ ⟨Cond.after_iff.mpr rfl, Cond.after_iff.mpr (eq_i res_at (Term.int_eval (1)) rfl), trivial⟩ ⟨hq.1, hq.2.1, (hq.2.2.sift fun y hy => Or.inr (N y hy)).mono (by decide) (by decide)⟩⟩
theorem main_1_1 : Claimed_1_1 := comes_1 fun _ _ _ _ _ _ h hF => ⟨h.1, hF⟩
theorem main_1_2 : Claimed_1_2 := comes_1 fun _ _ _ _ _ _ h hF => ⟨h.2.1, hF⟩
end Jvm.Pilot.@@N@@
namespace Jvm.Pilot.@@N@@
open Jvm Jvm.ClassFile Sem Op Lib Jvm.Free Jvm.Stand Jvm.Pilot.@@N@@.Jvm.D
/-! MADE BY PROGRAM (witnessworld.py) out of the Statement's table words and the real class files: 12 classes; the members and pool entries that the words name. The judged class is class 1, her method 1. -/
namespace start1
open Jvm.ClassFile
def u (s : String) : CpInfo := .utf8 (stringToUtf16 s)
/-- a pool by its gaps: so many unusable entries, then the entry; so many at the end -/
def gap : Nat → List CpInfo → List CpInfo
  | 0, r => r
  | n + 1, r => .unusable :: gap n r
def poolList (es : List (Nat × CpInfo)) (last : Nat) : List CpInfo := es.foldr (fun e r => gap e.1 (e.2 :: r)) (gap last [])
def pool (es : List (Nat × CpInfo)) (last : Nat) : Array CpInfo := ⟨poolList es last⟩
def fileOf (pool : Array CpInfo) (this : Nat) (attrs : Array Attribute := #[]) (ms : Array MethodInfo := #[]) (fl : Nat := 33) (sup : Nat := 0) (ifs : Array Nat := #[]) (fds : Array FieldInfo := #[]) : ClassFile where
  minorVersion := 0
  majorVersion := 65
  constantPool := pool
  accessFlags := fl
  thisClass := this
  superClass := sup
  interfaces := ifs
  fields := fds
  methods := ms
  attributes := attrs
def plain (name : String) (sup : Option ClassId) : Class where
  name := name
  kind := .ordinary
  loader := none
  accessFlags := 33
  super := sup
  interfaces := #[]
  cf := none
  fields := #[]
  methods := #[]
  instanceTypes := #[]
  staticTypes := #[]
  resolved := #[]
  callSites := []
  init := .initialized
  statics := none
  mirror := none

def pool0 : Array CpInfo := pool [(5, u "<init>"), (0, u "()V"), (1, .class_ 10), (1, u "java/lang/Object")] 113

def k0c0 : Code := { maxStack := 0, maxLocals := 1, code := object_method_1_code, exceptionTable := #[], attributes := #[] }
def k0m0 : Method := { name := "<init>", desc := "()V", sig := { parameters := [], returnType := none }, accessFlags := 1, code := some k0c0 }
/-- java/lang/Object -/
def k0 : Class := { plain "java/lang/Object" none with
  accessFlags := 33
  interfaces := #[]
  cf := some (fileOf pool0 8 #[] #[{ accessFlags := 1, nameIndex := 5, descriptorIndex := 6, attributes := #[] }] 33 0 #[] #[])
  fields := #[]
  methods := #[k0m0]
  instanceTypes := #[]
  staticTypes := #[]
  resolved := Array.replicate 124 none
  statics := none }

def pool1 : Array CpInfo := pool [(2, .class_ 4), (0, .nameAndType 5 6), (0, u "java/lang/Object"), (0, u "<init>"), (0, u "()V"), (0, .class_ 8), (0, u "com/example/blackheight/blackheight/node/Trail"), (0, .methodref 7 3), (0, .methodref 7 11), (0, .nameAndType 12 13), (0, u "push"), (0, u "(I)V"), (0, .integer 2147483647), (0, .methodref 7 16), (0, .nameAndType 17 13), (0, u "keep"), (0, .methodref 7 19), (0, .nameAndType 20 21), (0, u "last"), (0, u "()I"), (0, .class_ 23), (0, u "com/example/blackheight/blackheight/node/TrailLastPinLaw"), (2, u "law"), (0, u "(IIIII)Z")] 3

def k1m0 : Method := { name := "<init>", desc := "()V", sig := { parameters := [], returnType := none }, accessFlags := 1, code := none }
def k1c1 : Code := { maxStack := 3, maxLocals := 10, code := code, exceptionTable := #[], attributes := #[] }
def k1m1 : Method := { name := "law", desc := "(IIIII)Z", sig := { parameters := [.int, .int, .int, .int, .int], returnType := some .boolean }, accessFlags := 9, code := some k1c1 }
/-- com/example/blackheight/blackheight/node/TrailLastPinLaw -/
def k1 : Class := { plain "com/example/blackheight/blackheight/node/TrailLastPinLaw" (some 0) with
  accessFlags := 49
  interfaces := #[]
  cf := some (fileOf pool1 22 #[] #[{ accessFlags := 1, nameIndex := 5, descriptorIndex := 6, attributes := #[] }, { accessFlags := 9, nameIndex := 26, descriptorIndex := 27, attributes := #[] }] 49 2 #[] #[])
  fields := #[]
  methods := #[k1m0, k1m1]
  instanceTypes := #[]
  staticTypes := #[]
  resolved := Array.replicate 31 none
  statics := none }

def pool2 : Array CpInfo := pool [(1, .methodref 2 3), (0, .class_ 4), (0, .nameAndType 5 6), (0, u "java/lang/Object"), (0, u "<init>"), (0, u "()V"), (0, .fieldref 8 9), (0, .class_ 10), (0, .nameAndType 11 12), (0, u "com/example/blackheight/blackheight/node/Trail"), (0, u "NO_ROOM"), (0, u "[I"), (0, .fieldref 8 14), (0, .nameAndType 15 12), (0, u "entries"), (0, .fieldref 8 17), (0, .nameAndType 18 19), (0, u "depth"), (0, u "I"), (2, .methodref 8 23), (0, .nameAndType 24 25), (0, u "changeAt"), (0, u "(I)V"), (0, .methodref 8 27), (0, .nameAndType 28 6), (0, u "grow"), (2, u "reachedRight"), (0, u "Z"), (9, .fieldref 8 43), (0, .nameAndType 44 45), (0, u "unchanged"), (0, u "B"), (1, .class_ 49), (1, u "java/lang/Math"), (1, u "(II)I"), (0, .methodref 53 54), (0, .class_ 55), (0, .nameAndType 56 57), (0, u "java/util/Arrays"), (0, u "copyOf"), (0, u "([II)[I"), (0, .methodref 47 59), (0, .nameAndType 60 51), (0, u "max"), (0, u "FIRST_ROOM"), (4, u "()I"), (2, u "last"), (3, u "push"), (1, u "keep")] 9

def k2c0 : Code := { maxStack := 2, maxLocals := 1, code := prog_22_method_1_code, exceptionTable := #[], attributes := #[] }
def k2m0 : Method := { name := "<init>", desc := "()V", sig := { parameters := [], returnType := none }, accessFlags := 1, code := some k2c0 }
def k2c1 : Code := { maxStack := 3, maxLocals := 1, code := prog_22_method_4_code, exceptionTable := #[], attributes := #[] }
def k2m1 : Method := { name := "last", desc := "()I", sig := { parameters := [], returnType := some .int }, accessFlags := 1, code := some k2c1 }
def k2c2 : Code := { maxStack := 3, maxLocals := 2, code := prog_22_method_6_code, exceptionTable := #[], attributes := #[] }
def k2m2 : Method := { name := "push", desc := "(I)V", sig := { parameters := [.int], returnType := none }, accessFlags := 1, code := some k2c2 }
def k2c3 : Code := { maxStack := 2, maxLocals := 2, code := prog_22_method_8_code, exceptionTable := #[], attributes := #[] }
def k2m3 : Method := { name := "keep", desc := "(I)V", sig := { parameters := [.int], returnType := none }, accessFlags := 1, code := some k2c3 }
def k2c4 : Code := { maxStack := 2, maxLocals := 2, code := prog_22_method_15_code, exceptionTable := #[], attributes := #[] }
def k2m4 : Method := { name := "changeAt", desc := "(I)V", sig := { parameters := [.int], returnType := none }, accessFlags := 2, code := some k2c4 }
def k2c5 : Code := { maxStack := 5, maxLocals := 1, code := prog_22_method_16_code, exceptionTable := #[], attributes := #[] }
def k2m5 : Method := { name := "grow", desc := "()V", sig := { parameters := [], returnType := none }, accessFlags := 2, code := some k2c5 }
/-- com/example/blackheight/blackheight/node/Trail -/
def k2 : Class := { plain "com/example/blackheight/blackheight/node/Trail" (some 0) with
  accessFlags := 49
  interfaces := #[]
  cf := some (fileOf pool2 8 #[] #[{ accessFlags := 1, nameIndex := 5, descriptorIndex := 6, attributes := #[] }, { accessFlags := 1, nameIndex := 69, descriptorIndex := 66, attributes := #[] }, { accessFlags := 1, nameIndex := 73, descriptorIndex := 25, attributes := #[] }, { accessFlags := 1, nameIndex := 75, descriptorIndex := 25, attributes := #[] }, { accessFlags := 2, nameIndex := 24, descriptorIndex := 25, attributes := #[] }, { accessFlags := 2, nameIndex := 28, descriptorIndex := 6, attributes := #[] }] 49 2 #[] #[{ accessFlags := 26, nameIndex := 61, descriptorIndex := 19, attributes := #[] }, { accessFlags := 26, nameIndex := 11, descriptorIndex := 12, attributes := #[] }, { accessFlags := 0, nameIndex := 15, descriptorIndex := 12, attributes := #[] }, { accessFlags := 0, nameIndex := 18, descriptorIndex := 19, attributes := #[] }, { accessFlags := 0, nameIndex := 31, descriptorIndex := 32, attributes := #[] }, { accessFlags := 2, nameIndex := 44, descriptorIndex := 45, attributes := #[] }])
  fields := #[{ name := "FIRST_ROOM", type := .int, accessFlags := 26, slot := 0, constantValue := 0 }, { name := "NO_ROOM", type := (.array .int), accessFlags := 26, slot := 1, constantValue := 0 }, { name := "entries", type := (.array .int), accessFlags := 0, slot := 0, constantValue := 0 }, { name := "depth", type := .int, accessFlags := 0, slot := 1, constantValue := 0 }, { name := "reachedRight", type := .boolean, accessFlags := 0, slot := 2, constantValue := 0 }, { name := "unchanged", type := .byte, accessFlags := 2, slot := 3, constantValue := 0 }]
  methods := #[k2m0, k2m1, k2m2, k2m3, k2m4, k2m5]
  instanceTypes := #[(.array .int), .int, .boolean, .byte]
  staticTypes := #[.int, (.array .int)]
  resolved := Array.replicate 85 none
  statics := some 0 }

def pool3 : Array CpInfo := pool [(1, .class_ 2), (0, u "java/lang/Math"), (1, .class_ 6), (1, u "java/lang/Object"), (0, u "<init>"), (0, u "()V"), (89, .class_ 100), (1, u "java/lang/Math$RandomNumberGeneratorHolder"), (71, u "negativeZeroFloatBits"), (0, u "J"), (2, u "negativeZeroDoubleBits"), (21, u "max"), (2, u "min"), (43, u "$assertionsDisabled"), (0, u "Z"), (88, u "(II)I"), (2, u "twoToTheDoubleScaleDown"), (0, u "D"), (4, u "twoToTheDoubleScaleUp"), (9, u "E"), (3, u "PI"), (2, u "TAU"), (2, u "DEGREES_TO_RADIANS"), (0, u "RADIANS_TO_DEGREES")] 94

def k3m0 : Method := { name := "<init>", desc := "()V", sig := { parameters := [], returnType := none }, accessFlags := 2, code := none }
def k3c1 : Code := { maxStack := 2, maxLocals := 2, code := jdk_29_method_65_code, exceptionTable := #[], attributes := #[] }
def k3m1 : Method := { name := "max", desc := "(II)I", sig := { parameters := [.int, .int], returnType := some .int }, accessFlags := 9, code := some k3c1 }
def k3c2 : Code := { maxStack := 2, maxLocals := 2, code := jdk_29_method_69_code, exceptionTable := #[], attributes := #[] }
def k3m2 : Method := { name := "min", desc := "(II)I", sig := { parameters := [.int, .int], returnType := some .int }, accessFlags := 9, code := some k3c2 }
/-- java/lang/Math -/
def k3 : Class := { plain "java/lang/Math" (some 0) with
  accessFlags := 49
  interfaces := #[]
  cf := some (fileOf pool3 1 #[.nestMembers #[98]] #[{ accessFlags := 2, nameIndex := 7, descriptorIndex := 8, attributes := #[] }, { accessFlags := 9, nameIndex := 198, descriptorIndex := 335, attributes := #[] }, { accessFlags := 9, nameIndex := 201, descriptorIndex := 335, attributes := #[] }] 49 4 #[] #[{ accessFlags := 25, nameIndex := 354, descriptorIndex := 339, attributes := #[] }, { accessFlags := 25, nameIndex := 358, descriptorIndex := 339, attributes := #[] }, { accessFlags := 25, nameIndex := 361, descriptorIndex := 339, attributes := #[] }, { accessFlags := 26, nameIndex := 364, descriptorIndex := 339, attributes := #[] }, { accessFlags := 26, nameIndex := 365, descriptorIndex := 339, attributes := #[] }, { accessFlags := 26, nameIndex := 172, descriptorIndex := 173, attributes := #[] }, { accessFlags := 26, nameIndex := 176, descriptorIndex := 173, attributes := #[] }, { accessFlags := 8, nameIndex := 344, descriptorIndex := 339, attributes := #[] }, { accessFlags := 8, nameIndex := 338, descriptorIndex := 339, attributes := #[] }, { accessFlags := 4120, nameIndex := 245, descriptorIndex := 246, attributes := #[] }])
  fields := #[{ name := "E", type := .double, accessFlags := 25, slot := 0, constantValue := 0 }, { name := "PI", type := .double, accessFlags := 25, slot := 1, constantValue := 0 }, { name := "TAU", type := .double, accessFlags := 25, slot := 2, constantValue := 0 }, { name := "DEGREES_TO_RADIANS", type := .double, accessFlags := 26, slot := 3, constantValue := 0 }, { name := "RADIANS_TO_DEGREES", type := .double, accessFlags := 26, slot := 4, constantValue := 0 }, { name := "negativeZeroFloatBits", type := .long, accessFlags := 26, slot := 5, constantValue := 0 }, { name := "negativeZeroDoubleBits", type := .long, accessFlags := 26, slot := 6, constantValue := 0 }, { name := "twoToTheDoubleScaleUp", type := .double, accessFlags := 8, slot := 7, constantValue := 0 }, { name := "twoToTheDoubleScaleDown", type := .double, accessFlags := 8, slot := 8, constantValue := 0 }, { name := "$assertionsDisabled", type := .boolean, accessFlags := 4120, slot := 9, constantValue := 0 }]
  methods := #[k3m0, k3m1, k3m2]
  instanceTypes := #[]
  staticTypes := #[.double, .double, .double, .double, .double, .long, .long, .double, .double, .boolean]
  resolved := Array.replicate 460 none
  statics := none }

def pool4 : Array CpInfo := pool [(2, .class_ 4), (1, u "java/lang/Object"), (0, u "<init>"), (0, u "()V"), (7, .class_ 16), (1, u "java/util/Arrays"), (57, .class_ 76), (1, u "java/util/Arrays$NaturalOrder"), (36, .class_ 115), (1, u "java/util/Arrays$LegacyMergeSort"), (1, u "Z"), (32, .methodref 151 152), (0, .class_ 153), (0, .nameAndType 154 155), (0, u "java/lang/System"), (0, u "arraycopy"), (0, u "(Ljava/lang/Object;ILjava/lang/Object;II)V"), (146, u "copyOf"), (1, .methodref 305 306), (0, .class_ 307), (0, .nameAndType 308 309), (0, u "java/lang/Math"), (0, u "min"), (0, u "(II)I"), (65, .class_ 376), (0, u "java/util/Arrays$ArrayList"), (68, u "$assertionsDisabled"), (269, u "MIN_ARRAY_SORT_GRAN"), (0, u "I"), (2, u "INSERTIONSORT_THRESHOLD"), (151, u "([II)[I"), (103, .class_ 976), (0, u "java/util/Arrays$ArrayItr")] 52

def k4m0 : Method := { name := "<init>", desc := "()V", sig := { parameters := [], returnType := none }, accessFlags := 2, code := none }
def k4c1 : Code := { maxStack := 6, maxLocals := 3, code := jdk_65_method_123_code, exceptionTable := #[], attributes := #[] }
def k4m1 : Method := { name := "copyOf", desc := "([II)[I", sig := { parameters := [(.array .int), .int], returnType := some (.array .int) }, accessFlags := 9, code := some k4c1 }
/-- java/util/Arrays -/
def k4 : Class := { plain "java/util/Arrays" (some 0) with
  accessFlags := 49
  interfaces := #[]
  cf := some (fileOf pool4 14 #[.nestMembers #[975, 375, 113, 74]] #[{ accessFlags := 2, nameIndex := 5, descriptorIndex := 6, attributes := #[] }, { accessFlags := 9, nameIndex := 302, descriptorIndex := 871, attributes := #[] }] 49 2 #[] #[{ accessFlags := 26, nameIndex := 715, descriptorIndex := 716, attributes := #[] }, { accessFlags := 26, nameIndex := 719, descriptorIndex := 716, attributes := #[] }, { accessFlags := 4120, nameIndex := 445, descriptorIndex := 117, attributes := #[] }])
  fields := #[{ name := "MIN_ARRAY_SORT_GRAN", type := .int, accessFlags := 26, slot := 0, constantValue := 0 }, { name := "INSERTIONSORT_THRESHOLD", type := .int, accessFlags := 26, slot := 1, constantValue := 0 }, { name := "$assertionsDisabled", type := .boolean, accessFlags := 4120, slot := 2, constantValue := 0 }]
  methods := #[k4m0, k4m1]
  instanceTypes := #[]
  staticTypes := #[.int, .int, .boolean]
  resolved := Array.replicate 1029 none
  statics := none }

def pool5 : Array CpInfo := pool [(2, .class_ 4), (1, u "java/lang/Object"), (0, u "<init>"), (0, u "()V"), (1, .class_ 10), (1, u "java/lang/System"), (0, u "allowSecurityManager"), (0, u "I"), (16, u "cons"), (0, u "Ljava/io/Console;"), (77, .class_ 110), (1, u "java/lang/System$CallersHolder"), (43, u "initialErrStream"), (0, u "Ljava/io/PrintStream;"), (19, u "security"), (0, u "Ljava/lang/SecurityManager;"), (31, .class_ 209), (0, u "java/lang/System$1"), (7, u "props"), (0, u "Ljava/util/Properties;"), (2, u "lineSeparator"), (0, u "Ljava/lang/String;"), (96, .class_ 321), (1, u "java/lang/System$LoggerFinder"), (5, .class_ 328), (0, u "java/lang/System$Logger"), (67, u "err"), (2, u "out"), (91, u "notSupportedJnuEncoding"), (15, u "in"), (17, u "initialIn"), (0, u "Ljava/io/InputStream;"), (35, u "bootLayer"), (0, u "Ljava/lang/ModuleLayer;"), (99, .class_ 664), (0, u "java/lang/System$2"), (9, u "NEVER"), (2, u "MAYBE"), (49, u "arraycopy"), (0, u "(Ljava/lang/Object;ILjava/lang/Object;II)V"), (72, .class_ 802), (0, u "java/lang/System$Logger$Level")] 31

def k5m0 : Method := { name := "<init>", desc := "()V", sig := { parameters := [], returnType := none }, accessFlags := 2, code := none }
def k5m1 : Method := { name := "arraycopy", desc := "(Ljava/lang/Object;ILjava/lang/Object;II)V", sig := { parameters := [(.object "java/lang/Object"), .int, (.object "java/lang/Object"), .int, .int], returnType := none }, accessFlags := 265, code := none }
/-- java/lang/System -/
def k5 : Class := { plain "java/lang/System" (some 0) with
  accessFlags := 49
  interfaces := #[]
  cf := some (fileOf pool5 8 #[.nestMembers #[319, 327, 801, 108, 663, 208]] #[{ accessFlags := 2, nameIndex := 5, descriptorIndex := 6, attributes := #[] }, { accessFlags := 265, nameIndex := 727, descriptorIndex := 728, attributes := #[] }] 49 2 #[] #[{ accessFlags := 25, nameIndex := 507, descriptorIndex := 526, attributes := #[] }, { accessFlags := 25, nameIndex := 399, descriptorIndex := 155, attributes := #[] }, { accessFlags := 25, nameIndex := 396, descriptorIndex := 155, attributes := #[] }, { accessFlags := 10, nameIndex := 525, descriptorIndex := 526, attributes := #[] }, { accessFlags := 26, nameIndex := 674, descriptorIndex := 12, attributes := #[] }, { accessFlags := 26, nameIndex := 677, descriptorIndex := 12, attributes := #[] }, { accessFlags := 10, nameIndex := 11, descriptorIndex := 12, attributes := #[] }, { accessFlags := 74, nameIndex := 175, descriptorIndex := 176, attributes := #[] }, { accessFlags := 10, nameIndex := 491, descriptorIndex := 222, attributes := #[] }, { accessFlags := 74, nameIndex := 29, descriptorIndex := 30, attributes := #[] }, { accessFlags := 74, nameIndex := 154, descriptorIndex := 155, attributes := #[] }, { accessFlags := 10, nameIndex := 217, descriptorIndex := 218, attributes := #[] }, { accessFlags := 10, nameIndex := 221, descriptorIndex := 222, attributes := #[] }, { accessFlags := 8, nameIndex := 562, descriptorIndex := 563, attributes := #[] }])
  fields := #[{ name := "in", type := (.object "java/io/InputStream"), accessFlags := 25, slot := 0, constantValue := 0 }, { name := "out", type := (.object "java/io/PrintStream"), accessFlags := 25, slot := 1, constantValue := 0 }, { name := "err", type := (.object "java/io/PrintStream"), accessFlags := 25, slot := 2, constantValue := 0 }, { name := "initialIn", type := (.object "java/io/InputStream"), accessFlags := 10, slot := 3, constantValue := 0 }, { name := "NEVER", type := .int, accessFlags := 26, slot := 4, constantValue := 0 }, { name := "MAYBE", type := .int, accessFlags := 26, slot := 5, constantValue := 0 }, { name := "allowSecurityManager", type := .int, accessFlags := 10, slot := 6, constantValue := 0 }, { name := "security", type := (.object "java/lang/SecurityManager"), accessFlags := 74, slot := 7, constantValue := 0 }, { name := "notSupportedJnuEncoding", type := (.object "java/lang/String"), accessFlags := 10, slot := 8, constantValue := 0 }, { name := "cons", type := (.object "java/io/Console"), accessFlags := 74, slot := 9, constantValue := 0 }, { name := "initialErrStream", type := (.object "java/io/PrintStream"), accessFlags := 74, slot := 10, constantValue := 0 }, { name := "props", type := (.object "java/util/Properties"), accessFlags := 10, slot := 11, constantValue := 0 }, { name := "lineSeparator", type := (.object "java/lang/String"), accessFlags := 10, slot := 12, constantValue := 0 }, { name := "bootLayer", type := (.object "java/lang/ModuleLayer"), accessFlags := 8, slot := 13, constantValue := 0 }]
  methods := #[k5m0, k5m1]
  instanceTypes := #[]
  staticTypes := #[(.object "java/io/InputStream"), (.object "java/io/PrintStream"), (.object "java/io/PrintStream"), (.object "java/io/InputStream"), .int, .int, .int, (.object "java/lang/SecurityManager"), (.object "java/lang/String"), (.object "java/io/Console"), (.object "java/io/PrintStream"), (.object "java/util/Properties"), (.object "java/lang/String"), (.object "java/lang/ModuleLayer")]
  resolved := Array.replicate 834 none
  statics := none }

def pool6 : Array CpInfo := pool [(1, u "java/lang/Cloneable"), (0, .class_ 1), (0, u "java/lang/Object"), (0, .class_ 3)] 3

/-- java/lang/Cloneable -/
def k6 : Class := { plain "java/lang/Cloneable" (some 0) with
  accessFlags := 1537
  interfaces := #[]
  cf := some (fileOf pool6 2 #[] #[] 1537 4 #[] #[])
  fields := #[]
  methods := #[]
  instanceTypes := #[]
  staticTypes := #[]
  resolved := Array.replicate 8 none
  statics := none }

def pool7 : Array CpInfo := pool [(1, u "java/io/Serializable"), (0, .class_ 1), (0, u "java/lang/Object"), (0, .class_ 3)] 3

/-- java/io/Serializable -/
def k7 : Class := { plain "java/io/Serializable" (some 0) with
  accessFlags := 1537
  interfaces := #[]
  cf := some (fileOf pool7 2 #[] #[] 1537 4 #[] #[])
  fields := #[]
  methods := #[]
  instanceTypes := #[]
  staticTypes := #[]
  resolved := Array.replicate 8 none
  statics := none }

/-- the primitive byte -/
def k8 : Class := { plain "byte" none with kind := .primitive 'B', accessFlags := 0x411 }
/-- [B -/
def k9 : Class := { plain "[B" (some 0) with kind := .array 8 .byte, interfaces := #[6, 7], accessFlags := 1041 }

/-- the primitive int -/
def k10 : Class := { plain "int" none with kind := .primitive 'I', accessFlags := 0x411 }
/-- [I -/
def k11 : Class := { plain "[I" (some 0) with kind := .array 10 .int, interfaces := #[6, 7], accessFlags := 1041 }

def heap : Heap := #[{ cls := 2, slots := #[.int 0, .ref 1], vm := .statics 2 },
  { cls := 11, slots := #[], vm := .none }]
def classes : Array Class := #[k0, k1, k2, k3, k4, k5, k6, k7, k8, k9, k10, k11]
def interned : List (Array UInt16 × Addr) := []
def slotsUsed : Nat := 2
def theMethod : MethodId := ⟨1, 1⟩
def args0 : Array Value := #[.int 5, .int 5, .int 5, .int 5, .int 5]
def aboutOver (below : List Frame) : State where
  vm := { classes := classes, interned := interned.toArray }
  heap := heap
  slotsUsed := slotsUsed
  threads := #[{ frames := .invoking theMethod args0 :: below }]
def below0 : List Frame := [.native { method := ⟨0, 0⟩, args := #[] }]
def about1 : State := aboutOver below0
def p0 : Program := .bare "" "" ""
def e0 : Env := launch0.env 0 0 0
theorem w_frames : about1.frames = Frame.invoking theMethod args0 :: below0 := rfl
set_option maxRecDepth 65536 in
theorem w_args : argsFit about1.vm theMethod args0 = true := by decide +kernel
set_option maxRecDepth 65536 in
theorem w_heap : heapFits about1 = true := by decide +kernel
set_option maxRecDepth 65536 in
theorem w_runnable : about1.curStatus? = some .runnable := by decide +kernel
set_option maxRecDepth 65536 in
theorem w_alone : about1.alone = true := by decide +kernel
set_option maxRecDepth 65536 in
theorem w_named : about1.methodNamed? x = some theMethod := by decide +kernel
set_option maxRecDepth 65536 in
theorem w_hears : about1.hears theMethod below0 = true := by decide +kernel
set_option maxRecDepth 65536 in
theorem w_ripe : about1.ripe theMethod args0 below0 = true := by decide +kernel
theorem w_running : about1.status = .running := rfl
set_option maxRecDepth 65536 in
theorem w_room : about1.hasRoom e0.platform room_1 = true :=
  launch0.hasRoom_least _ room_1 (by decide +kernel) (by decide +kernel) (by decide +kernel) (by decide +kernel) (by decide +kernel) (by decide +kernel)
theorem allAtoms_all (ts : List Jvm.Cond) (a : Array Jvm.Value) (st : Jvm.State) : (allAtoms ts).before a st = ts.all (fun c => c.before a st) := by
  induction ts with
  | nil => rfl
  | cons c t ih =>
    show (Jvm.Cond.and c (allAtoms t)).before a st = _
    rw [Jvm.Cond.before_and, ih, List.all_cons]
def words1 : List Jvm.Cond := Jvm.Cond.code x code maxLocals ret :: tables_1
/-- a 'code' word, met by the world's own term for the bytes: nothing is compared byte by byte -/
theorem code_word {y : MethodName} {bytes : ByteArray} {mx : Nat} {rt : Option FieldType} {a : Array Value} {s : State} {m : MethodId} {meth : Method} {c : Code} (h1 : s.methodNamed? y = some m) (h2 : s.vm.method? m = some meth) (h3 : meth.code = some c) (h4 : c.code = bytes)
    (h5 : (c.maxLocals == mx && c.exceptionTable.isEmpty && decide (c.maxStack ≤ mostOperands) && decide (meth.sig.returnType = rt) && !meth.locks && decide (parseMethodDescriptor y.desc = some meth.sig)) = true) : (Jvm.Cond.code y bytes mx rt).before a s = true := by
  simp only [Bool.and_eq_true, beq_iff_eq, Bool.not_eq_true', decide_eq_true_eq] at h5
  obtain ⟨⟨⟨⟨⟨g1, g2⟩, g3⟩, g4⟩, g5⟩, g6⟩ := h5
  simp [Cond.before, Cond.holds, Cond.value, h1, h2, h3, h4, g1, g2, g3, g4, g5, g6]
def isCode : Jvm.Cond → Bool
  | .code _ _ _ _ => true
  | _ => false
theorem all_split {L : List Jvm.Cond} {P : Jvm.Cond → Bool} (h1 : L.all (fun c => isCode c || P c) = true) (h2 : ∀ c ∈ L.filter isCode, P c = true) : L.all P = true := by
  refine List.all_eq_true.mpr fun c hc => ?_
  have h := List.all_eq_true.mp h1 c hc
  rcases Bool.eq_false_or_eq_true (isCode c) with hi | hi
  · exact h2 c (List.mem_filter.mpr ⟨hc, hi⟩)
  · simpa [hi] using h
set_option maxRecDepth 65536 in
theorem w_c0 : (Jvm.Cond.code x code maxLocals ret).before args0 about1 = true := code_word (m := ⟨1, 1⟩) (meth := k1m1) (c := k1c1) (by decide +kernel) rfl rfl rfl (by decide +kernel)
set_option maxRecDepth 65536 in
theorem w_c1 : (Jvm.Cond.code ({ cls := "com/example/blackheight/blackheight/node/Trail", name := "<init>", desc := "()V" } : Jvm.MethodName) prog_22_method_1_code (1 : Nat) (Option.none : Option Jvm.ClassFile.FieldType)).before args0 about1 = true := code_word (m := ⟨2, 0⟩) (meth := k2m0) (c := k2c0) (by decide +kernel) rfl rfl rfl (by decide +kernel)
set_option maxRecDepth 65536 in
theorem w_c2 : (Jvm.Cond.code ({ cls := "java/lang/Object", name := "<init>", desc := "()V" } : Jvm.MethodName) object_method_1_code (1 : Nat) (Option.none : Option Jvm.ClassFile.FieldType)).before args0 about1 = true := code_word (m := ⟨0, 0⟩) (meth := k0m0) (c := k0c0) (by decide +kernel) rfl rfl rfl (by decide +kernel)
set_option maxRecDepth 65536 in
theorem w_c3 : (Jvm.Cond.code ({ cls := "com/example/blackheight/blackheight/node/Trail", name := "last", desc := "()I" } : Jvm.MethodName) prog_22_method_4_code (1 : Nat) (Option.some Jvm.ClassFile.FieldType.int)).before args0 about1 = true := code_word (m := ⟨2, 1⟩) (meth := k2m1) (c := k2c1) (by decide +kernel) rfl rfl rfl (by decide +kernel)
set_option maxRecDepth 65536 in
theorem w_c4 : (Jvm.Cond.code ({ cls := "com/example/blackheight/blackheight/node/Trail", name := "push", desc := "(I)V" } : Jvm.MethodName) prog_22_method_6_code (2 : Nat) (Option.none : Option Jvm.ClassFile.FieldType)).before args0 about1 = true := code_word (m := ⟨2, 2⟩) (meth := k2m2) (c := k2c2) (by decide +kernel) rfl rfl rfl (by decide +kernel)
set_option maxRecDepth 65536 in
theorem w_c5 : (Jvm.Cond.code ({ cls := "com/example/blackheight/blackheight/node/Trail", name := "grow", desc := "()V" } : Jvm.MethodName) prog_22_method_16_code (1 : Nat) (Option.none : Option Jvm.ClassFile.FieldType)).before args0 about1 = true := code_word (m := ⟨2, 5⟩) (meth := k2m5) (c := k2c5) (by decide +kernel) rfl rfl rfl (by decide +kernel)
set_option maxRecDepth 65536 in
theorem w_c6 : (Jvm.Cond.code ({ cls := "java/lang/Math", name := "max", desc := "(II)I" } : Jvm.MethodName) jdk_29_method_65_code (2 : Nat) (Option.some Jvm.ClassFile.FieldType.int)).before args0 about1 = true := code_word (m := ⟨3, 1⟩) (meth := k3m1) (c := k3c1) (by decide +kernel) rfl rfl rfl (by decide +kernel)
set_option maxRecDepth 65536 in
theorem w_c7 : (Jvm.Cond.code ({ cls := "java/util/Arrays", name := "copyOf", desc := "([II)[I" } : Jvm.MethodName) jdk_65_method_123_code (3 : Nat) (Option.some (Jvm.ClassFile.FieldType.array Jvm.ClassFile.FieldType.int))).before args0 about1 = true := code_word (m := ⟨4, 1⟩) (meth := k4m1) (c := k4c1) (by decide +kernel) rfl rfl rfl (by decide +kernel)
set_option maxRecDepth 65536 in
theorem w_c8 : (Jvm.Cond.code ({ cls := "java/lang/Math", name := "min", desc := "(II)I" } : Jvm.MethodName) jdk_29_method_69_code (2 : Nat) (Option.some Jvm.ClassFile.FieldType.int)).before args0 about1 = true := code_word (m := ⟨3, 2⟩) (meth := k3m2) (c := k3c2) (by decide +kernel) rfl rfl rfl (by decide +kernel)
set_option maxRecDepth 65536 in
theorem w_c9 : (Jvm.Cond.code ({ cls := "com/example/blackheight/blackheight/node/Trail", name := "changeAt", desc := "(I)V" } : Jvm.MethodName) prog_22_method_15_code (2 : Nat) (Option.none : Option Jvm.ClassFile.FieldType)).before args0 about1 = true := code_word (m := ⟨2, 4⟩) (meth := k2m4) (c := k2c4) (by decide +kernel) rfl rfl rfl (by decide +kernel)
set_option maxRecDepth 65536 in
theorem w_c10 : (Jvm.Cond.code ({ cls := "com/example/blackheight/blackheight/node/Trail", name := "keep", desc := "(I)V" } : Jvm.MethodName) prog_22_method_8_code (2 : Nat) (Option.none : Option Jvm.ClassFile.FieldType)).before args0 about1 = true := code_word (m := ⟨2, 3⟩) (meth := k2m3) (c := k2c3) (by decide +kernel) rfl rfl rfl (by decide +kernel)
def codes1 : List Jvm.Cond := [Jvm.Cond.code x code maxLocals ret, Jvm.Cond.code ({ cls := "com/example/blackheight/blackheight/node/Trail", name := "<init>", desc := "()V" } : Jvm.MethodName) prog_22_method_1_code (1 : Nat) (Option.none : Option Jvm.ClassFile.FieldType), Jvm.Cond.code ({ cls := "java/lang/Object", name := "<init>", desc := "()V" } : Jvm.MethodName) object_method_1_code (1 : Nat) (Option.none : Option Jvm.ClassFile.FieldType), Jvm.Cond.code ({ cls := "com/example/blackheight/blackheight/node/Trail", name := "last", desc := "()I" } : Jvm.MethodName) prog_22_method_4_code (1 : Nat) (Option.some Jvm.ClassFile.FieldType.int), Jvm.Cond.code ({ cls := "com/example/blackheight/blackheight/node/Trail", name := "push", desc := "(I)V" } : Jvm.MethodName) prog_22_method_6_code (2 : Nat) (Option.none : Option Jvm.ClassFile.FieldType), Jvm.Cond.code ({ cls := "com/example/blackheight/blackheight/node/Trail", name := "grow", desc := "()V" } : Jvm.MethodName) prog_22_method_16_code (1 : Nat) (Option.none : Option Jvm.ClassFile.FieldType), Jvm.Cond.code ({ cls := "java/lang/Math", name := "max", desc := "(II)I" } : Jvm.MethodName) jdk_29_method_65_code (2 : Nat) (Option.some Jvm.ClassFile.FieldType.int), Jvm.Cond.code ({ cls := "java/util/Arrays", name := "copyOf", desc := "([II)[I" } : Jvm.MethodName) jdk_65_method_123_code (3 : Nat) (Option.some (Jvm.ClassFile.FieldType.array Jvm.ClassFile.FieldType.int)), Jvm.Cond.code ({ cls := "java/lang/Math", name := "min", desc := "(II)I" } : Jvm.MethodName) jdk_29_method_69_code (2 : Nat) (Option.some Jvm.ClassFile.FieldType.int), Jvm.Cond.code ({ cls := "com/example/blackheight/blackheight/node/Trail", name := "changeAt", desc := "(I)V" } : Jvm.MethodName) prog_22_method_15_code (2 : Nat) (Option.none : Option Jvm.ClassFile.FieldType), Jvm.Cond.code ({ cls := "com/example/blackheight/blackheight/node/Trail", name := "keep", desc := "(I)V" } : Jvm.MethodName) prog_22_method_8_code (2 : Nat) (Option.none : Option Jvm.ClassFile.FieldType)]
set_option maxRecDepth 65536 in
theorem codes_eq : words1.filter isCode = codes1 := rfl
theorem w_codes : ∀ c ∈ words1.filter isCode, c.before args0 about1 = true := by
  rw [codes_eq]
  intro c hc
  simp only [codes1, List.mem_cons, List.not_mem_nil, or_false] at hc
  rcases hc with rfl | rfl | rfl | rfl | rfl | rfl | rfl | rfl | rfl | rfl | rfl
  · exact w_c0
  · exact w_c1
  · exact w_c2
  · exact w_c3
  · exact w_c4
  · exact w_c5
  · exact w_c6
  · exact w_c7
  · exact w_c8
  · exact w_c9
  · exact w_c10
set_option maxRecDepth 65536 in
theorem w_t1 : (words1.take 24).all (fun c => isCode c || c.before args0 about1) = true := by decide +kernel
set_option maxRecDepth 65536 in
theorem w_t2 : ((words1.drop 24).take 24).all (fun c => isCode c || c.before args0 about1) = true := by decide +kernel
set_option maxRecDepth 65536 in
theorem w_t3 : ((words1.drop 24).drop 24).all (fun c => isCode c || c.before args0 about1) = true := by decide +kernel
theorem w_tables : (allAtoms (Jvm.Cond.code x code maxLocals ret :: tables_1)).before args0 about1 = true := by
  rw [allAtoms_all]
  show words1.all (fun c => c.before args0 about1) = true
  refine all_split ?_ w_codes
  rw [← List.take_append_drop 24 words1, List.all_append, w_t1, ← List.take_append_drop 24 (words1.drop 24), List.all_append, w_t2, w_t3]
  rfl
set_option maxRecDepth 65536 in
theorem w_case : (Jvm.Cond.and given_1 narrow_1).before args0 about1 = true := by decide +kernel
theorem w_applies : (headSpec (Jvm.Cond.code x code maxLocals ret :: tables_1) room_1).applies x e0.platform about1 = true :=
  (Spec.applies_iff w_frames).mpr ⟨w_running, w_runnable, w_alone, w_named, w_hears, w_ripe, w_room, w_tables⟩
theorem atStart : AtStart classFile x code maxLocals ret World_1 tables_1 room_1 Calls_1 rest_1 Pre_1 launch0 p0 e0 about1 theMethod args0 below0 :=
  ⟨lists_1, trivial, launch0.admits_env _ _ _, launch0.least_env, fairChoices_fair.cas, fairChoices_fair.clock, w_frames, w_args, w_heap, w_applies, trivial, trivial, w_case⟩
end start1
theorem witness_1 : WitnessClaimed_1 := ⟨start1.p0, start1.e0, start1.about1, start1.theMethod, start1.args0, start1.below0, start1.atStart⟩
end Jvm.Pilot.@@N@@
