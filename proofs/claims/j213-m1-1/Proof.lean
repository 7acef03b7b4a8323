import JvmDerived
import JvmDerived.Pilot.@@N@@Statement
import JvmDerived.Pilot.@@N@@Code
set_option linter.unusedVariables false
set_option linter.unusedSimpArgs false
set_option maxRecDepth 65536
set_option maxHeartbeats 8000000
namespace Jvm.Pilot.@@N@@
open Jvm Jvm.ClassFile Sem Op Lib Jvm.Free Jvm.Stand Jvm.LawKit Jvm.RoadKit Bundle Jvm.Pilot.@@N@@.Jvm.D
abbrev vI (x : Int32) : Slot := .val (.int x)
abbrev vJ (x : Int64) : Slot := .val (.long x)
abbrev vR (x : Addr) : Slot := .val (.ref x)
abbrev vN : Slot := .val .null
/-- the run from S comes to an end at which K holds -/
def Go (p : Program) (e : Env) (below : List Frame) (K : State → Outcome → Prop) (S : State) : Prop := ∃ t o, Steps p.tables e below S t ∧ K t o
theorem Go.via {p : Program} {e : Env} {below : List Frame} {K : State → Outcome → Prop} {A B : State} (h : ∀ t, Steps p.tables e below B t → Steps p.tables e below A t) (g : Go p e below K B) : Go p e below K A := by
  obtain ⟨t, o, h1, h2⟩ := g; exact ⟨t, o, h t h1, h2⟩
/-- a method's end: what it returned, the heap and the places written answer Q -/
def EndK (s : State) (below : List Frame) (Q : Option Value → Heap → List Loc → Prop) (C S : Nat) (t : State) (o : Outcome) : Prop := t.status = .running ∧ Ended t below o ∧ ∃ v L, o = .returned v ∧ Q v t.heap L ∧ FrameEnd s o t L C S
/-- a method's contract -/
def Con (l : Launch) (Z : State) (y : MethodName) (bytes : ByteArray) (maxL : Nat) (ret : Option FieldType) (rm : Room) (as : Array Value) (h : Heap) (Q : Option Value → Heap → List Loc → Prop) : Prop :=
  ∀ ws, MetFree l y (head1 (Jvm.Cond.code y bytes maxL ret :: ws) rm) (fun a U => a = as ∧ Z.Warmed39 U.vm ∧ U.heap = h) (fun _ _ _ _ _ => True) (fun _ U o U' => ∃ v L, o = .returned v ∧ Q v U'.heap L ∧ FrameEnd U o U' L rm.cells rm.slots)
theorem Con.of {l : Launch} {Z : State} {y : MethodName} {bytes : ByteArray} {maxL : Nat} {ret : Option FieldType} {rm : Room} {as : Array Value} {h : Heap} {Q : Option Value → Heap → List Loc → Prop} {Ls : Array Slot} (hp : plainFor y = true) (hfr : ∀ m, entryFrame m as maxL = mkF m 0 Ls [])
    (body : ∀ (p : Program) (e : Env) (s : State) (m : MethodId) (below : List Frame) (meth : Method) (c : Code) (T : State), Stand p l e rm s m as below meth c T [] 0 0 → p.tables.exec = Jvm.exec ∧ c.code = bytes → c.maxLocals = maxL → Z.Warmed39 s.vm → s.vm.findClass y.cls = some m.cls → meth.name = y.name → meth.sig.returnType = ret → meth.locks = false → T.heap = h → Go p e below (EndK s below Q rm.cells rm.slots) (T.setTop (mkF m 0 Ls []))) :
    Con l Z y bytes maxL ret rm as h Q := by
  intro ws
  refine MetFree.of_bodySF hp hisR ?_
  intro p e s m args below meth c s₁ Bd hml hP hK
  obtain ⟨rfl, hZ, hh⟩ := hP
  have e0 : s₁.heap = h := by rw [← hh, Bd.state]; rfl
  obtain ⟨t, o, h1, h2⟩ := body p e s m below meth c s₁ (Stand.of_body Bd) ⟨Bd.exec, Bd.bytes⟩ hml hZ (findClass_of_methodNamed Bd.named) (name_of_methodNamed Bd.named Bd.method).1 Bd.returns Bd.notSynchronized e0
  exact ⟨t, o, castTop (hfr m) h1, h2⟩
section Steps
variable {p : Program} {l : Launch} {e : Env} {R : Room} {s : State} {m : MethodId} {args : Array Value} {below : List Frame} {meth : Method} {c : Code} {T : State} {locs : List Loc} {cells slots : Nat} {K : State → Outcome → Prop} {Z : State} {a0 : Array Value} {h : Heap} {bs : ByteArray} {Ls Ls' : Array Slot} {st : List Value} {pc pc' : Nat}

theorem gIloadN (X : Stand p l e R s m args below meth c T locs cells slots) (H : p.tables.exec = Jvm.exec ∧ c.code = bs) {k : Fin 4} {v : Int32} (hd : decode bs pc = .ok (.iload_n k, 1)) (hl : Ls[k.val]? = some (.val (.int v))) (pc' : Nat) (hp : pc + 1 = pc') (g : Go p e below K (T.setTop (mkF m pc' Ls (.int v :: st)))) : Go p e below K (T.setTop (mkF m pc Ls (st))) := by
  subst hp
  exact Go.via (fun t k => XS.iloadN (g := mkF m pc Ls (st)) X.here H.1 rfl (hb H.2 hd) hl k) g

theorem gAloadN (X : Stand p l e R s m args below meth c T locs cells slots) (H : p.tables.exec = Jvm.exec ∧ c.code = bs) {k : Fin 4} {v : Value} (hd : decode bs pc = .ok (.aload_n k, 1)) (hl : Ls[k.val]? = some (.val v)) (hv : v.isRef = true) (pc' : Nat) (hp : pc + 1 = pc') (g : Go p e below K (T.setTop (mkF m pc' Ls (v :: st)))) : Go p e below K (T.setTop (mkF m pc Ls (st))) := by
  subst hp
  exact Go.via (fun t k => XS.aloadN (g := mkF m pc Ls (st)) X.here H.1 rfl (hb H.2 hd) hl hv k) g

theorem gIload (X : Stand p l e R s m args below meth c T locs cells slots) (H : p.tables.exec = Jvm.exec ∧ c.code = bs) {k : Nat} {v : Int32} (hd : decode bs pc = .ok (.iload k, 2)) (hl : Ls[k]? = some (.val (.int v))) (pc' : Nat) (hp : pc + 2 = pc') (g : Go p e below K (T.setTop (mkF m pc' Ls (.int v :: st)))) : Go p e below K (T.setTop (mkF m pc Ls (st))) := by
  subst hp
  exact Go.via (fun t k => XS.iload (g := mkF m pc Ls (st)) X.here H.1 rfl (hb H.2 hd) hl k) g

theorem gAload (X : Stand p l e R s m args below meth c T locs cells slots) (H : p.tables.exec = Jvm.exec ∧ c.code = bs) {k : Nat} {v : Value} (hd : decode bs pc = .ok (.aload k, 2)) (hl : Ls[k]? = some (.val v)) (hv : v.isRef = true) (pc' : Nat) (hp : pc + 2 = pc') (g : Go p e below K (T.setTop (mkF m pc' Ls (v :: st)))) : Go p e below K (T.setTop (mkF m pc Ls (st))) := by
  subst hp
  exact Go.via (fun t k => XS.aload (g := mkF m pc Ls (st)) X.here H.1 rfl (hb H.2 hd) hl hv k) g

theorem gIstore (X : Stand p l e R s m args below meth c T locs cells slots) (H : p.tables.exec = Jvm.exec ∧ c.code = bs) {k : Nat} {v : Int32} (hd : decode bs pc = .ok (.istore k, 2)) (hl : storeLocals Ls k (.int v) = some Ls') (pc' : Nat) (hp : pc + 2 = pc') (g : Go p e below K (T.setTop (mkF m pc' Ls' (st)))) : Go p e below K (T.setTop (mkF m pc Ls (.int v :: st))) := by
  subst hp
  exact Go.via (fun t k => XS.istore (g := mkF m pc Ls (.int v :: st)) X.here H.1 rfl (hb H.2 hd) rfl hl k) g

theorem gAstore (X : Stand p l e R s m args below meth c T locs cells slots) (H : p.tables.exec = Jvm.exec ∧ c.code = bs) {k : Nat} {v : Value} (hd : decode bs pc = .ok (.astore k, 2)) (hv : v.isRef = true) (hl : storeLocals Ls k v = some Ls') (pc' : Nat) (hp : pc + 2 = pc') (g : Go p e below K (T.setTop (mkF m pc' Ls' (st)))) : Go p e below K (T.setTop (mkF m pc Ls (v :: st))) := by
  subst hp
  exact Go.via (fun t k => XS.astore (g := mkF m pc Ls (v :: st)) X.here H.1 rfl (hb H.2 hd) rfl hv hl k) g

theorem gIconst (X : Stand p l e R s m args below meth c T locs cells slots) (H : p.tables.exec = Jvm.exec ∧ c.code = bs) {i : Int} {z : Int32} (hd : decode bs pc = .ok (.iconst i, 1)) (hz : Int32.ofInt i = z) (pc' : Nat) (hp : pc + 1 = pc') (g : Go p e below K (T.setTop (mkF m pc' Ls (.int z :: st)))) : Go p e below K (T.setTop (mkF m pc Ls (st))) := by
  subst hp hz
  exact Go.via (fun t k => XS.iconst (g := mkF m pc Ls (st)) X.here H.1 rfl (hb H.2 hd) k) g

theorem gBipush (X : Stand p l e R s m args below meth c T locs cells slots) (H : p.tables.exec = Jvm.exec ∧ c.code = bs) {i : Int} {z : Int32} (hd : decode bs pc = .ok (.bipush i, 2)) (hz : (Int8.ofInt i).toInt32 = z) (pc' : Nat) (hp : pc + 2 = pc') (g : Go p e below K (T.setTop (mkF m pc' Ls (.int z :: st)))) : Go p e below K (T.setTop (mkF m pc Ls (st))) := by
  subst hp hz
  exact Go.via (fun t k => XS.bipush (g := mkF m pc Ls (st)) X.here H.1 rfl (hb H.2 hd) k) g

theorem g_iadd (X : Stand p l e R s m args below meth c T locs cells slots) (H : p.tables.exec = Jvm.exec ∧ c.code = bs) {x y z : Int32} (hd : decode bs pc = .ok (.iadd, 1)) (hz : x + y = z) (pc' : Nat) (hp : pc + 1 = pc') (g : Go p e below K (T.setTop (mkF m pc' Ls (.int z :: st)))) : Go p e below K (T.setTop (mkF m pc Ls (.int y :: .int x :: st))) := by
  subst hp hz
  exact Go.via (fun t k => XS.iadd (g := mkF m pc Ls (.int y :: .int x :: st)) X.here H.1 rfl (hb H.2 hd) rfl k) g

theorem g_isub (X : Stand p l e R s m args below meth c T locs cells slots) (H : p.tables.exec = Jvm.exec ∧ c.code = bs) {x y z : Int32} (hd : decode bs pc = .ok (.isub, 1)) (hz : x - y = z) (pc' : Nat) (hp : pc + 1 = pc') (g : Go p e below K (T.setTop (mkF m pc' Ls (.int z :: st)))) : Go p e below K (T.setTop (mkF m pc Ls (.int y :: .int x :: st))) := by
  subst hp hz
  exact Go.via (fun t k => XS.isub (g := mkF m pc Ls (.int y :: .int x :: st)) X.here H.1 rfl (hb H.2 hd) rfl k) g

theorem g_iand (X : Stand p l e R s m args below meth c T locs cells slots) (H : p.tables.exec = Jvm.exec ∧ c.code = bs) {x y z : Int32} (hd : decode bs pc = .ok (.iand, 1)) (hz : x &&& y = z) (pc' : Nat) (hp : pc + 1 = pc') (g : Go p e below K (T.setTop (mkF m pc' Ls (.int z :: st)))) : Go p e below K (T.setTop (mkF m pc Ls (.int y :: .int x :: st))) := by
  subst hp hz
  exact Go.via (fun t k => XS.iand (g := mkF m pc Ls (.int y :: .int x :: st)) X.here H.1 rfl (hb H.2 hd) rfl k) g

theorem g_ladd (X : Stand p l e R s m args below meth c T locs cells slots) (H : p.tables.exec = Jvm.exec ∧ c.code = bs) {x y z : Int64} (hd : decode bs pc = .ok (.ladd, 1)) (hz : x + y = z) (pc' : Nat) (hp : pc + 1 = pc') (g : Go p e below K (T.setTop (mkF m pc' Ls (.long z :: st)))) : Go p e below K (T.setTop (mkF m pc Ls (.long y :: .long x :: st))) := by
  subst hp hz
  exact Go.via (fun t k => XS.ladd (g := mkF m pc Ls (.long y :: .long x :: st)) X.here H.1 rfl (hb H.2 hd) rfl k) g

theorem g_lmul (X : Stand p l e R s m args below meth c T locs cells slots) (H : p.tables.exec = Jvm.exec ∧ c.code = bs) {x y z : Int64} (hd : decode bs pc = .ok (.lmul, 1)) (hz : x * y = z) (pc' : Nat) (hp : pc + 1 = pc') (g : Go p e below K (T.setTop (mkF m pc' Ls (.long z :: st)))) : Go p e below K (T.setTop (mkF m pc Ls (.long y :: .long x :: st))) := by
  subst hp hz
  exact Go.via (fun t k => XS.lmul (g := mkF m pc Ls (.long y :: .long x :: st)) X.here H.1 rfl (hb H.2 hd) rfl k) g

theorem g_irem (X : Stand p l e R s m args below meth c T locs cells slots) (H : p.tables.exec = Jvm.exec ∧ c.code = bs) {x y z : Int32} (hd : decode bs pc = .ok (.irem, 1)) (hy : y ≠ 0) (hz : x % y = z) (pc' : Nat) (hp : pc + 1 = pc') (g : Go p e below K (T.setTop (mkF m pc' Ls (.int z :: st)))) : Go p e below K (T.setTop (mkF m pc Ls (.int y :: .int x :: st))) := by
  subst hp hz
  exact Go.via (fun t k => iremM (g := mkF m pc Ls (.int y :: .int x :: st)) X H.1 rfl (hb H.2 hd) rfl hy k) g

theorem g_lcmp (X : Stand p l e R s m args below meth c T locs cells slots) (H : p.tables.exec = Jvm.exec ∧ c.code = bs) {x y : Int64} {z : Int32} (hd : decode bs pc = .ok (.lcmp, 1)) (hz : lcmpW x y = z) (pc' : Nat) (hp : pc + 1 = pc') (g : Go p e below K (T.setTop (mkF m pc' Ls (.int z :: st)))) : Go p e below K (T.setTop (mkF m pc Ls (.long y :: .long x :: st))) := by
  subst hp hz
  exact Go.via (fun t k => XS.lcmp (g := mkF m pc Ls (.long y :: .long x :: st)) X.here H.1 rfl (hb H.2 hd) rfl k) g

theorem g_i2l (X : Stand p l e R s m args below meth c T locs cells slots) (H : p.tables.exec = Jvm.exec ∧ c.code = bs) {x : Int32} {z : Int64} (hd : decode bs pc = .ok (.i2l, 1)) (hz : x.toInt64 = z) (pc' : Nat) (hp : pc + 1 = pc') (g : Go p e below K (T.setTop (mkF m pc' Ls (.long z :: st)))) : Go p e below K (T.setTop (mkF m pc Ls (.int x :: st))) := by
  subst hp hz
  exact Go.via (fun t k => XS.i2l (g := mkF m pc Ls (.int x :: st)) X.here H.1 rfl (hb H.2 hd) rfl k) g

theorem gGoto (X : Stand p l e R s m args below meth c T locs cells slots) (H : p.tables.exec = Jvm.exec ∧ c.code = bs)  {o : Int} (hd : decode bs pc = .ok (.goto o, 3)) (ho : 0 ≤ (pc : Int) + o) (pc' : Nat) (hp : ((pc : Int) + o).toNat = pc') (g : Go p e below K (T.setTop (mkF m pc' Ls (st)))) : Go p e below K (T.setTop (mkF m pc Ls (st))) :=
  Go.via (fun t k => XS.goto (g := mkF m pc Ls (st)) X.here H.1 rfl rfl (hb H.2 hd) ho hp k) g

theorem gIfY (X : Stand p l e R s m args below meth c T locs cells slots) (H : p.tables.exec = Jvm.exec ∧ c.code = bs) {cd : ClassFile.Cond} {x : Int32} {o : Int} (hd : decode bs pc = .ok (.ifCond cd o, 3)) (hc : ifCond.holds cd x = true) (ho : 0 ≤ (pc : Int) + o) (pc' : Nat) (hp : ((pc : Int) + o).toNat = pc') (g : Go p e below K (T.setTop (mkF m pc' Ls (st)))) : Go p e below K (T.setTop (mkF m pc Ls (.int x :: st))) :=
  Go.via (fun t k => XS.ifYes (g := mkF m pc Ls (.int x :: st)) X.here H.1 rfl rfl (hb H.2 hd) rfl hc ho hp k) g

theorem gCmpY (X : Stand p l e R s m args below meth c T locs cells slots) (H : p.tables.exec = Jvm.exec ∧ c.code = bs) {cd : ClassFile.Cond} {x y : Int32} {o : Int} (hd : decode bs pc = .ok (.if_icmp cd o, 3)) (hc : if_icmp.holds cd x y = true) (ho : 0 ≤ (pc : Int) + o) (pc' : Nat) (hp : ((pc : Int) + o).toNat = pc') (g : Go p e below K (T.setTop (mkF m pc' Ls (st)))) : Go p e below K (T.setTop (mkF m pc Ls (.int y :: .int x :: st))) :=
  Go.via (fun t k => XS.icmpYes (g := mkF m pc Ls (.int y :: .int x :: st)) X.here H.1 rfl rfl (hb H.2 hd) rfl hc ho hp k) g

theorem gIfN (X : Stand p l e R s m args below meth c T locs cells slots) (H : p.tables.exec = Jvm.exec ∧ c.code = bs) {o : Int} {cd : ClassFile.Cond} {x : Int32} (hd : decode bs pc = .ok (.ifCond cd o, 3)) (hc : ifCond.holds cd x = false) (pc' : Nat) (hp : pc + 3 = pc') (g : Go p e below K (T.setTop (mkF m pc' Ls (st)))) : Go p e below K (T.setTop (mkF m pc Ls (.int x :: st))) := by
  subst hp
  exact Go.via (fun t k => XS.ifNo (g := mkF m pc Ls (.int x :: st)) X.here H.1 rfl (hb H.2 hd) rfl hc k) g

theorem gCmpN (X : Stand p l e R s m args below meth c T locs cells slots) (H : p.tables.exec = Jvm.exec ∧ c.code = bs) {o : Int} {cd : ClassFile.Cond} {x y : Int32} (hd : decode bs pc = .ok (.if_icmp cd o, 3)) (hc : if_icmp.holds cd x y = false) (pc' : Nat) (hp : pc + 3 = pc') (g : Go p e below K (T.setTop (mkF m pc' Ls (st)))) : Go p e below K (T.setTop (mkF m pc Ls (.int y :: .int x :: st))) := by
  subst hp
  exact Go.via (fun t k => XS.icmpNo (g := mkF m pc Ls (.int y :: .int x :: st)) X.here H.1 rfl (hb H.2 hd) rfl hc k) g

theorem gLdc (X : Stand p l e R s m args below meth c T locs cells slots) (H : p.tables.exec = Jvm.exec ∧ c.code = bs) (hZ : Z.Warmed39 s.vm) {own : String} {index : Nat} (hown : s.vm.findClass own = some m.cls) {v : Int32} (w : (Cond.constant own index v).before a0 Z = true) (hd : decode bs pc = .ok (.ldc index, 2)) (pc' : Nat) (hp : pc + 2 = pc') (g : Go p e below K (T.setTop (mkF m pc' Ls (.int v :: st)))) : Go p e below K (T.setTop (mkF m pc Ls (st))) := by
  subst hp
  exact Go.via (X.ldcInt H.1 hown (mvT hZ w) (g := mkF m pc Ls st) rfl (hb H.2 hd)) g

theorem gLdc2 (X : Stand p l e R s m args below meth c T locs cells slots) (H : p.tables.exec = Jvm.exec ∧ c.code = bs) (hZ : Z.Warmed39 s.vm) {own : String} {index : Nat} (hown : s.vm.findClass own = some m.cls) {v : Int64} (w : (Cond.constantLong own index v).before a0 Z = true) (hd : decode bs pc = .ok (.ldc2_w index, 3)) (pc' : Nat) (hp : pc + 3 = pc') (g : Go p e below K (T.setTop (mkF m pc' Ls (.long v :: st)))) : Go p e below K (T.setTop (mkF m pc Ls (st))) := by
  subst hp
  exact Go.via (X.ldc2Long H.1 hown (mvT hZ w) (g := mkF m pc Ls st) rfl (hb H.2 hd)) g

theorem gGetS (X : Stand p l e R s m args below meth c T locs cells slots) (H : p.tables.exec = Jvm.exec ∧ c.code = bs) (hZ : Z.Warmed39 s.vm) {own : String} {index : Nat} (hown : s.vm.findClass own = some m.cls) {O n d : String} {v : Value} (w : (Cond.fieldLink own index O n d).before a0 Z = true) (eT : T.heap = h) (F : Sta Z h O n d v) (hd : decode bs pc = .ok (.getstatic index, 3)) (pc' : Nat) (hp : pc + 3 = pc') (g : ∀ T', Stand p l e R s m args below meth c T' locs cells slots → T'.heap = h → Go p e below K (T'.setTop (mkF m pc' Ls (v :: st)))) : Go p e below K (T.setTop (mkF m pc Ls (st))) := by
  subst hp
  obtain ⟨T', X', e', k⟩ := getS2 X H.1 hZ hown (host := "") (Or.inl w) Via.refl eT F (g := mkF m pc Ls st) rfl (hb H.2 hd)
  exact Go.via k (g T' X' e')

theorem gGetF (X : Stand p l e R s m args below meth c T locs cells slots) (H : p.tables.exec = Jvm.exec ∧ c.code = bs) (hZ : Z.Warmed39 s.vm) {own : String} {index : Nat} (hown : s.vm.findClass own = some m.cls) {R0 O n d : String} {a : Addr} {v : Value} (w : (Cond.fieldLink own index R0 n d).before a0 Z = true) (via : Via Z R0 O n d) (eT : T.heap = h) (F : Fld Z h a O n d v) (hd : decode bs pc = .ok (.getfield index, 3)) (pc' : Nat) (hp : pc + 3 = pc') (g : ∀ T', Stand p l e R s m args below meth c T' locs cells slots → T'.heap = h → Go p e below K (T'.setTop (mkF m pc' Ls (v :: st)))) : Go p e below K (T.setTop (mkF m pc Ls (.ref a :: st))) := by
  subst hp
  obtain ⟨T', X', e', k⟩ := getF X H.1 hZ hown (host := "") (Or.inl w) via eT F (g := mkF m pc Ls (.ref a :: st)) rfl rfl (hb H.2 hd)
  exact Go.via k (g T' X' e')

theorem gStatic (X : Stand p l e R s m args below meth c T locs cells slots) (H : p.tables.exec = Jvm.exec ∧ c.code = bs) (hZ : Z.Warmed39 s.vm) {own : String} {index : Nat} (hown : s.vm.findClass own = some m.cls) {y : MethodName} {bytes : ByteArray} {maxL : Nat} {ret : Option FieldType} {rm : Room} {as : Array Value} {Q : Option Value → Heap → List Loc → Prop} {W maxO : Nat} {argsL rest : List Value} {ps : List FieldType} {r : Option FieldType} (wl : (Cond.methodLink own index y).before a0 Z = true) (wst : (Cond.static y).before a0 Z = true) (hy : y.cls ≠ "java/lang/invoke/MethodHandle" ∧ y.cls ≠ "java/lang/invoke/VarHandle") (wc : (Cond.code y bytes maxL ret).before a0 Z = true) (wz : (Cond.initialized (y).cls).before a0 Z = true) (M : Con l Z y bytes maxL ret rm as h Q) (eT : T.heap = h) (hml : c.maxLocals = maxO) (hs : Ls.size = maxO) (hpd : parseMethodDescriptor y.desc = some ⟨ps, r⟩) (hlen : argsL.length = ps.length) (hstack : st = argsL.reverse ++ rest) (has : argsL.toArray = as) (hd : decode bs pc = .ok (.invokestatic index, 3)) (pc' : Nat) (hp : pc + 3 = pc')
    (g : ∀ v T' L, Q v T'.heap L → Stand p l e R s m args below meth c T' (locs ++ L) (cells + rm.cells) (slots + rm.slots) → Go p e below K (T'.setTop (mkF m pc' Ls (v.toList ++ rest)))) (hW : (rest.map fun v => v.category).sum ≤ W := by exact Nat.le_of_eq rfl) (hf : rm.frames + 1 ≤ R.frames := by decide) (hl : W + (maxL + 11) + rm.locals ≤ R.locals := by decide) (hc : cells + rm.cells ≤ R.cells := by decide) (hsl : slots + rm.slots ≤ R.slots := by decide) : Go p e below K (T.setTop (mkF m pc Ls (st))) := by
  subst hp has
  obtain ⟨v, _, ⟨T', L', k', n'⟩, -, X', ⟨L, hQ, l', y', z'⟩, k⟩ := Jvm.LawKit.callS X H.1 (y := y) hown (mvT hZ wl) (mvT hZ wst) (mvT hZ wz) (mvT hZ wc) hy (backOf (W := W) (M []) hZ wc wz hf hl) (g := mkF m pc Ls st) rfl (hs.trans hml.symm) (argsL := argsL) (rest := rest) (lenOf hpd hlen) hstack (by show 2 * 0 + _ ≤ _; omega) (hb H.2 hd) (fun _ _ => ⟨rfl, eT, hc, hsl⟩)
  dsimp only [Pt.U, Pt.locs, Pt.cells, Pt.slots] at X' l' y' z' k hQ
  subst l' y' z'
  exact Go.via k (g v T' L hQ X')

theorem gRetN (X : Stand p l e R s m args below meth c T locs cells slots) (H : p.tables.exec = Jvm.exec ∧ c.code = bs) (hlk : meth.locks = false) {Q : Option Value → Heap → List Loc → Prop} {C S : Nat} {t : FieldType} {z : Int32} (hret : meth.sig.returnType = some t) (ht : t = .boolean ∨ t = .byte ∨ t = .char ∨ t = .short) (hd : decode bs pc = .ok (.ireturn, 1)) (eT : T.heap = h) (q : Q (some (.int (nar t z))) h locs) (hC : cells ≤ C := by decide) (hS : slots ≤ S := by decide) : Go p e below (EndK s below Q C S) (T.setTop (mkF m pc Ls (.int z :: st))) := by
  subst eT
  obtain ⟨fs, hr, hrun, hended, hW, hsame⟩ := X.leave (v := (some (.int (nar t z)))) (fun h => by rw [hret] at h; cases h) hlk
  exact ⟨_, _, retN X H.1 hret ht (hb H.2 hd) hr, hrun, hended, _, _, rfl, q, ⟨_, rfl⟩, hW, hsame.mono hC hS⟩

theorem gRetL (X : Stand p l e R s m args below meth c T locs cells slots) (H : p.tables.exec = Jvm.exec ∧ c.code = bs) (hlk : meth.locks = false) {Q : Option Value → Heap → List Loc → Prop} {C S : Nat} {z : Int64} (hret : meth.sig.returnType = some .long) (hd : decode bs pc = .ok (.lreturn, 1)) (eT : T.heap = h) (q : Q (some (.long z)) h locs) (hC : cells ≤ C := by decide) (hS : slots ≤ S := by decide) : Go p e below (EndK s below Q C S) (T.setTop (mkF m pc Ls (.long z :: st))) := by
  subst eT
  obtain ⟨fs, hr, hrun, hended, hW, hsame⟩ := X.leave (v := (some (.long z))) (fun h => by rw [hret] at h; cases h) hlk
  exact ⟨_, _, retOut X H.1 hret rfl (Or.inr (Or.inl ⟨rfl, rfl, z, rfl⟩)) (hb H.2 hd) hr, hrun, hended, _, _, rfl, q, ⟨_, rfl⟩, hW, hsame.mono hC hS⟩

theorem gVirt (X : Stand p l e R s m args below meth c T locs cells slots) (H : p.tables.exec = Jvm.exec ∧ c.code = bs) (hZ : Z.Warmed39 s.vm) {own : String} {index : Nat} (hown : s.vm.findClass own = some m.cls) {C : String} {y : MethodName} {bytes : ByteArray} {maxL : Nat} {ret : Option FieldType} {rm : Room} {as : Array Value} {Q : Option Value → Heap → List Loc → Prop} {W maxO : Nat} {argsL rest : List Value} {ps : List FieldType} {r : Option FieldType} (wl : (Cond.methodLink own index y).before a0 Z = true) (wd : (Cond.declares y).before a0 Z = true) (wse : (Cond.selects C y y).before a0 Z = true) (wi : (Cond.instanceMethod y).before a0 Z = true) (hy : y.cls ≠ "java/lang/invoke/MethodHandle" ∧ y.cls ≠ "java/lang/invoke/VarHandle") {b : Addr} (E : Exa Z h b C) (wc : (Cond.code y bytes maxL ret).before a0 Z = true) (wz : (Cond.initialized (y).cls).before a0 Z = true) (M : Con l Z y bytes maxL ret rm as h Q) (eT : T.heap = h) (hml : c.maxLocals = maxO) (hs : Ls.size = maxO) (hpd : parseMethodDescriptor y.desc = some ⟨ps, r⟩) (hlen : argsL.length = ps.length) (hstack : st = argsL.reverse ++ .ref b :: rest) (has : (.ref b :: argsL).toArray = as) (hd : decode bs pc = .ok (.invokevirtual index, 3)) (pc' : Nat) (hp : pc + 3 = pc')
    (g : ∀ v T' L, Q v T'.heap L → Stand p l e R s m args below meth c T' (locs ++ L) (cells + rm.cells) (slots + rm.slots) → Go p e below K (T'.setTop (mkF m pc' Ls (v.toList ++ rest)))) (hW : (rest.map fun v => v.category).sum ≤ W := by exact Nat.le_of_eq rfl) (hf : rm.frames + 1 ≤ R.frames := by decide) (hl : W + (maxL + 11) + rm.locals ≤ R.locals := by decide) (hc : cells + rm.cells ≤ R.cells := by decide) (hsl : slots + rm.slots ≤ R.slots := by decide) : Go p e below K (T.setTop (mkF m pc Ls (st))) := by
  subst hp has
  obtain ⟨cB, kB, q1, q2, q3⟩ := isOf hZ eT E
  obtain ⟨v, _, ⟨T', L', k', n'⟩, -, X', ⟨L, hQ, l', y', z'⟩, k⟩ := X.virtualBack H.1 (y := y) (z := y) hown (mvT hZ wl) (mvT hZ wd) (notFace_of_selects (args := #[]) (mvT hZ wse)) (mvT hZ wse) (mvT hZ wi) hy (backOf (W := W) (M []) hZ wc wz hf hl) q1 q3 (g := mkF m pc Ls st) rfl (hs.trans hml.symm) (Steps.refl _) (argsL := argsL) (rest := rest) (lenOf hpd hlen) hstack (by show 2 * 0 + _ ≤ _; omega) (hb H.2 hd) (fun _ _ => ⟨rfl, eT, hc, hsl⟩)
  dsimp only [Pt.U, Pt.locs, Pt.cells, Pt.slots] at X' l' y' z' k hQ
  subst l' y' z'
  exact Go.via (fun t q => k.trans q) (g v T' L hQ X')

end Steps
theorem eqI {args : Array Value} {s : State} {t : Term} {w : Addr} {C n d : String} {k : Int32} (ev : t.eval args s none [] s = some (.ref w)) (q : (Jvm.Cond.eq (.field t C n d) (.int k)).value args s none s [] = some true) : Fld s s.heap w C n d (.int k) := by
  refine Fld.start ?_
  rw [← fld_at (args := args) (first := s) (o := none) (idx := []) ev]
  obtain ⟨x, y, h1, h2, k1, k2⟩ := cmp_v (Or.inl q)
  obtain rfl : y = .int k := (Option.some.inj ((Term.int_eval k).symm.trans h2)).symm
  obtain ⟨z, rfl⟩ := k2
  simp [Cond.value, h1, h2] at q
  rw [h1, q]
theorem eqR {args : Array Value} {s : State} {t t' : Term} {w w' : Addr} {C n d : String} (ev : t.eval args s none [] s = some (.ref w)) (ev' : t'.eval args s none [] s = some (.ref w')) (q : (Jvm.Cond.eq (.field t C n d) t').value args s none s [] = some true) : Fld s s.heap w C n d (.ref w') := by
  refine Fld.start ?_
  rw [← fld_at (args := args) (first := s) (o := none) (idx := []) ev]
  obtain ⟨x, y, h1, h2, k1, k2⟩ := cmp_v (Or.inl q)
  obtain rfl : y = .ref w' := (Option.some.inj (ev'.symm.trans h2)).symm
  have hx : x.isRef = true := k2.2
  have := gotT (eq_R h1 h2 hx rfl) q
  rw [h1, this]
theorem eqN {args : Array Value} {s : State} {t : Term} {w : Addr} {C n d : String} (ev : t.eval args s none [] s = some (.ref w)) (q : (Jvm.Cond.eq (.field t C n d) .null).value args s none s [] = some true) : Fld s s.heap w C n d .null := by
  refine Fld.start ?_
  rw [← fld_at (args := args) (first := s) (o := none) (idx := []) ev]
  exact null_v q
theorem fldE {args : Array Value} {s : State} {t : Term} {w w' : Addr} {C n d : String} (ev : t.eval args s none [] s = some (.ref w)) (ev' : (Term.field t C n d).eval args s none [] s = some (.ref w')) : Fld s s.heap w C n d (.ref w') :=
  Fld.start ((fld_at (args := args) (first := s) (o := none) (idx := []) ev).symm.trans ev')
theorem t32_ne {a b : Int32} (h : a < b) : ¬ (a = b) := by rw [Int32.lt_iff_toInt_lt] at h; rw [← Int32.toInt_inj]; omega
theorem t32_as {a b : Int32} (h : a < b) : ¬ (b < a) := by rw [Int32.lt_iff_toInt_lt] at *; omega
theorem t32_ir {a b : Int32} (h : a = b) : ¬ (a < b) := by subst h; rw [Int32.lt_iff_toInt_lt]; omega
theorem t32_tot {a b : Int32} (h : ¬ (a < b)) (h2 : ¬ (a = b)) : b < a := by rw [Int32.lt_iff_toInt_lt] at *; rw [← Int32.toInt_inj] at h2; omega
theorem t32_eq {a b : Int32} (h : ¬ (a < b)) (h2 : ¬ (b < a)) : a = b := by rw [Int32.lt_iff_toInt_lt] at *; rw [← Int32.toInt_inj]; omega
theorem t64_ne {a b : Int64} (h : a < b) : ¬ (a = b) := by rw [Int64.lt_iff_toInt_lt] at h; rw [← Int64.toInt_inj]; omega
theorem t64_as {a b : Int64} (h : a < b) : ¬ (b < a) := by rw [Int64.lt_iff_toInt_lt] at *; omega
theorem t64_ir {a b : Int64} (h : a = b) : ¬ (a < b) := by subst h; rw [Int64.lt_iff_toInt_lt]; omega
theorem t64_tot {a b : Int64} (h : ¬ (a < b)) (h2 : ¬ (a = b)) : b < a := by rw [Int64.lt_iff_toInt_lt] at *; rw [← Int64.toInt_inj] at h2; omega
theorem t64_eq {a b : Int64} (h : ¬ (a < b)) (h2 : ¬ (b < a)) : a = b := by rw [Int64.lt_iff_toInt_lt] at *; rw [← Int64.toInt_inj]; omega

theorem wd0 : (Jvm.Cond.constant "com/example/unfussy_repo/unfussyrepo/jdbc/DatabaseTakesSqlPinLaw" (11 : Nat) (2147483647 : Int32)) ∈ tables_1 := List.mem_of_getElem? (i := 0) rfl
theorem wd1 : (Jvm.Cond.fieldLink "com/example/unfussy_repo/unfussyrepo/jdbc/DatabaseTakesSqlPinLaw" (12 : Nat) "com/example/unfussy_repo/unfussyrepo/jdbc/Database" "H2" "Lcom/example/unfussy_repo/unfussyrepo/jdbc/Database;") ∈ tables_1 := List.mem_of_getElem? (i := 1) rfl
theorem wd2 : (Jvm.Cond.initialized "com/example/unfussy_repo/unfussyrepo/jdbc/Database") ∈ tables_1 := List.mem_of_getElem? (i := 2) rfl
theorem wd3 : (Jvm.Cond.laysStatic "com/example/unfussy_repo/unfussyrepo/jdbc/Database" "H2" "Lcom/example/unfussy_repo/unfussyrepo/jdbc/Database;") ∈ tables_1 := List.mem_of_getElem? (i := 3) rfl
theorem wd4 : (Jvm.Cond.methodLink "com/example/unfussy_repo/unfussyrepo/jdbc/DatabaseTakesSqlPinLaw" (24 : Nat) ({ cls := "com/example/unfussy_repo/unfussyrepo/jdbc/DatabaseTakesSqlPinLaw", name := "key", desc := "(II)J" } : Jvm.MethodName)) ∈ tables_1 := List.mem_of_getElem? (i := 4) rfl
theorem wd5 : (Jvm.Cond.static ({ cls := "com/example/unfussy_repo/unfussyrepo/jdbc/DatabaseTakesSqlPinLaw", name := "key", desc := "(II)J" } : Jvm.MethodName)) ∈ tables_1 := List.mem_of_getElem? (i := 5) rfl
theorem wd6 : (Jvm.Cond.initialized "com/example/unfussy_repo/unfussyrepo/jdbc/DatabaseTakesSqlPinLaw") ∈ tables_1 := List.mem_of_getElem? (i := 6) rfl
theorem wd7 : (Jvm.Cond.code ({ cls := "com/example/unfussy_repo/unfussyrepo/jdbc/DatabaseTakesSqlPinLaw", name := "key", desc := "(II)J" } : Jvm.MethodName) method_2_code (2 : Nat) (Option.some Jvm.ClassFile.FieldType.long)) ∈ tables_1 := List.mem_of_getElem? (i := 7) rfl
theorem wd8 : (Jvm.Cond.constantLong "com/example/unfussy_repo/unfussyrepo/jdbc/DatabaseTakesSqlPinLaw" (7 : Nat) (4294967296 : Int64)) ∈ tables_1 := List.mem_of_getElem? (i := 8) rfl
theorem wd9 : (Jvm.Cond.constantLong "com/example/unfussy_repo/unfussyrepo/jdbc/DatabaseTakesSqlPinLaw" (9 : Nat) (2147483648 : Int64)) ∈ tables_1 := List.mem_of_getElem? (i := 9) rfl
theorem wd10 : (Jvm.Cond.methodLink "com/example/unfussy_repo/unfussyrepo/jdbc/DatabaseTakesSqlPinLaw" (30 : Nat) ({ cls := "com/example/unfussy_repo/unfussyrepo/jdbc/Database", name := "takesSql", desc := "(II)Z" } : Jvm.MethodName)) ∈ tables_1 := List.mem_of_getElem? (i := 10) rfl
theorem wd11 : (Jvm.Cond.declares ({ cls := "com/example/unfussy_repo/unfussyrepo/jdbc/Database", name := "takesSql", desc := "(II)Z" } : Jvm.MethodName)) ∈ tables_1 := List.mem_of_getElem? (i := 11) rfl
theorem wd12 : (Jvm.Cond.instanceMethod ({ cls := "com/example/unfussy_repo/unfussyrepo/jdbc/Database", name := "takesSql", desc := "(II)Z" } : Jvm.MethodName)) ∈ tables_1 := List.mem_of_getElem? (i := 12) rfl
theorem wd13 : (Jvm.Cond.selects "com/example/unfussy_repo/unfussyrepo/jdbc/Database" ({ cls := "com/example/unfussy_repo/unfussyrepo/jdbc/Database", name := "takesSql", desc := "(II)Z" } : Jvm.MethodName) ({ cls := "com/example/unfussy_repo/unfussyrepo/jdbc/Database", name := "takesSql", desc := "(II)Z" } : Jvm.MethodName)) ∈ tables_1 := List.mem_of_getElem? (i := 13) rfl
theorem wd14 : (Jvm.Cond.code ({ cls := "com/example/unfussy_repo/unfussyrepo/jdbc/Database", name := "takesSql", desc := "(II)Z" } : Jvm.MethodName) prog_13_method_6_code (3 : Nat) (Option.some Jvm.ClassFile.FieldType.boolean)) ∈ tables_1 := List.mem_of_getElem? (i := 14) rfl
theorem wd15 : (Jvm.Cond.fieldLink "com/example/unfussy_repo/unfussyrepo/jdbc/Database" (36 : Nat) "com/example/unfussy_repo/unfussyrepo/jdbc/Database" "lowestMajor" "I") ∈ tables_1 := List.mem_of_getElem? (i := 15) rfl
theorem wd17 : (Jvm.Cond.fieldLink "com/example/unfussy_repo/unfussyrepo/jdbc/DatabaseTakesSqlPinLaw" (18 : Nat) "com/example/unfussy_repo/unfussyrepo/jdbc/Database" "POSTGRESQL" "Lcom/example/unfussy_repo/unfussyrepo/jdbc/Database;") ∈ tables_1 := List.mem_of_getElem? (i := 17) rfl
theorem wd18 : (Jvm.Cond.laysStatic "com/example/unfussy_repo/unfussyrepo/jdbc/Database" "POSTGRESQL" "Lcom/example/unfussy_repo/unfussyrepo/jdbc/Database;") ∈ tables_1 := List.mem_of_getElem? (i := 18) rfl
theorem wd19 : (Jvm.Cond.fieldLink "com/example/unfussy_repo/unfussyrepo/jdbc/DatabaseTakesSqlPinLaw" (21 : Nat) "com/example/unfussy_repo/unfussyrepo/jdbc/Database" "MARIADB" "Lcom/example/unfussy_repo/unfussyrepo/jdbc/Database;") ∈ tables_1 := List.mem_of_getElem? (i := 19) rfl
theorem wd20 : (Jvm.Cond.laysStatic "com/example/unfussy_repo/unfussyrepo/jdbc/Database" "MARIADB" "Lcom/example/unfussy_repo/unfussyrepo/jdbc/Database;") ∈ tables_1 := List.mem_of_getElem? (i := 20) rfl
theorem wd21 : (Jvm.Cond.fieldLink "com/example/unfussy_repo/unfussyrepo/jdbc/Database" (40 : Nat) "com/example/unfussy_repo/unfussyrepo/jdbc/Database" "lowestMinor" "I") ∈ tables_1 := List.mem_of_getElem? (i := 21) rfl
theorem d1_0 : decode method_2_code 0 = .ok (.iload_n 0, 1) := by decide +kernel
theorem d1_1 : decode method_2_code 1 = .ok (.i2l, 1) := by decide +kernel
theorem d1_2 : decode method_2_code 2 = .ok (.ldc2_w 7, 3) := by decide +kernel
theorem d1_5 : decode method_2_code 5 = .ok (.lmul, 1) := by decide +kernel
theorem d1_6 : decode method_2_code 6 = .ok (.iload_n 1, 1) := by decide +kernel
theorem d1_7 : decode method_2_code 7 = .ok (.i2l, 1) := by decide +kernel
theorem d1_8 : decode method_2_code 8 = .ok (.ldc2_w 9, 3) := by decide +kernel
theorem d1_11 : decode method_2_code 11 = .ok (.ladd, 1) := by decide +kernel
theorem d1_12 : decode method_2_code 12 = .ok (.ladd, 1) := by decide +kernel
theorem d1_13 : decode method_2_code 13 = .ok (.lreturn, 1) := by decide +kernel
theorem d2_0 : decode prog_13_method_6_code 0 = .ok (.iload_n 1, 1) := by decide +kernel
theorem d2_1 : decode prog_13_method_6_code 1 = .ok (.aload_n 0, 1) := by decide +kernel
theorem d2_2 : decode prog_13_method_6_code 2 = .ok (.getfield 36, 3) := by decide +kernel
theorem d2_5 : decode prog_13_method_6_code 5 = .ok (.if_icmp .gt 19, 3) := by decide +kernel
theorem d2_8 : decode prog_13_method_6_code 8 = .ok (.iload_n 1, 1) := by decide +kernel
theorem d2_9 : decode prog_13_method_6_code 9 = .ok (.aload_n 0, 1) := by decide +kernel
theorem d2_10 : decode prog_13_method_6_code 10 = .ok (.getfield 36, 3) := by decide +kernel
theorem d2_13 : decode prog_13_method_6_code 13 = .ok (.if_icmp .ne 15, 3) := by decide +kernel
theorem d2_16 : decode prog_13_method_6_code 16 = .ok (.iload_n 2, 1) := by decide +kernel
theorem d2_17 : decode prog_13_method_6_code 17 = .ok (.aload_n 0, 1) := by decide +kernel
theorem d2_18 : decode prog_13_method_6_code 18 = .ok (.getfield 40, 3) := by decide +kernel
theorem d2_21 : decode prog_13_method_6_code 21 = .ok (.if_icmp .lt 7, 3) := by decide +kernel
theorem d2_24 : decode prog_13_method_6_code 24 = .ok (.iconst 1, 1) := by decide +kernel
theorem d2_25 : decode prog_13_method_6_code 25 = .ok (.goto 4, 3) := by decide +kernel
theorem d2_28 : decode prog_13_method_6_code 28 = .ok (.iconst 0, 1) := by decide +kernel
theorem d2_29 : decode prog_13_method_6_code 29 = .ok (.ireturn, 1) := by decide +kernel
theorem pd0 : parseMethodDescriptor "(II)J" = some ⟨[.int, .int], some .long⟩ := by decide +kernel
theorem pd1 : parseMethodDescriptor "(II)Z" = some ⟨[.int, .int], some .boolean⟩ := by decide +kernel
theorem pn0 : plainName "com/example/unfussy_repo/unfussyrepo/jdbc/DatabaseTakesSqlPinLaw" = true := by first | (simp [plainName, overriddenIn]; done) | decide +kernel
theorem pn1 : plainName "com/example/unfussy_repo/unfussyrepo/jdbc/DatabaseTakesSqlPinLaw" = true := by first | (simp [plainName, overriddenIn]; done) | decide +kernel
theorem pn2 : plainName "com/example/unfussy_repo/unfussyrepo/jdbc/Database" = true := by first | (simp [plainName, overriddenIn]; done) | decide +kernel
def World (Z : State) (w_Database_H2 w_Database_POSTGRESQL w_Database_MARIADB : Addr) : Prop :=
  Sta Z Z.heap "com/example/unfussy_repo/unfussyrepo/jdbc/Database" "H2" "Lcom/example/unfussy_repo/unfussyrepo/jdbc/Database;" (.ref w_Database_H2) ∧
  Exa Z Z.heap w_Database_H2 "com/example/unfussy_repo/unfussyrepo/jdbc/Database" ∧
  Sta Z Z.heap "com/example/unfussy_repo/unfussyrepo/jdbc/Database" "POSTGRESQL" "Lcom/example/unfussy_repo/unfussyrepo/jdbc/Database;" (.ref w_Database_POSTGRESQL) ∧
  Exa Z Z.heap w_Database_POSTGRESQL "com/example/unfussy_repo/unfussyrepo/jdbc/Database" ∧
  Sta Z Z.heap "com/example/unfussy_repo/unfussyrepo/jdbc/Database" "MARIADB" "Lcom/example/unfussy_repo/unfussyrepo/jdbc/Database;" (.ref w_Database_MARIADB) ∧
  Exa Z Z.heap w_Database_MARIADB "com/example/unfussy_repo/unfussyrepo/jdbc/Database" ∧
  Fld Z Z.heap w_Database_H2 "com/example/unfussy_repo/unfussyrepo/jdbc/Database" "lowestMajor" "I" (.int 2) ∧
  Fld Z Z.heap w_Database_POSTGRESQL "com/example/unfussy_repo/unfussyrepo/jdbc/Database" "lowestMajor" "I" (.int 10) ∧
  Fld Z Z.heap w_Database_MARIADB "com/example/unfussy_repo/unfussyrepo/jdbc/Database" "lowestMajor" "I" (.int 10) ∧
  Fld Z Z.heap w_Database_MARIADB "com/example/unfussy_repo/unfussyrepo/jdbc/Database" "lowestMinor" "I" (.int 6) ∧
  Fld Z Z.heap w_Database_H2 "com/example/unfussy_repo/unfussyrepo/jdbc/Database" "lowestMinor" "I" (.int 0) ∧
  Fld Z Z.heap w_Database_POSTGRESQL "com/example/unfussy_repo/unfussyrepo/jdbc/Database" "lowestMinor" "I" (.int 5)
abbrev Bg (Z : State) (a0 : Array Value) (w_Database_H2 w_Database_POSTGRESQL w_Database_MARIADB : Addr) : Prop := (∀ d ∈ tables_1, d.before a0 Z = true) ∧ World Z w_Database_H2 w_Database_POSTGRESQL w_Database_MARIADB
theorem mod_cases (k : Int32) : ((k &&& (2147483647 : Int32)) % (3 : Int32)) = (0 : Int32) ∨ ((k &&& (2147483647 : Int32)) % (3 : Int32)) = (1 : Int32) ∨ ((k &&& (2147483647 : Int32)) % (3 : Int32)) = (2 : Int32) := by
  have h1 := c_mask k (2147483647 : Int32) 31 (by decide) (by decide)
  have h2 := (c_irem (k &&& (2147483647 : Int32)) (3 : Int32) 3 (by decide)).1 (by omega)
  simp only [← Int32.toInt_inj]
  have e : ∀ i : Fin 3, (Int32.ofNat i.1).toInt = (i.1 : Int) := by decide
  have e0 : (0 : Int32).toInt = 0 := by decide
  have e1 : (1 : Int32).toInt = 1 := by decide
  have e2 : (2 : Int32).toInt = 2 := by decide
  omega
theorem keyv (ma mi : Int32) : (((ma.toInt64) * (4294967296 : Int64)) + ((mi.toInt64) + (2147483648 : Int64))).toInt = ma.toInt * 4294967296 + (mi.toInt + 2147483648) := by
  have h1 := c_lmul (ma.toInt64) (4294967296 : Int64)
  have h2 := c_ladd (mi.toInt64) (2147483648 : Int64)
  have h3 := c_ladd ((ma.toInt64) * (4294967296 : Int64)) ((mi.toInt64) + (2147483648 : Int64))
  have e1 : (4294967296 : Int64).toInt = 4294967296 := by decide
  have e2 : (2147483648 : Int64).toInt = 2147483648 := by decide
  rw [e1, c_i2l] at h1
  rw [e2, c_i2l] at h2
  have r1 := rng32 ma
  have r2 := rng32 mi
  have r3 := rng64 ((ma.toInt64) * (4294967296 : Int64))
  have r4 := rng64 ((mi.toInt64) + (2147483648 : Int64))
  have r5 := rng64 (((ma.toInt64) * (4294967296 : Int64)) + ((mi.toInt64) + (2147483648 : Int64)))
  omega
theorem key1 {ma lm : Int32} (mi lo : Int32) {L : Int64} (hL : L.toInt = lm.toInt * 4294967296 + (lo.toInt + 2147483648)) (h : lm < ma) : ¬ (((ma.toInt64) * (4294967296 : Int64)) + ((mi.toInt64) + (2147483648 : Int64))) < L := by
  rw [Int64.lt_iff_toInt_lt, keyv, hL]
  rw [Int32.lt_iff_toInt_lt] at h
  have r2 := rng32 mi
  have r3 := rng32 lo
  omega
theorem key2 {ma lm : Int32} (mi lo : Int32) {L : Int64} (hL : L.toInt = lm.toInt * 4294967296 + (lo.toInt + 2147483648)) (h : ¬ lm < ma) (hn : ¬ (ma = lm)) : (((ma.toInt64) * (4294967296 : Int64)) + ((mi.toInt64) + (2147483648 : Int64))) < L := by
  rw [Int64.lt_iff_toInt_lt, keyv, hL]
  rw [Int32.lt_iff_toInt_lt] at h
  rw [← Int32.toInt_inj] at hn
  have r2 := rng32 mi
  have r3 := rng32 lo
  omega
theorem key3 {ma lm : Int32} {mi lo : Int32} {L : Int64} (hL : L.toInt = lm.toInt * 4294967296 + (lo.toInt + 2147483648)) (h : ma = lm) (hn : mi < lo) : (((ma.toInt64) * (4294967296 : Int64)) + ((mi.toInt64) + (2147483648 : Int64))) < L := by
  rw [Int64.lt_iff_toInt_lt, keyv, hL, h]
  rw [Int32.lt_iff_toInt_lt] at hn
  omega
theorem key4 {ma lm : Int32} {mi lo : Int32} {L : Int64} (hL : L.toInt = lm.toInt * 4294967296 + (lo.toInt + 2147483648)) (h : ma = lm) (hn : ¬ mi < lo) : ¬ (((ma.toInt64) * (4294967296 : Int64)) + ((mi.toInt64) + (2147483648 : Int64))) < L := by
  rw [Int64.lt_iff_toInt_lt, keyv, hL, h]
  rw [Int32.lt_iff_toInt_lt] at hn
  omega
section Walk
variable {l : Launch} {Z : State} {a0 : Array Value} {w_Database_H2 w_Database_POSTGRESQL w_Database_MARIADB : Addr}
theorem rm4_1 (B : Bg Z a0 w_Database_H2 w_Database_POSTGRESQL w_Database_MARIADB) (p1 : Int32) (p2 : Int32) :
    Con l Z (⟨"com/example/unfussy_repo/unfussyrepo/jdbc/DatabaseTakesSqlPinLaw", "key", "(II)J"⟩ : MethodName) method_2_code 2 (some .long) ({ frames := 0, cells := 0, slots := 0, locals := 0 } : Room) #[(.int p1), (.int p2)] Z.heap (fun v h' L => v = some (.long (((p1.toInt64) * (4294967296 : Int64)) + ((p2.toInt64) + (2147483648 : Int64)))) ∧ h' = Z.heap ∧ L = []) := by
  have hw := B.1
  refine Con.of (plainFor_of_name pn1) (Ls := #[vI p1, vI p2]) (fun m => by first | rfl | (simp [entryFrame, mkF, argsToLocals, Value.category]; done)) ?_
  intro p e s m below meth c T0 X0 H hml hZ hown hnm hret hlk e0
  refine gIloadN X0 H d1_0 rfl 1 rfl ?_
  refine g_i2l X0 H d1_1 (z := (p1.toInt64)) rfl 2 rfl ?_
  refine gLdc2 X0 H hZ hown (hw _ wd8) d1_2 5 rfl ?_
  refine g_lmul X0 H d1_5 (z := ((p1.toInt64) * (4294967296 : Int64))) rfl 6 rfl ?_
  refine gIloadN X0 H d1_6 rfl 7 rfl ?_
  refine g_i2l X0 H d1_7 (z := (p2.toInt64)) rfl 8 rfl ?_
  refine gLdc2 X0 H hZ hown (hw _ wd9) d1_8 11 rfl ?_
  refine g_ladd X0 H d1_11 (z := ((p2.toInt64) + (2147483648 : Int64))) rfl 12 rfl ?_
  refine g_ladd X0 H d1_12 (z := (((p1.toInt64) * (4294967296 : Int64)) + ((p2.toInt64) + (2147483648 : Int64)))) rfl 13 rfl ?_
  exact gRetL X0 H hlk hret d1_13 e0 ⟨rfl, rfl, rfl⟩
theorem rm6_1 (B : Bg Z a0 w_Database_H2 w_Database_POSTGRESQL w_Database_MARIADB) :
    Con l Z (⟨"com/example/unfussy_repo/unfussyrepo/jdbc/DatabaseTakesSqlPinLaw", "key", "(II)J"⟩ : MethodName) method_2_code 2 (some .long) ({ frames := 0, cells := 0, slots := 0, locals := 0 } : Room) #[(.int 2), (.int 0)] Z.heap (fun v h' L => v = some (.long 10737418240) ∧ h' = Z.heap ∧ L = []) := by
  have hw := B.1
  refine Con.of (plainFor_of_name pn1) (Ls := #[vI 2, vI 0]) (fun m => by first | rfl | (simp [entryFrame, mkF, argsToLocals, Value.category]; done)) ?_
  intro p e s m below meth c T0 X0 H hml hZ hown hnm hret hlk e0
  refine gIloadN X0 H d1_0 rfl 1 rfl ?_
  refine g_i2l X0 H d1_1 (z := 2) (by decide) 2 rfl ?_
  refine gLdc2 X0 H hZ hown (hw _ wd8) d1_2 5 rfl ?_
  refine g_lmul X0 H d1_5 (z := 8589934592) (by decide) 6 rfl ?_
  refine gIloadN X0 H d1_6 rfl 7 rfl ?_
  refine g_i2l X0 H d1_7 (z := 0) (by decide) 8 rfl ?_
  refine gLdc2 X0 H hZ hown (hw _ wd9) d1_8 11 rfl ?_
  refine g_ladd X0 H d1_11 (z := 2147483648) (by decide) 12 rfl ?_
  refine g_ladd X0 H d1_12 (z := 10737418240) (by decide) 13 rfl ?_
  exact gRetL X0 H hlk hret d1_13 e0 ⟨rfl, rfl, rfl⟩
theorem rm10_2 (B : Bg Z a0 w_Database_H2 w_Database_POSTGRESQL w_Database_MARIADB) (p1 : Int32) (p2 : Int32) (hk2 : (2 : Int32) < p1) :
    Con l Z (⟨"com/example/unfussy_repo/unfussyrepo/jdbc/Database", "takesSql", "(II)Z"⟩ : MethodName) prog_13_method_6_code 3 (some .boolean) ({ frames := 0, cells := 0, slots := 0, locals := 0 } : Room) #[(.ref w_Database_H2), (.int p1), (.int p2)] Z.heap (fun v h' L => v = some (.int 1) ∧ h' = Z.heap ∧ L = []) := by
  have hw := B.1
  obtain ⟨S_w_Database_H2, E_w_Database_H2, S_w_Database_POSTGRESQL, E_w_Database_POSTGRESQL, S_w_Database_MARIADB, E_w_Database_MARIADB, F_w_Database_H2_lowestMajor, F_w_Database_POSTGRESQL_lowestMajor, F_w_Database_MARIADB_lowestMajor, F_w_Database_MARIADB_lowestMinor, F_w_Database_H2_lowestMinor, F_w_Database_POSTGRESQL_lowestMinor⟩ := B.2
  refine Con.of (plainFor_of_name pn2) (Ls := #[vR w_Database_H2, vI p1, vI p2]) (fun m => by first | rfl | (simp [entryFrame, mkF, argsToLocals, Value.category]; done)) ?_
  intro p e s m below meth c T0 X0 H hml hZ hown hnm hret hlk e0
  refine gIloadN X0 H d2_0 rfl 1 rfl ?_
  refine gAloadN X0 H d2_1 rfl rfl 2 rfl ?_
  refine gGetF X0 H hZ hown (hw _ wd15) Via.refl e0 F_w_Database_H2_lowestMajor d2_2 5 rfl ?_
  intro T9 X9 e9
  refine gCmpY X9 H d2_5 (tlt hk2).2.2.1 (by decide) 24 rfl ?_
  refine gIconst X9 H d2_24 (z := 1) rfl 25 rfl ?_
  refine gGoto X9 H d2_25 (by decide) 29 rfl ?_
  exact gRetN X9 H hlk hret (t := .boolean) (by simp) d2_29 e9 ⟨rfl, rfl, rfl⟩
theorem rm17_2 (B : Bg Z a0 w_Database_H2 w_Database_POSTGRESQL w_Database_MARIADB) (p1 : Int32) (p2 : Int32) (hk2 : ¬ ((2 : Int32) < p1)) (hk3 : p1 = (2 : Int32)) (hk4 : p2 < (0 : Int32)) :
    Con l Z (⟨"com/example/unfussy_repo/unfussyrepo/jdbc/Database", "takesSql", "(II)Z"⟩ : MethodName) prog_13_method_6_code 3 (some .boolean) ({ frames := 0, cells := 0, slots := 0, locals := 0 } : Room) #[(.ref w_Database_H2), (.int p1), (.int p2)] Z.heap (fun v h' L => v = some (.int 0) ∧ h' = Z.heap ∧ L = []) := by
  have hw := B.1
  obtain ⟨S_w_Database_H2, E_w_Database_H2, S_w_Database_POSTGRESQL, E_w_Database_POSTGRESQL, S_w_Database_MARIADB, E_w_Database_MARIADB, F_w_Database_H2_lowestMajor, F_w_Database_POSTGRESQL_lowestMajor, F_w_Database_MARIADB_lowestMajor, F_w_Database_MARIADB_lowestMinor, F_w_Database_H2_lowestMinor, F_w_Database_POSTGRESQL_lowestMinor⟩ := B.2
  refine Con.of (plainFor_of_name pn2) (Ls := #[vR w_Database_H2, vI p1, vI p2]) (fun m => by first | rfl | (simp [entryFrame, mkF, argsToLocals, Value.category]; done)) ?_
  intro p e s m below meth c T0 X0 H hml hZ hown hnm hret hlk e0
  refine gIloadN X0 H d2_0 rfl 1 rfl ?_
  refine gAloadN X0 H d2_1 rfl rfl 2 rfl ?_
  refine gGetF X0 H hZ hown (hw _ wd15) Via.refl e0 F_w_Database_H2_lowestMajor d2_2 5 rfl ?_
  intro T14 X14 e14
  refine gCmpN X14 H d2_5 (flt hk2).2.2.1 8 rfl ?_
  refine gIloadN X14 H d2_8 rfl 9 rfl ?_
  refine gAloadN X14 H d2_9 rfl rfl 10 rfl ?_
  refine gGetF X14 H hZ hown (hw _ wd15) Via.refl e14 F_w_Database_H2_lowestMajor d2_10 13 rfl ?_
  intro T15 X15 e15
  refine gCmpN X15 H d2_13 (teq hk3).2 16 rfl ?_
  refine gIloadN X15 H d2_16 rfl 17 rfl ?_
  refine gAloadN X15 H d2_17 rfl rfl 18 rfl ?_
  refine gGetF X15 H hZ hown (hw _ wd21) Via.refl e15 F_w_Database_H2_lowestMinor d2_18 21 rfl ?_
  intro T16 X16 e16
  refine gCmpY X16 H d2_21 (tlt hk4).1 (by decide) 28 rfl ?_
  refine gIconst X16 H d2_28 (z := 0) rfl 29 rfl ?_
  exact gRetN X16 H hlk hret (t := .boolean) (by simp) d2_29 e16 ⟨rfl, rfl, rfl⟩
theorem rm22_2 (B : Bg Z a0 w_Database_H2 w_Database_POSTGRESQL w_Database_MARIADB) (p1 : Int32) (p2 : Int32) (hk2 : ¬ ((2 : Int32) < p1)) (hk3 : p1 = (2 : Int32)) (hk4 : ¬ (p2 < (0 : Int32))) :
    Con l Z (⟨"com/example/unfussy_repo/unfussyrepo/jdbc/Database", "takesSql", "(II)Z"⟩ : MethodName) prog_13_method_6_code 3 (some .boolean) ({ frames := 0, cells := 0, slots := 0, locals := 0 } : Room) #[(.ref w_Database_H2), (.int p1), (.int p2)] Z.heap (fun v h' L => v = some (.int 1) ∧ h' = Z.heap ∧ L = []) := by
  have hw := B.1
  obtain ⟨S_w_Database_H2, E_w_Database_H2, S_w_Database_POSTGRESQL, E_w_Database_POSTGRESQL, S_w_Database_MARIADB, E_w_Database_MARIADB, F_w_Database_H2_lowestMajor, F_w_Database_POSTGRESQL_lowestMajor, F_w_Database_MARIADB_lowestMajor, F_w_Database_MARIADB_lowestMinor, F_w_Database_H2_lowestMinor, F_w_Database_POSTGRESQL_lowestMinor⟩ := B.2
  refine Con.of (plainFor_of_name pn2) (Ls := #[vR w_Database_H2, vI p1, vI p2]) (fun m => by first | rfl | (simp [entryFrame, mkF, argsToLocals, Value.category]; done)) ?_
  intro p e s m below meth c T0 X0 H hml hZ hown hnm hret hlk e0
  refine gIloadN X0 H d2_0 rfl 1 rfl ?_
  refine gAloadN X0 H d2_1 rfl rfl 2 rfl ?_
  refine gGetF X0 H hZ hown (hw _ wd15) Via.refl e0 F_w_Database_H2_lowestMajor d2_2 5 rfl ?_
  intro T19 X19 e19
  refine gCmpN X19 H d2_5 (flt hk2).2.2.1 8 rfl ?_
  refine gIloadN X19 H d2_8 rfl 9 rfl ?_
  refine gAloadN X19 H d2_9 rfl rfl 10 rfl ?_
  refine gGetF X19 H hZ hown (hw _ wd15) Via.refl e19 F_w_Database_H2_lowestMajor d2_10 13 rfl ?_
  intro T20 X20 e20
  refine gCmpN X20 H d2_13 (teq hk3).2 16 rfl ?_
  refine gIloadN X20 H d2_16 rfl 17 rfl ?_
  refine gAloadN X20 H d2_17 rfl rfl 18 rfl ?_
  refine gGetF X20 H hZ hown (hw _ wd21) Via.refl e20 F_w_Database_H2_lowestMinor d2_18 21 rfl ?_
  intro T21 X21 e21
  refine gCmpN X21 H d2_21 (flt hk4).1 24 rfl ?_
  refine gIconst X21 H d2_24 (z := 1) rfl 25 rfl ?_
  refine gGoto X21 H d2_25 (by decide) 29 rfl ?_
  exact gRetN X21 H hlk hret (t := .boolean) (by simp) d2_29 e21 ⟨rfl, rfl, rfl⟩
theorem rm26_2 (B : Bg Z a0 w_Database_H2 w_Database_POSTGRESQL w_Database_MARIADB) (p1 : Int32) (p2 : Int32) (hk2 : ¬ ((2 : Int32) < p1)) (hk3 : ¬ (p1 = (2 : Int32))) :
    Con l Z (⟨"com/example/unfussy_repo/unfussyrepo/jdbc/Database", "takesSql", "(II)Z"⟩ : MethodName) prog_13_method_6_code 3 (some .boolean) ({ frames := 0, cells := 0, slots := 0, locals := 0 } : Room) #[(.ref w_Database_H2), (.int p1), (.int p2)] Z.heap (fun v h' L => v = some (.int 0) ∧ h' = Z.heap ∧ L = []) := by
  have hw := B.1
  obtain ⟨S_w_Database_H2, E_w_Database_H2, S_w_Database_POSTGRESQL, E_w_Database_POSTGRESQL, S_w_Database_MARIADB, E_w_Database_MARIADB, F_w_Database_H2_lowestMajor, F_w_Database_POSTGRESQL_lowestMajor, F_w_Database_MARIADB_lowestMajor, F_w_Database_MARIADB_lowestMinor, F_w_Database_H2_lowestMinor, F_w_Database_POSTGRESQL_lowestMinor⟩ := B.2
  refine Con.of (plainFor_of_name pn2) (Ls := #[vR w_Database_H2, vI p1, vI p2]) (fun m => by first | rfl | (simp [entryFrame, mkF, argsToLocals, Value.category]; done)) ?_
  intro p e s m below meth c T0 X0 H hml hZ hown hnm hret hlk e0
  refine gIloadN X0 H d2_0 rfl 1 rfl ?_
  refine gAloadN X0 H d2_1 rfl rfl 2 rfl ?_
  refine gGetF X0 H hZ hown (hw _ wd15) Via.refl e0 F_w_Database_H2_lowestMajor d2_2 5 rfl ?_
  intro T24 X24 e24
  refine gCmpN X24 H d2_5 (flt hk2).2.2.1 8 rfl ?_
  refine gIloadN X24 H d2_8 rfl 9 rfl ?_
  refine gAloadN X24 H d2_9 rfl rfl 10 rfl ?_
  refine gGetF X24 H hZ hown (hw _ wd15) Via.refl e24 F_w_Database_H2_lowestMajor d2_10 13 rfl ?_
  intro T25 X25 e25
  refine gCmpY X25 H d2_13 (feq hk3).2 (by decide) 28 rfl ?_
  refine gIconst X25 H d2_28 (z := 0) rfl 29 rfl ?_
  exact gRetN X25 H hlk hret (t := .boolean) (by simp) d2_29 e25 ⟨rfl, rfl, rfl⟩
theorem rm28_1 (B : Bg Z a0 w_Database_H2 w_Database_POSTGRESQL w_Database_MARIADB) (p1 : Int32) (p2 : Int32) :
    Con l Z (⟨"com/example/unfussy_repo/unfussyrepo/jdbc/DatabaseTakesSqlPinLaw", "key", "(II)J"⟩ : MethodName) method_2_code 2 (some .long) ({ frames := 0, cells := 0, slots := 0, locals := 0 } : Room) #[(.int p1), (.int (((0 : Int32) + (p2 &&& (7 : Int32))) - (4 : Int32)))] Z.heap (fun v h' L => v = some (.long (((p1.toInt64) * (4294967296 : Int64)) + (((((0 : Int32) + (p2 &&& (7 : Int32))) - (4 : Int32)).toInt64) + (2147483648 : Int64)))) ∧ h' = Z.heap ∧ L = []) := by
  have hw := B.1
  refine Con.of (plainFor_of_name pn1) (Ls := #[vI p1, vI (((0 : Int32) + (p2 &&& (7 : Int32))) - (4 : Int32))]) (fun m => by first | rfl | (simp [entryFrame, mkF, argsToLocals, Value.category]; done)) ?_
  intro p e s m below meth c T0 X0 H hml hZ hown hnm hret hlk e0
  refine gIloadN X0 H d1_0 rfl 1 rfl ?_
  refine g_i2l X0 H d1_1 (z := (p1.toInt64)) rfl 2 rfl ?_
  refine gLdc2 X0 H hZ hown (hw _ wd8) d1_2 5 rfl ?_
  refine g_lmul X0 H d1_5 (z := ((p1.toInt64) * (4294967296 : Int64))) rfl 6 rfl ?_
  refine gIloadN X0 H d1_6 rfl 7 rfl ?_
  refine g_i2l X0 H d1_7 (z := ((((0 : Int32) + (p2 &&& (7 : Int32))) - (4 : Int32)).toInt64)) rfl 8 rfl ?_
  refine gLdc2 X0 H hZ hown (hw _ wd9) d1_8 11 rfl ?_
  refine g_ladd X0 H d1_11 (z := (((((0 : Int32) + (p2 &&& (7 : Int32))) - (4 : Int32)).toInt64) + (2147483648 : Int64))) rfl 12 rfl ?_
  refine g_ladd X0 H d1_12 (z := (((p1.toInt64) * (4294967296 : Int64)) + (((((0 : Int32) + (p2 &&& (7 : Int32))) - (4 : Int32)).toInt64) + (2147483648 : Int64)))) rfl 13 rfl ?_
  exact gRetL X0 H hlk hret d1_13 e0 ⟨rfl, rfl, rfl⟩
theorem rm33_2 (B : Bg Z a0 w_Database_H2 w_Database_POSTGRESQL w_Database_MARIADB) (p1 : Int32) (p2 : Int32) (hk2 : (2 : Int32) < p1) :
    Con l Z (⟨"com/example/unfussy_repo/unfussyrepo/jdbc/Database", "takesSql", "(II)Z"⟩ : MethodName) prog_13_method_6_code 3 (some .boolean) ({ frames := 0, cells := 0, slots := 0, locals := 0 } : Room) #[(.ref w_Database_H2), (.int p1), (.int (((0 : Int32) + (p2 &&& (7 : Int32))) - (4 : Int32)))] Z.heap (fun v h' L => v = some (.int 1) ∧ h' = Z.heap ∧ L = []) := by
  have hw := B.1
  obtain ⟨S_w_Database_H2, E_w_Database_H2, S_w_Database_POSTGRESQL, E_w_Database_POSTGRESQL, S_w_Database_MARIADB, E_w_Database_MARIADB, F_w_Database_H2_lowestMajor, F_w_Database_POSTGRESQL_lowestMajor, F_w_Database_MARIADB_lowestMajor, F_w_Database_MARIADB_lowestMinor, F_w_Database_H2_lowestMinor, F_w_Database_POSTGRESQL_lowestMinor⟩ := B.2
  refine Con.of (plainFor_of_name pn2) (Ls := #[vR w_Database_H2, vI p1, vI (((0 : Int32) + (p2 &&& (7 : Int32))) - (4 : Int32))]) (fun m => by first | rfl | (simp [entryFrame, mkF, argsToLocals, Value.category]; done)) ?_
  intro p e s m below meth c T0 X0 H hml hZ hown hnm hret hlk e0
  refine gIloadN X0 H d2_0 rfl 1 rfl ?_
  refine gAloadN X0 H d2_1 rfl rfl 2 rfl ?_
  refine gGetF X0 H hZ hown (hw _ wd15) Via.refl e0 F_w_Database_H2_lowestMajor d2_2 5 rfl ?_
  intro T32 X32 e32
  refine gCmpY X32 H d2_5 (tlt hk2).2.2.1 (by decide) 24 rfl ?_
  refine gIconst X32 H d2_24 (z := 1) rfl 25 rfl ?_
  refine gGoto X32 H d2_25 (by decide) 29 rfl ?_
  exact gRetN X32 H hlk hret (t := .boolean) (by simp) d2_29 e32 ⟨rfl, rfl, rfl⟩
theorem rm40_2 (B : Bg Z a0 w_Database_H2 w_Database_POSTGRESQL w_Database_MARIADB) (p1 : Int32) (p2 : Int32) (hk2 : ¬ ((2 : Int32) < p1)) (hk3 : p1 = (2 : Int32)) (hk4 : (((0 : Int32) + (p2 &&& (7 : Int32))) - (4 : Int32)) < (0 : Int32)) :
    Con l Z (⟨"com/example/unfussy_repo/unfussyrepo/jdbc/Database", "takesSql", "(II)Z"⟩ : MethodName) prog_13_method_6_code 3 (some .boolean) ({ frames := 0, cells := 0, slots := 0, locals := 0 } : Room) #[(.ref w_Database_H2), (.int p1), (.int (((0 : Int32) + (p2 &&& (7 : Int32))) - (4 : Int32)))] Z.heap (fun v h' L => v = some (.int 0) ∧ h' = Z.heap ∧ L = []) := by
  have hw := B.1
  obtain ⟨S_w_Database_H2, E_w_Database_H2, S_w_Database_POSTGRESQL, E_w_Database_POSTGRESQL, S_w_Database_MARIADB, E_w_Database_MARIADB, F_w_Database_H2_lowestMajor, F_w_Database_POSTGRESQL_lowestMajor, F_w_Database_MARIADB_lowestMajor, F_w_Database_MARIADB_lowestMinor, F_w_Database_H2_lowestMinor, F_w_Database_POSTGRESQL_lowestMinor⟩ := B.2
  refine Con.of (plainFor_of_name pn2) (Ls := #[vR w_Database_H2, vI p1, vI (((0 : Int32) + (p2 &&& (7 : Int32))) - (4 : Int32))]) (fun m => by first | rfl | (simp [entryFrame, mkF, argsToLocals, Value.category]; done)) ?_
  intro p e s m below meth c T0 X0 H hml hZ hown hnm hret hlk e0
  refine gIloadN X0 H d2_0 rfl 1 rfl ?_
  refine gAloadN X0 H d2_1 rfl rfl 2 rfl ?_
  refine gGetF X0 H hZ hown (hw _ wd15) Via.refl e0 F_w_Database_H2_lowestMajor d2_2 5 rfl ?_
  intro T37 X37 e37
  refine gCmpN X37 H d2_5 (flt hk2).2.2.1 8 rfl ?_
  refine gIloadN X37 H d2_8 rfl 9 rfl ?_
  refine gAloadN X37 H d2_9 rfl rfl 10 rfl ?_
  refine gGetF X37 H hZ hown (hw _ wd15) Via.refl e37 F_w_Database_H2_lowestMajor d2_10 13 rfl ?_
  intro T38 X38 e38
  refine gCmpN X38 H d2_13 (teq hk3).2 16 rfl ?_
  refine gIloadN X38 H d2_16 rfl 17 rfl ?_
  refine gAloadN X38 H d2_17 rfl rfl 18 rfl ?_
  refine gGetF X38 H hZ hown (hw _ wd21) Via.refl e38 F_w_Database_H2_lowestMinor d2_18 21 rfl ?_
  intro T39 X39 e39
  refine gCmpY X39 H d2_21 (tlt hk4).1 (by decide) 28 rfl ?_
  refine gIconst X39 H d2_28 (z := 0) rfl 29 rfl ?_
  exact gRetN X39 H hlk hret (t := .boolean) (by simp) d2_29 e39 ⟨rfl, rfl, rfl⟩
theorem rm45_2 (B : Bg Z a0 w_Database_H2 w_Database_POSTGRESQL w_Database_MARIADB) (p1 : Int32) (p2 : Int32) (hk2 : ¬ ((2 : Int32) < p1)) (hk3 : p1 = (2 : Int32)) (hk4 : ¬ ((((0 : Int32) + (p2 &&& (7 : Int32))) - (4 : Int32)) < (0 : Int32))) :
    Con l Z (⟨"com/example/unfussy_repo/unfussyrepo/jdbc/Database", "takesSql", "(II)Z"⟩ : MethodName) prog_13_method_6_code 3 (some .boolean) ({ frames := 0, cells := 0, slots := 0, locals := 0 } : Room) #[(.ref w_Database_H2), (.int p1), (.int (((0 : Int32) + (p2 &&& (7 : Int32))) - (4 : Int32)))] Z.heap (fun v h' L => v = some (.int 1) ∧ h' = Z.heap ∧ L = []) := by
  have hw := B.1
  obtain ⟨S_w_Database_H2, E_w_Database_H2, S_w_Database_POSTGRESQL, E_w_Database_POSTGRESQL, S_w_Database_MARIADB, E_w_Database_MARIADB, F_w_Database_H2_lowestMajor, F_w_Database_POSTGRESQL_lowestMajor, F_w_Database_MARIADB_lowestMajor, F_w_Database_MARIADB_lowestMinor, F_w_Database_H2_lowestMinor, F_w_Database_POSTGRESQL_lowestMinor⟩ := B.2
  refine Con.of (plainFor_of_name pn2) (Ls := #[vR w_Database_H2, vI p1, vI (((0 : Int32) + (p2 &&& (7 : Int32))) - (4 : Int32))]) (fun m => by first | rfl | (simp [entryFrame, mkF, argsToLocals, Value.category]; done)) ?_
  intro p e s m below meth c T0 X0 H hml hZ hown hnm hret hlk e0
  refine gIloadN X0 H d2_0 rfl 1 rfl ?_
  refine gAloadN X0 H d2_1 rfl rfl 2 rfl ?_
  refine gGetF X0 H hZ hown (hw _ wd15) Via.refl e0 F_w_Database_H2_lowestMajor d2_2 5 rfl ?_
  intro T42 X42 e42
  refine gCmpN X42 H d2_5 (flt hk2).2.2.1 8 rfl ?_
  refine gIloadN X42 H d2_8 rfl 9 rfl ?_
  refine gAloadN X42 H d2_9 rfl rfl 10 rfl ?_
  refine gGetF X42 H hZ hown (hw _ wd15) Via.refl e42 F_w_Database_H2_lowestMajor d2_10 13 rfl ?_
  intro T43 X43 e43
  refine gCmpN X43 H d2_13 (teq hk3).2 16 rfl ?_
  refine gIloadN X43 H d2_16 rfl 17 rfl ?_
  refine gAloadN X43 H d2_17 rfl rfl 18 rfl ?_
  refine gGetF X43 H hZ hown (hw _ wd21) Via.refl e43 F_w_Database_H2_lowestMinor d2_18 21 rfl ?_
  intro T44 X44 e44
  refine gCmpN X44 H d2_21 (flt hk4).1 24 rfl ?_
  refine gIconst X44 H d2_24 (z := 1) rfl 25 rfl ?_
  refine gGoto X44 H d2_25 (by decide) 29 rfl ?_
  exact gRetN X44 H hlk hret (t := .boolean) (by simp) d2_29 e44 ⟨rfl, rfl, rfl⟩
theorem rm49_2 (B : Bg Z a0 w_Database_H2 w_Database_POSTGRESQL w_Database_MARIADB) (p1 : Int32) (p2 : Int32) (hk2 : ¬ ((2 : Int32) < p1)) (hk3 : ¬ (p1 = (2 : Int32))) :
    Con l Z (⟨"com/example/unfussy_repo/unfussyrepo/jdbc/Database", "takesSql", "(II)Z"⟩ : MethodName) prog_13_method_6_code 3 (some .boolean) ({ frames := 0, cells := 0, slots := 0, locals := 0 } : Room) #[(.ref w_Database_H2), (.int p1), (.int (((0 : Int32) + (p2 &&& (7 : Int32))) - (4 : Int32)))] Z.heap (fun v h' L => v = some (.int 0) ∧ h' = Z.heap ∧ L = []) := by
  have hw := B.1
  obtain ⟨S_w_Database_H2, E_w_Database_H2, S_w_Database_POSTGRESQL, E_w_Database_POSTGRESQL, S_w_Database_MARIADB, E_w_Database_MARIADB, F_w_Database_H2_lowestMajor, F_w_Database_POSTGRESQL_lowestMajor, F_w_Database_MARIADB_lowestMajor, F_w_Database_MARIADB_lowestMinor, F_w_Database_H2_lowestMinor, F_w_Database_POSTGRESQL_lowestMinor⟩ := B.2
  refine Con.of (plainFor_of_name pn2) (Ls := #[vR w_Database_H2, vI p1, vI (((0 : Int32) + (p2 &&& (7 : Int32))) - (4 : Int32))]) (fun m => by first | rfl | (simp [entryFrame, mkF, argsToLocals, Value.category]; done)) ?_
  intro p e s m below meth c T0 X0 H hml hZ hown hnm hret hlk e0
  refine gIloadN X0 H d2_0 rfl 1 rfl ?_
  refine gAloadN X0 H d2_1 rfl rfl 2 rfl ?_
  refine gGetF X0 H hZ hown (hw _ wd15) Via.refl e0 F_w_Database_H2_lowestMajor d2_2 5 rfl ?_
  intro T47 X47 e47
  refine gCmpN X47 H d2_5 (flt hk2).2.2.1 8 rfl ?_
  refine gIloadN X47 H d2_8 rfl 9 rfl ?_
  refine gAloadN X47 H d2_9 rfl rfl 10 rfl ?_
  refine gGetF X47 H hZ hown (hw _ wd15) Via.refl e47 F_w_Database_H2_lowestMajor d2_10 13 rfl ?_
  intro T48 X48 e48
  refine gCmpY X48 H d2_13 (feq hk3).2 (by decide) 28 rfl ?_
  refine gIconst X48 H d2_28 (z := 0) rfl 29 rfl ?_
  exact gRetN X48 H hlk hret (t := .boolean) (by simp) d2_29 e48 ⟨rfl, rfl, rfl⟩
theorem rm52_1 (B : Bg Z a0 w_Database_H2 w_Database_POSTGRESQL w_Database_MARIADB) (p1 : Int32) (p2 : Int32) :
    Con l Z (⟨"com/example/unfussy_repo/unfussyrepo/jdbc/DatabaseTakesSqlPinLaw", "key", "(II)J"⟩ : MethodName) method_2_code 2 (some .long) ({ frames := 0, cells := 0, slots := 0, locals := 0 } : Room) #[(.int (((2 : Int32) + (p1 &&& (3 : Int32))) - (2 : Int32))), (.int p2)] Z.heap (fun v h' L => v = some (.long ((((((2 : Int32) + (p1 &&& (3 : Int32))) - (2 : Int32)).toInt64) * (4294967296 : Int64)) + ((p2.toInt64) + (2147483648 : Int64)))) ∧ h' = Z.heap ∧ L = []) := by
  have hw := B.1
  refine Con.of (plainFor_of_name pn1) (Ls := #[vI (((2 : Int32) + (p1 &&& (3 : Int32))) - (2 : Int32)), vI p2]) (fun m => by first | rfl | (simp [entryFrame, mkF, argsToLocals, Value.category]; done)) ?_
  intro p e s m below meth c T0 X0 H hml hZ hown hnm hret hlk e0
  refine gIloadN X0 H d1_0 rfl 1 rfl ?_
  refine g_i2l X0 H d1_1 (z := ((((2 : Int32) + (p1 &&& (3 : Int32))) - (2 : Int32)).toInt64)) rfl 2 rfl ?_
  refine gLdc2 X0 H hZ hown (hw _ wd8) d1_2 5 rfl ?_
  refine g_lmul X0 H d1_5 (z := (((((2 : Int32) + (p1 &&& (3 : Int32))) - (2 : Int32)).toInt64) * (4294967296 : Int64))) rfl 6 rfl ?_
  refine gIloadN X0 H d1_6 rfl 7 rfl ?_
  refine g_i2l X0 H d1_7 (z := (p2.toInt64)) rfl 8 rfl ?_
  refine gLdc2 X0 H hZ hown (hw _ wd9) d1_8 11 rfl ?_
  refine g_ladd X0 H d1_11 (z := ((p2.toInt64) + (2147483648 : Int64))) rfl 12 rfl ?_
  refine g_ladd X0 H d1_12 (z := ((((((2 : Int32) + (p1 &&& (3 : Int32))) - (2 : Int32)).toInt64) * (4294967296 : Int64)) + ((p2.toInt64) + (2147483648 : Int64)))) rfl 13 rfl ?_
  exact gRetL X0 H hlk hret d1_13 e0 ⟨rfl, rfl, rfl⟩
theorem rm57_2 (B : Bg Z a0 w_Database_H2 w_Database_POSTGRESQL w_Database_MARIADB) (p1 : Int32) (p2 : Int32) (hk2 : (2 : Int32) < (((2 : Int32) + (p1 &&& (3 : Int32))) - (2 : Int32))) :
    Con l Z (⟨"com/example/unfussy_repo/unfussyrepo/jdbc/Database", "takesSql", "(II)Z"⟩ : MethodName) prog_13_method_6_code 3 (some .boolean) ({ frames := 0, cells := 0, slots := 0, locals := 0 } : Room) #[(.ref w_Database_H2), (.int (((2 : Int32) + (p1 &&& (3 : Int32))) - (2 : Int32))), (.int p2)] Z.heap (fun v h' L => v = some (.int 1) ∧ h' = Z.heap ∧ L = []) := by
  have hw := B.1
  obtain ⟨S_w_Database_H2, E_w_Database_H2, S_w_Database_POSTGRESQL, E_w_Database_POSTGRESQL, S_w_Database_MARIADB, E_w_Database_MARIADB, F_w_Database_H2_lowestMajor, F_w_Database_POSTGRESQL_lowestMajor, F_w_Database_MARIADB_lowestMajor, F_w_Database_MARIADB_lowestMinor, F_w_Database_H2_lowestMinor, F_w_Database_POSTGRESQL_lowestMinor⟩ := B.2
  refine Con.of (plainFor_of_name pn2) (Ls := #[vR w_Database_H2, vI (((2 : Int32) + (p1 &&& (3 : Int32))) - (2 : Int32)), vI p2]) (fun m => by first | rfl | (simp [entryFrame, mkF, argsToLocals, Value.category]; done)) ?_
  intro p e s m below meth c T0 X0 H hml hZ hown hnm hret hlk e0
  refine gIloadN X0 H d2_0 rfl 1 rfl ?_
  refine gAloadN X0 H d2_1 rfl rfl 2 rfl ?_
  refine gGetF X0 H hZ hown (hw _ wd15) Via.refl e0 F_w_Database_H2_lowestMajor d2_2 5 rfl ?_
  intro T56 X56 e56
  refine gCmpY X56 H d2_5 (tlt hk2).2.2.1 (by decide) 24 rfl ?_
  refine gIconst X56 H d2_24 (z := 1) rfl 25 rfl ?_
  refine gGoto X56 H d2_25 (by decide) 29 rfl ?_
  exact gRetN X56 H hlk hret (t := .boolean) (by simp) d2_29 e56 ⟨rfl, rfl, rfl⟩
theorem rm64_2 (B : Bg Z a0 w_Database_H2 w_Database_POSTGRESQL w_Database_MARIADB) (p1 : Int32) (p2 : Int32) (hk2 : ¬ ((2 : Int32) < (((2 : Int32) + (p1 &&& (3 : Int32))) - (2 : Int32)))) (hk3 : (((2 : Int32) + (p1 &&& (3 : Int32))) - (2 : Int32)) = (2 : Int32)) (hk4 : p2 < (0 : Int32)) :
    Con l Z (⟨"com/example/unfussy_repo/unfussyrepo/jdbc/Database", "takesSql", "(II)Z"⟩ : MethodName) prog_13_method_6_code 3 (some .boolean) ({ frames := 0, cells := 0, slots := 0, locals := 0 } : Room) #[(.ref w_Database_H2), (.int (((2 : Int32) + (p1 &&& (3 : Int32))) - (2 : Int32))), (.int p2)] Z.heap (fun v h' L => v = some (.int 0) ∧ h' = Z.heap ∧ L = []) := by
  have hw := B.1
  obtain ⟨S_w_Database_H2, E_w_Database_H2, S_w_Database_POSTGRESQL, E_w_Database_POSTGRESQL, S_w_Database_MARIADB, E_w_Database_MARIADB, F_w_Database_H2_lowestMajor, F_w_Database_POSTGRESQL_lowestMajor, F_w_Database_MARIADB_lowestMajor, F_w_Database_MARIADB_lowestMinor, F_w_Database_H2_lowestMinor, F_w_Database_POSTGRESQL_lowestMinor⟩ := B.2
  refine Con.of (plainFor_of_name pn2) (Ls := #[vR w_Database_H2, vI (((2 : Int32) + (p1 &&& (3 : Int32))) - (2 : Int32)), vI p2]) (fun m => by first | rfl | (simp [entryFrame, mkF, argsToLocals, Value.category]; done)) ?_
  intro p e s m below meth c T0 X0 H hml hZ hown hnm hret hlk e0
  refine gIloadN X0 H d2_0 rfl 1 rfl ?_
  refine gAloadN X0 H d2_1 rfl rfl 2 rfl ?_
  refine gGetF X0 H hZ hown (hw _ wd15) Via.refl e0 F_w_Database_H2_lowestMajor d2_2 5 rfl ?_
  intro T61 X61 e61
  refine gCmpN X61 H d2_5 (flt hk2).2.2.1 8 rfl ?_
  refine gIloadN X61 H d2_8 rfl 9 rfl ?_
  refine gAloadN X61 H d2_9 rfl rfl 10 rfl ?_
  refine gGetF X61 H hZ hown (hw _ wd15) Via.refl e61 F_w_Database_H2_lowestMajor d2_10 13 rfl ?_
  intro T62 X62 e62
  refine gCmpN X62 H d2_13 (teq hk3).2 16 rfl ?_
  refine gIloadN X62 H d2_16 rfl 17 rfl ?_
  refine gAloadN X62 H d2_17 rfl rfl 18 rfl ?_
  refine gGetF X62 H hZ hown (hw _ wd21) Via.refl e62 F_w_Database_H2_lowestMinor d2_18 21 rfl ?_
  intro T63 X63 e63
  refine gCmpY X63 H d2_21 (tlt hk4).1 (by decide) 28 rfl ?_
  refine gIconst X63 H d2_28 (z := 0) rfl 29 rfl ?_
  exact gRetN X63 H hlk hret (t := .boolean) (by simp) d2_29 e63 ⟨rfl, rfl, rfl⟩
theorem rm69_2 (B : Bg Z a0 w_Database_H2 w_Database_POSTGRESQL w_Database_MARIADB) (p1 : Int32) (p2 : Int32) (hk2 : ¬ ((2 : Int32) < (((2 : Int32) + (p1 &&& (3 : Int32))) - (2 : Int32)))) (hk3 : (((2 : Int32) + (p1 &&& (3 : Int32))) - (2 : Int32)) = (2 : Int32)) (hk4 : ¬ (p2 < (0 : Int32))) :
    Con l Z (⟨"com/example/unfussy_repo/unfussyrepo/jdbc/Database", "takesSql", "(II)Z"⟩ : MethodName) prog_13_method_6_code 3 (some .boolean) ({ frames := 0, cells := 0, slots := 0, locals := 0 } : Room) #[(.ref w_Database_H2), (.int (((2 : Int32) + (p1 &&& (3 : Int32))) - (2 : Int32))), (.int p2)] Z.heap (fun v h' L => v = some (.int 1) ∧ h' = Z.heap ∧ L = []) := by
  have hw := B.1
  obtain ⟨S_w_Database_H2, E_w_Database_H2, S_w_Database_POSTGRESQL, E_w_Database_POSTGRESQL, S_w_Database_MARIADB, E_w_Database_MARIADB, F_w_Database_H2_lowestMajor, F_w_Database_POSTGRESQL_lowestMajor, F_w_Database_MARIADB_lowestMajor, F_w_Database_MARIADB_lowestMinor, F_w_Database_H2_lowestMinor, F_w_Database_POSTGRESQL_lowestMinor⟩ := B.2
  refine Con.of (plainFor_of_name pn2) (Ls := #[vR w_Database_H2, vI (((2 : Int32) + (p1 &&& (3 : Int32))) - (2 : Int32)), vI p2]) (fun m => by first | rfl | (simp [entryFrame, mkF, argsToLocals, Value.category]; done)) ?_
  intro p e s m below meth c T0 X0 H hml hZ hown hnm hret hlk e0
  refine gIloadN X0 H d2_0 rfl 1 rfl ?_
  refine gAloadN X0 H d2_1 rfl rfl 2 rfl ?_
  refine gGetF X0 H hZ hown (hw _ wd15) Via.refl e0 F_w_Database_H2_lowestMajor d2_2 5 rfl ?_
  intro T66 X66 e66
  refine gCmpN X66 H d2_5 (flt hk2).2.2.1 8 rfl ?_
  refine gIloadN X66 H d2_8 rfl 9 rfl ?_
  refine gAloadN X66 H d2_9 rfl rfl 10 rfl ?_
  refine gGetF X66 H hZ hown (hw _ wd15) Via.refl e66 F_w_Database_H2_lowestMajor d2_10 13 rfl ?_
  intro T67 X67 e67
  refine gCmpN X67 H d2_13 (teq hk3).2 16 rfl ?_
  refine gIloadN X67 H d2_16 rfl 17 rfl ?_
  refine gAloadN X67 H d2_17 rfl rfl 18 rfl ?_
  refine gGetF X67 H hZ hown (hw _ wd21) Via.refl e67 F_w_Database_H2_lowestMinor d2_18 21 rfl ?_
  intro T68 X68 e68
  refine gCmpN X68 H d2_21 (flt hk4).1 24 rfl ?_
  refine gIconst X68 H d2_24 (z := 1) rfl 25 rfl ?_
  refine gGoto X68 H d2_25 (by decide) 29 rfl ?_
  exact gRetN X68 H hlk hret (t := .boolean) (by simp) d2_29 e68 ⟨rfl, rfl, rfl⟩
theorem rm73_2 (B : Bg Z a0 w_Database_H2 w_Database_POSTGRESQL w_Database_MARIADB) (p1 : Int32) (p2 : Int32) (hk2 : ¬ ((2 : Int32) < (((2 : Int32) + (p1 &&& (3 : Int32))) - (2 : Int32)))) (hk3 : ¬ ((((2 : Int32) + (p1 &&& (3 : Int32))) - (2 : Int32)) = (2 : Int32))) :
    Con l Z (⟨"com/example/unfussy_repo/unfussyrepo/jdbc/Database", "takesSql", "(II)Z"⟩ : MethodName) prog_13_method_6_code 3 (some .boolean) ({ frames := 0, cells := 0, slots := 0, locals := 0 } : Room) #[(.ref w_Database_H2), (.int (((2 : Int32) + (p1 &&& (3 : Int32))) - (2 : Int32))), (.int p2)] Z.heap (fun v h' L => v = some (.int 0) ∧ h' = Z.heap ∧ L = []) := by
  have hw := B.1
  obtain ⟨S_w_Database_H2, E_w_Database_H2, S_w_Database_POSTGRESQL, E_w_Database_POSTGRESQL, S_w_Database_MARIADB, E_w_Database_MARIADB, F_w_Database_H2_lowestMajor, F_w_Database_POSTGRESQL_lowestMajor, F_w_Database_MARIADB_lowestMajor, F_w_Database_MARIADB_lowestMinor, F_w_Database_H2_lowestMinor, F_w_Database_POSTGRESQL_lowestMinor⟩ := B.2
  refine Con.of (plainFor_of_name pn2) (Ls := #[vR w_Database_H2, vI (((2 : Int32) + (p1 &&& (3 : Int32))) - (2 : Int32)), vI p2]) (fun m => by first | rfl | (simp [entryFrame, mkF, argsToLocals, Value.category]; done)) ?_
  intro p e s m below meth c T0 X0 H hml hZ hown hnm hret hlk e0
  refine gIloadN X0 H d2_0 rfl 1 rfl ?_
  refine gAloadN X0 H d2_1 rfl rfl 2 rfl ?_
  refine gGetF X0 H hZ hown (hw _ wd15) Via.refl e0 F_w_Database_H2_lowestMajor d2_2 5 rfl ?_
  intro T71 X71 e71
  refine gCmpN X71 H d2_5 (flt hk2).2.2.1 8 rfl ?_
  refine gIloadN X71 H d2_8 rfl 9 rfl ?_
  refine gAloadN X71 H d2_9 rfl rfl 10 rfl ?_
  refine gGetF X71 H hZ hown (hw _ wd15) Via.refl e71 F_w_Database_H2_lowestMajor d2_10 13 rfl ?_
  intro T72 X72 e72
  refine gCmpY X72 H d2_13 (feq hk3).2 (by decide) 28 rfl ?_
  refine gIconst X72 H d2_28 (z := 0) rfl 29 rfl ?_
  exact gRetN X72 H hlk hret (t := .boolean) (by simp) d2_29 e72 ⟨rfl, rfl, rfl⟩
theorem rm75_1 (B : Bg Z a0 w_Database_H2 w_Database_POSTGRESQL w_Database_MARIADB) (p1 : Int32) (p2 : Int32) :
    Con l Z (⟨"com/example/unfussy_repo/unfussyrepo/jdbc/DatabaseTakesSqlPinLaw", "key", "(II)J"⟩ : MethodName) method_2_code 2 (some .long) ({ frames := 0, cells := 0, slots := 0, locals := 0 } : Room) #[(.int (((2 : Int32) + (p1 &&& (3 : Int32))) - (2 : Int32))), (.int (((0 : Int32) + (p2 &&& (7 : Int32))) - (4 : Int32)))] Z.heap (fun v h' L => v = some (.long ((((((2 : Int32) + (p1 &&& (3 : Int32))) - (2 : Int32)).toInt64) * (4294967296 : Int64)) + (((((0 : Int32) + (p2 &&& (7 : Int32))) - (4 : Int32)).toInt64) + (2147483648 : Int64)))) ∧ h' = Z.heap ∧ L = []) := by
  have hw := B.1
  refine Con.of (plainFor_of_name pn1) (Ls := #[vI (((2 : Int32) + (p1 &&& (3 : Int32))) - (2 : Int32)), vI (((0 : Int32) + (p2 &&& (7 : Int32))) - (4 : Int32))]) (fun m => by first | rfl | (simp [entryFrame, mkF, argsToLocals, Value.category]; done)) ?_
  intro p e s m below meth c T0 X0 H hml hZ hown hnm hret hlk e0
  refine gIloadN X0 H d1_0 rfl 1 rfl ?_
  refine g_i2l X0 H d1_1 (z := ((((2 : Int32) + (p1 &&& (3 : Int32))) - (2 : Int32)).toInt64)) rfl 2 rfl ?_
  refine gLdc2 X0 H hZ hown (hw _ wd8) d1_2 5 rfl ?_
  refine g_lmul X0 H d1_5 (z := (((((2 : Int32) + (p1 &&& (3 : Int32))) - (2 : Int32)).toInt64) * (4294967296 : Int64))) rfl 6 rfl ?_
  refine gIloadN X0 H d1_6 rfl 7 rfl ?_
  refine g_i2l X0 H d1_7 (z := ((((0 : Int32) + (p2 &&& (7 : Int32))) - (4 : Int32)).toInt64)) rfl 8 rfl ?_
  refine gLdc2 X0 H hZ hown (hw _ wd9) d1_8 11 rfl ?_
  refine g_ladd X0 H d1_11 (z := (((((0 : Int32) + (p2 &&& (7 : Int32))) - (4 : Int32)).toInt64) + (2147483648 : Int64))) rfl 12 rfl ?_
  refine g_ladd X0 H d1_12 (z := ((((((2 : Int32) + (p1 &&& (3 : Int32))) - (2 : Int32)).toInt64) * (4294967296 : Int64)) + (((((0 : Int32) + (p2 &&& (7 : Int32))) - (4 : Int32)).toInt64) + (2147483648 : Int64)))) rfl 13 rfl ?_
  exact gRetL X0 H hlk hret d1_13 e0 ⟨rfl, rfl, rfl⟩
theorem rm80_2 (B : Bg Z a0 w_Database_H2 w_Database_POSTGRESQL w_Database_MARIADB) (p1 : Int32) (p2 : Int32) (hk2 : (2 : Int32) < (((2 : Int32) + (p1 &&& (3 : Int32))) - (2 : Int32))) :
    Con l Z (⟨"com/example/unfussy_repo/unfussyrepo/jdbc/Database", "takesSql", "(II)Z"⟩ : MethodName) prog_13_method_6_code 3 (some .boolean) ({ frames := 0, cells := 0, slots := 0, locals := 0 } : Room) #[(.ref w_Database_H2), (.int (((2 : Int32) + (p1 &&& (3 : Int32))) - (2 : Int32))), (.int (((0 : Int32) + (p2 &&& (7 : Int32))) - (4 : Int32)))] Z.heap (fun v h' L => v = some (.int 1) ∧ h' = Z.heap ∧ L = []) := by
  have hw := B.1
  obtain ⟨S_w_Database_H2, E_w_Database_H2, S_w_Database_POSTGRESQL, E_w_Database_POSTGRESQL, S_w_Database_MARIADB, E_w_Database_MARIADB, F_w_Database_H2_lowestMajor, F_w_Database_POSTGRESQL_lowestMajor, F_w_Database_MARIADB_lowestMajor, F_w_Database_MARIADB_lowestMinor, F_w_Database_H2_lowestMinor, F_w_Database_POSTGRESQL_lowestMinor⟩ := B.2
  refine Con.of (plainFor_of_name pn2) (Ls := #[vR w_Database_H2, vI (((2 : Int32) + (p1 &&& (3 : Int32))) - (2 : Int32)), vI (((0 : Int32) + (p2 &&& (7 : Int32))) - (4 : Int32))]) (fun m => by first | rfl | (simp [entryFrame, mkF, argsToLocals, Value.category]; done)) ?_
  intro p e s m below meth c T0 X0 H hml hZ hown hnm hret hlk e0
  refine gIloadN X0 H d2_0 rfl 1 rfl ?_
  refine gAloadN X0 H d2_1 rfl rfl 2 rfl ?_
  refine gGetF X0 H hZ hown (hw _ wd15) Via.refl e0 F_w_Database_H2_lowestMajor d2_2 5 rfl ?_
  intro T79 X79 e79
  refine gCmpY X79 H d2_5 (tlt hk2).2.2.1 (by decide) 24 rfl ?_
  refine gIconst X79 H d2_24 (z := 1) rfl 25 rfl ?_
  refine gGoto X79 H d2_25 (by decide) 29 rfl ?_
  exact gRetN X79 H hlk hret (t := .boolean) (by simp) d2_29 e79 ⟨rfl, rfl, rfl⟩
theorem rm87_2 (B : Bg Z a0 w_Database_H2 w_Database_POSTGRESQL w_Database_MARIADB) (p1 : Int32) (p2 : Int32) (hk2 : ¬ ((2 : Int32) < (((2 : Int32) + (p1 &&& (3 : Int32))) - (2 : Int32)))) (hk3 : (((2 : Int32) + (p1 &&& (3 : Int32))) - (2 : Int32)) = (2 : Int32)) (hk4 : (((0 : Int32) + (p2 &&& (7 : Int32))) - (4 : Int32)) < (0 : Int32)) :
    Con l Z (⟨"com/example/unfussy_repo/unfussyrepo/jdbc/Database", "takesSql", "(II)Z"⟩ : MethodName) prog_13_method_6_code 3 (some .boolean) ({ frames := 0, cells := 0, slots := 0, locals := 0 } : Room) #[(.ref w_Database_H2), (.int (((2 : Int32) + (p1 &&& (3 : Int32))) - (2 : Int32))), (.int (((0 : Int32) + (p2 &&& (7 : Int32))) - (4 : Int32)))] Z.heap (fun v h' L => v = some (.int 0) ∧ h' = Z.heap ∧ L = []) := by
  have hw := B.1
  obtain ⟨S_w_Database_H2, E_w_Database_H2, S_w_Database_POSTGRESQL, E_w_Database_POSTGRESQL, S_w_Database_MARIADB, E_w_Database_MARIADB, F_w_Database_H2_lowestMajor, F_w_Database_POSTGRESQL_lowestMajor, F_w_Database_MARIADB_lowestMajor, F_w_Database_MARIADB_lowestMinor, F_w_Database_H2_lowestMinor, F_w_Database_POSTGRESQL_lowestMinor⟩ := B.2
  refine Con.of (plainFor_of_name pn2) (Ls := #[vR w_Database_H2, vI (((2 : Int32) + (p1 &&& (3 : Int32))) - (2 : Int32)), vI (((0 : Int32) + (p2 &&& (7 : Int32))) - (4 : Int32))]) (fun m => by first | rfl | (simp [entryFrame, mkF, argsToLocals, Value.category]; done)) ?_
  intro p e s m below meth c T0 X0 H hml hZ hown hnm hret hlk e0
  refine gIloadN X0 H d2_0 rfl 1 rfl ?_
  refine gAloadN X0 H d2_1 rfl rfl 2 rfl ?_
  refine gGetF X0 H hZ hown (hw _ wd15) Via.refl e0 F_w_Database_H2_lowestMajor d2_2 5 rfl ?_
  intro T84 X84 e84
  refine gCmpN X84 H d2_5 (flt hk2).2.2.1 8 rfl ?_
  refine gIloadN X84 H d2_8 rfl 9 rfl ?_
  refine gAloadN X84 H d2_9 rfl rfl 10 rfl ?_
  refine gGetF X84 H hZ hown (hw _ wd15) Via.refl e84 F_w_Database_H2_lowestMajor d2_10 13 rfl ?_
  intro T85 X85 e85
  refine gCmpN X85 H d2_13 (teq hk3).2 16 rfl ?_
  refine gIloadN X85 H d2_16 rfl 17 rfl ?_
  refine gAloadN X85 H d2_17 rfl rfl 18 rfl ?_
  refine gGetF X85 H hZ hown (hw _ wd21) Via.refl e85 F_w_Database_H2_lowestMinor d2_18 21 rfl ?_
  intro T86 X86 e86
  refine gCmpY X86 H d2_21 (tlt hk4).1 (by decide) 28 rfl ?_
  refine gIconst X86 H d2_28 (z := 0) rfl 29 rfl ?_
  exact gRetN X86 H hlk hret (t := .boolean) (by simp) d2_29 e86 ⟨rfl, rfl, rfl⟩
theorem rm92_2 (B : Bg Z a0 w_Database_H2 w_Database_POSTGRESQL w_Database_MARIADB) (p1 : Int32) (p2 : Int32) (hk2 : ¬ ((2 : Int32) < (((2 : Int32) + (p1 &&& (3 : Int32))) - (2 : Int32)))) (hk3 : (((2 : Int32) + (p1 &&& (3 : Int32))) - (2 : Int32)) = (2 : Int32)) (hk4 : ¬ ((((0 : Int32) + (p2 &&& (7 : Int32))) - (4 : Int32)) < (0 : Int32))) :
    Con l Z (⟨"com/example/unfussy_repo/unfussyrepo/jdbc/Database", "takesSql", "(II)Z"⟩ : MethodName) prog_13_method_6_code 3 (some .boolean) ({ frames := 0, cells := 0, slots := 0, locals := 0 } : Room) #[(.ref w_Database_H2), (.int (((2 : Int32) + (p1 &&& (3 : Int32))) - (2 : Int32))), (.int (((0 : Int32) + (p2 &&& (7 : Int32))) - (4 : Int32)))] Z.heap (fun v h' L => v = some (.int 1) ∧ h' = Z.heap ∧ L = []) := by
  have hw := B.1
  obtain ⟨S_w_Database_H2, E_w_Database_H2, S_w_Database_POSTGRESQL, E_w_Database_POSTGRESQL, S_w_Database_MARIADB, E_w_Database_MARIADB, F_w_Database_H2_lowestMajor, F_w_Database_POSTGRESQL_lowestMajor, F_w_Database_MARIADB_lowestMajor, F_w_Database_MARIADB_lowestMinor, F_w_Database_H2_lowestMinor, F_w_Database_POSTGRESQL_lowestMinor⟩ := B.2
  refine Con.of (plainFor_of_name pn2) (Ls := #[vR w_Database_H2, vI (((2 : Int32) + (p1 &&& (3 : Int32))) - (2 : Int32)), vI (((0 : Int32) + (p2 &&& (7 : Int32))) - (4 : Int32))]) (fun m => by first | rfl | (simp [entryFrame, mkF, argsToLocals, Value.category]; done)) ?_
  intro p e s m below meth c T0 X0 H hml hZ hown hnm hret hlk e0
  refine gIloadN X0 H d2_0 rfl 1 rfl ?_
  refine gAloadN X0 H d2_1 rfl rfl 2 rfl ?_
  refine gGetF X0 H hZ hown (hw _ wd15) Via.refl e0 F_w_Database_H2_lowestMajor d2_2 5 rfl ?_
  intro T89 X89 e89
  refine gCmpN X89 H d2_5 (flt hk2).2.2.1 8 rfl ?_
  refine gIloadN X89 H d2_8 rfl 9 rfl ?_
  refine gAloadN X89 H d2_9 rfl rfl 10 rfl ?_
  refine gGetF X89 H hZ hown (hw _ wd15) Via.refl e89 F_w_Database_H2_lowestMajor d2_10 13 rfl ?_
  intro T90 X90 e90
  refine gCmpN X90 H d2_13 (teq hk3).2 16 rfl ?_
  refine gIloadN X90 H d2_16 rfl 17 rfl ?_
  refine gAloadN X90 H d2_17 rfl rfl 18 rfl ?_
  refine gGetF X90 H hZ hown (hw _ wd21) Via.refl e90 F_w_Database_H2_lowestMinor d2_18 21 rfl ?_
  intro T91 X91 e91
  refine gCmpN X91 H d2_21 (flt hk4).1 24 rfl ?_
  refine gIconst X91 H d2_24 (z := 1) rfl 25 rfl ?_
  refine gGoto X91 H d2_25 (by decide) 29 rfl ?_
  exact gRetN X91 H hlk hret (t := .boolean) (by simp) d2_29 e91 ⟨rfl, rfl, rfl⟩
theorem rm96_2 (B : Bg Z a0 w_Database_H2 w_Database_POSTGRESQL w_Database_MARIADB) (p1 : Int32) (p2 : Int32) (hk2 : ¬ ((2 : Int32) < (((2 : Int32) + (p1 &&& (3 : Int32))) - (2 : Int32)))) (hk3 : ¬ ((((2 : Int32) + (p1 &&& (3 : Int32))) - (2 : Int32)) = (2 : Int32))) :
    Con l Z (⟨"com/example/unfussy_repo/unfussyrepo/jdbc/Database", "takesSql", "(II)Z"⟩ : MethodName) prog_13_method_6_code 3 (some .boolean) ({ frames := 0, cells := 0, slots := 0, locals := 0 } : Room) #[(.ref w_Database_H2), (.int (((2 : Int32) + (p1 &&& (3 : Int32))) - (2 : Int32))), (.int (((0 : Int32) + (p2 &&& (7 : Int32))) - (4 : Int32)))] Z.heap (fun v h' L => v = some (.int 0) ∧ h' = Z.heap ∧ L = []) := by
  have hw := B.1
  obtain ⟨S_w_Database_H2, E_w_Database_H2, S_w_Database_POSTGRESQL, E_w_Database_POSTGRESQL, S_w_Database_MARIADB, E_w_Database_MARIADB, F_w_Database_H2_lowestMajor, F_w_Database_POSTGRESQL_lowestMajor, F_w_Database_MARIADB_lowestMajor, F_w_Database_MARIADB_lowestMinor, F_w_Database_H2_lowestMinor, F_w_Database_POSTGRESQL_lowestMinor⟩ := B.2
  refine Con.of (plainFor_of_name pn2) (Ls := #[vR w_Database_H2, vI (((2 : Int32) + (p1 &&& (3 : Int32))) - (2 : Int32)), vI (((0 : Int32) + (p2 &&& (7 : Int32))) - (4 : Int32))]) (fun m => by first | rfl | (simp [entryFrame, mkF, argsToLocals, Value.category]; done)) ?_
  intro p e s m below meth c T0 X0 H hml hZ hown hnm hret hlk e0
  refine gIloadN X0 H d2_0 rfl 1 rfl ?_
  refine gAloadN X0 H d2_1 rfl rfl 2 rfl ?_
  refine gGetF X0 H hZ hown (hw _ wd15) Via.refl e0 F_w_Database_H2_lowestMajor d2_2 5 rfl ?_
  intro T94 X94 e94
  refine gCmpN X94 H d2_5 (flt hk2).2.2.1 8 rfl ?_
  refine gIloadN X94 H d2_8 rfl 9 rfl ?_
  refine gAloadN X94 H d2_9 rfl rfl 10 rfl ?_
  refine gGetF X94 H hZ hown (hw _ wd15) Via.refl e94 F_w_Database_H2_lowestMajor d2_10 13 rfl ?_
  intro T95 X95 e95
  refine gCmpY X95 H d2_13 (feq hk3).2 (by decide) 28 rfl ?_
  refine gIconst X95 H d2_28 (z := 0) rfl 29 rfl ?_
  exact gRetN X95 H hlk hret (t := .boolean) (by simp) d2_29 e95 ⟨rfl, rfl, rfl⟩
theorem lawAll_0 (B : Bg Z a0 w_Database_H2 w_Database_POSTGRESQL w_Database_MARIADB) (p0 : Int32) (p1 : Int32) (p2 : Int32) (p3 : Int32) (ha0 : ((p0 &&& (2147483647 : Int32)) % (3 : Int32)) = (0 : Int32)) :
    Con l Z x code maxLocals ret room_1 #[(.int p0), (.int p1), (.int p2), (.int p3)] Z.heap (fun v h' L => v = some (.int 1) ∧ Fr Z.heap.size L) := by
  have hw := B.1
  obtain ⟨S_w_Database_H2, E_w_Database_H2, S_w_Database_POSTGRESQL, E_w_Database_POSTGRESQL, S_w_Database_MARIADB, E_w_Database_MARIADB, F_w_Database_H2_lowestMajor, F_w_Database_POSTGRESQL_lowestMajor, F_w_Database_MARIADB_lowestMajor, F_w_Database_MARIADB_lowestMinor, F_w_Database_H2_lowestMinor, F_w_Database_POSTGRESQL_lowestMinor⟩ := B.2
  refine Con.of (plainFor_of_name pn0) (Ls := #[vI p0, vI p1, vI p2, vI p3, .unset, .unset, .unset, .unset, .unset, .unset, .unset]) (fun m => by first | rfl | (simp [entryFrame, mkF, argsToLocals, Value.category, maxLocals]; done)) ?_
  intro p e s m below meth c T0 X0 H hml hZ hown hnm hret hlk e0
  refine gIloadN X0 H at_0 rfl 1 rfl ?_
  refine gLdc X0 H hZ hown (hw _ wd0) at_1 3 rfl ?_
  refine g_iand X0 H at_3 (z := (p0 &&& (2147483647 : Int32))) rfl 4 rfl ?_
  refine gIconst X0 H at_4 (z := 3) rfl 5 rfl ?_
  refine g_irem X0 H at_5 (by decide) (z := 0) ha0 6 rfl ?_
  refine gIstore X0 H at_6 (Ls' := #[vI p0, vI p1, vI p2, vI p3, vI 0, .unset, .unset, .unset, .unset, .unset, .unset]) rfl 8 rfl ?_
  refine gIload X0 H at_8 rfl 10 rfl ?_
  refine gIfN X0 H at_10 (by decide) 13 rfl ?_
  refine gGetS X0 H hZ hown (hw _ wd1) e0 S_w_Database_H2 at_13 16 rfl ?_
  intro T1 X1 e1
  refine gAstore X1 H at_16 rfl (Ls' := #[vI p0, vI p1, vI p2, vI p3, vI 0, vR w_Database_H2, .unset, .unset, .unset, .unset, .unset]) rfl 18 rfl ?_
  refine gIconst X1 H at_18 (z := 2) rfl 19 rfl ?_
  refine gIstore X1 H at_19 (Ls' := #[vI p0, vI p1, vI p2, vI p3, vI 0, vR w_Database_H2, vI 2, .unset, .unset, .unset, .unset]) rfl 21 rfl ?_
  refine gIconst X1 H at_21 (z := 0) rfl 22 rfl ?_
  refine gIstore X1 H at_22 (Ls' := #[vI p0, vI p1, vI p2, vI p3, vI 0, vR w_Database_H2, vI 2, vI 0, .unset, .unset, .unset]) rfl 24 rfl ?_
  refine gGoto X1 H at_24 (by decide) 61 rfl ?_
  refine gIloadN X1 H at_61 rfl 62 rfl ?_
  refine gIstore X1 H at_62 (Ls' := #[vI p0, vI p1, vI p2, vI p3, vI 0, vR w_Database_H2, vI 2, vI 0, vI p1, .unset, .unset]) rfl 64 rfl ?_
  refine gIloadN X1 H at_64 rfl 65 rfl ?_
  refine gIconst X1 H at_65 (z := 1) rfl 66 rfl ?_
  refine g_iand X1 H at_66 (z := (p3 &&& (1 : Int32))) rfl 67 rfl ?_
  by_cases hc2 : (p3 &&& (1 : Int32)) = (0 : Int32)
  · refine gIfY X1 H at_67 ((if0 _ _).trans (teq hc2).1) (by decide) 80 rfl ?_
    refine gIloadN X1 H at_80 rfl 81 rfl ?_
    refine gIstore X1 H at_81 (Ls' := #[vI p0, vI p1, vI p2, vI p3, vI 0, vR w_Database_H2, vI 2, vI 0, vI p1, vI p2, .unset]) rfl 83 rfl ?_
    refine gIloadN X1 H at_83 rfl 84 rfl ?_
    refine gIconst X1 H at_84 (z := 2) rfl 85 rfl ?_
    refine g_iand X1 H at_85 (z := (p3 &&& (2 : Int32))) rfl 86 rfl ?_
    by_cases hc3 : (p3 &&& (2 : Int32)) = (0 : Int32)
    · refine gIfY X1 H at_86 ((if0 _ _).trans (teq hc3).1) (by decide) 100 rfl ?_
      refine gIload X1 H at_100 rfl 102 rfl ?_
      refine gIload X1 H at_102 rfl 104 rfl ?_
      refine gStatic X1 H hZ hown (hw _ wd4) (hw _ wd5) (by decide) (hw _ wd7) (hw _ wd6) (rm4_1 B p1 p2) e1 hml rfl pd0 rfl (W := 0) (argsL := [(.int p1), (.int p2)]) (rest := []) rfl rfl at_104 107 rfl ?_
      intro v5 T5 L5 hq5 X5
      obtain ⟨rfl, e5, rfl⟩ := hq5
      show Go _ _ _ _ (State.setTop _ (mkF _ 107 _ [(.long (((p1.toInt64) * (4294967296 : Int64)) + ((p2.toInt64) + (2147483648 : Int64))))]))
      refine gIload X5 H at_107 rfl 109 rfl ?_
      refine gIload X5 H at_109 rfl 111 rfl ?_
      refine gStatic X5 H hZ hown (hw _ wd4) (hw _ wd5) (by decide) (hw _ wd7) (hw _ wd6) (rm6_1 B) e5 hml rfl pd0 rfl (W := 2) (argsL := [(.int 2), (.int 0)]) (rest := [(.long (((p1.toInt64) * (4294967296 : Int64)) + ((p2.toInt64) + (2147483648 : Int64))))]) rfl rfl at_111 114 rfl ?_
      intro v7 T7 L7 hq7 X7
      obtain ⟨rfl, e7, rfl⟩ := hq7
      show Go _ _ _ _ (State.setTop _ (mkF _ 114 _ [(.long 10737418240), (.long (((p1.toInt64) * (4294967296 : Int64)) + ((p2.toInt64) + (2147483648 : Int64))))]))
      refine g_lcmp X7 H at_114 (z := (lcmpW (((p1.toInt64) * (4294967296 : Int64)) + ((p2.toInt64) + (2147483648 : Int64))) (10737418240 : Int64))) rfl 115 rfl ?_
      by_cases hc8 : (2 : Int32) < p1
      · refine gIfN X7 H at_115 ((if0 _ _).trans (flt (fun q => (key1 (lm := (2 : Int32)) p2 (0 : Int32) (by decide) hc8) ((lw_lt _ _).mp q))).1) 118 rfl ?_
        refine gIconst X7 H at_118 (z := 1) rfl 119 rfl ?_
        refine gGoto X7 H at_119 (by decide) 123 rfl ?_
        refine gIstore X7 H at_123 (Ls' := #[vI p0, vI p1, vI p2, vI p3, vI 0, vR w_Database_H2, vI 2, vI 0, vI p1, vI p2, vI 1]) rfl 125 rfl ?_
        refine gAload X7 H at_125 rfl rfl 127 rfl ?_
        refine gIload X7 H at_127 rfl 129 rfl ?_
        refine gIload X7 H at_129 rfl 131 rfl ?_
        refine gVirt X7 H hZ hown (hw _ wd10) (hw _ wd11) (hw _ wd13) (hw _ wd12) (by decide) E_w_Database_H2 (hw _ wd14) (hw _ wd2) (rm10_2 B p1 p2 hc8) e7 hml rfl pd1 rfl (W := 0) (argsL := [(.int p1), (.int p2)]) (rest := []) rfl rfl at_131 134 rfl ?_
        intro v11 T11 L11 hq11 X11
        obtain ⟨rfl, e11, rfl⟩ := hq11
        show Go _ _ _ _ (State.setTop _ (mkF _ 134 _ [(.int 1)]))
        refine gIload X11 H at_134 rfl 136 rfl ?_
        refine gCmpN X11 H at_136 (by decide) 139 rfl ?_
        refine gIconst X11 H at_139 (z := 1) rfl 140 rfl ?_
        refine gGoto X11 H at_140 (by decide) 144 rfl ?_
        exact gRetN X11 H hlk hret (t := .boolean) (by simp) at_144 e11 ⟨rfl, Fr.nil _⟩
      · by_cases hc12 : p1 = (2 : Int32)
        · by_cases hc13 : p2 < (0 : Int32)
          · refine gIfY X7 H at_115 ((if0 _ _).trans (tlt ((lw_lt _ _).mpr (key3 (lm := (2 : Int32)) (lo := (0 : Int32)) (by decide) hc12 hc13))).1) (by decide) 122 rfl ?_
            refine gIconst X7 H at_122 (z := 0) rfl 123 rfl ?_
            refine gIstore X7 H at_123 (Ls' := #[vI p0, vI p1, vI p2, vI p3, vI 0, vR w_Database_H2, vI 2, vI 0, vI p1, vI p2, vI 0]) rfl 125 rfl ?_
            refine gAload X7 H at_125 rfl rfl 127 rfl ?_
            refine gIload X7 H at_127 rfl 129 rfl ?_
            refine gIload X7 H at_129 rfl 131 rfl ?_
            refine gVirt X7 H hZ hown (hw _ wd10) (hw _ wd11) (hw _ wd13) (hw _ wd12) (by decide) E_w_Database_H2 (hw _ wd14) (hw _ wd2) (rm17_2 B p1 p2 hc8 hc12 hc13) e7 hml rfl pd1 rfl (W := 0) (argsL := [(.int p1), (.int p2)]) (rest := []) rfl rfl at_131 134 rfl ?_
            intro v18 T18 L18 hq18 X18
            obtain ⟨rfl, e18, rfl⟩ := hq18
            show Go _ _ _ _ (State.setTop _ (mkF _ 134 _ [(.int 0)]))
            refine gIload X18 H at_134 rfl 136 rfl ?_
            refine gCmpN X18 H at_136 (by decide) 139 rfl ?_
            refine gIconst X18 H at_139 (z := 1) rfl 140 rfl ?_
            refine gGoto X18 H at_140 (by decide) 144 rfl ?_
            exact gRetN X18 H hlk hret (t := .boolean) (by simp) at_144 e18 ⟨rfl, Fr.nil _⟩
          · refine gIfN X7 H at_115 ((if0 _ _).trans (flt (fun q => (key4 (lm := (2 : Int32)) (lo := (0 : Int32)) (by decide) hc12 hc13) ((lw_lt _ _).mp q))).1) 118 rfl ?_
            refine gIconst X7 H at_118 (z := 1) rfl 119 rfl ?_
            refine gGoto X7 H at_119 (by decide) 123 rfl ?_
            refine gIstore X7 H at_123 (Ls' := #[vI p0, vI p1, vI p2, vI p3, vI 0, vR w_Database_H2, vI 2, vI 0, vI p1, vI p2, vI 1]) rfl 125 rfl ?_
            refine gAload X7 H at_125 rfl rfl 127 rfl ?_
            refine gIload X7 H at_127 rfl 129 rfl ?_
            refine gIload X7 H at_129 rfl 131 rfl ?_
            refine gVirt X7 H hZ hown (hw _ wd10) (hw _ wd11) (hw _ wd13) (hw _ wd12) (by decide) E_w_Database_H2 (hw _ wd14) (hw _ wd2) (rm22_2 B p1 p2 hc8 hc12 hc13) e7 hml rfl pd1 rfl (W := 0) (argsL := [(.int p1), (.int p2)]) (rest := []) rfl rfl at_131 134 rfl ?_
            intro v23 T23 L23 hq23 X23
            obtain ⟨rfl, e23, rfl⟩ := hq23
            show Go _ _ _ _ (State.setTop _ (mkF _ 134 _ [(.int 1)]))
            refine gIload X23 H at_134 rfl 136 rfl ?_
            refine gCmpN X23 H at_136 (by decide) 139 rfl ?_
            refine gIconst X23 H at_139 (z := 1) rfl 140 rfl ?_
            refine gGoto X23 H at_140 (by decide) 144 rfl ?_
            exact gRetN X23 H hlk hret (t := .boolean) (by simp) at_144 e23 ⟨rfl, Fr.nil _⟩
        · refine gIfY X7 H at_115 ((if0 _ _).trans (tlt ((lw_lt _ _).mpr (key2 (lm := (2 : Int32)) p2 (0 : Int32) (by decide) hc8 hc12))).1) (by decide) 122 rfl ?_
          refine gIconst X7 H at_122 (z := 0) rfl 123 rfl ?_
          refine gIstore X7 H at_123 (Ls' := #[vI p0, vI p1, vI p2, vI p3, vI 0, vR w_Database_H2, vI 2, vI 0, vI p1, vI p2, vI 0]) rfl 125 rfl ?_
          refine gAload X7 H at_125 rfl rfl 127 rfl ?_
          refine gIload X7 H at_127 rfl 129 rfl ?_
          refine gIload X7 H at_129 rfl 131 rfl ?_
          refine gVirt X7 H hZ hown (hw _ wd10) (hw _ wd11) (hw _ wd13) (hw _ wd12) (by decide) E_w_Database_H2 (hw _ wd14) (hw _ wd2) (rm26_2 B p1 p2 hc8 hc12) e7 hml rfl pd1 rfl (W := 0) (argsL := [(.int p1), (.int p2)]) (rest := []) rfl rfl at_131 134 rfl ?_
          intro v27 T27 L27 hq27 X27
          obtain ⟨rfl, e27, rfl⟩ := hq27
          show Go _ _ _ _ (State.setTop _ (mkF _ 134 _ [(.int 0)]))
          refine gIload X27 H at_134 rfl 136 rfl ?_
          refine gCmpN X27 H at_136 (by decide) 139 rfl ?_
          refine gIconst X27 H at_139 (z := 1) rfl 140 rfl ?_
          refine gGoto X27 H at_140 (by decide) 144 rfl ?_
          exact gRetN X27 H hlk hret (t := .boolean) (by simp) at_144 e27 ⟨rfl, Fr.nil _⟩
    · refine gIfN X1 H at_86 ((if0 _ _).trans (feq hc3).1) 89 rfl ?_
      refine gIload X1 H at_89 rfl 91 rfl ?_
      refine gIloadN X1 H at_91 rfl 92 rfl ?_
      refine gBipush X1 H at_92 (z := 7) rfl 94 rfl ?_
      refine g_iand X1 H at_94 (z := (p2 &&& (7 : Int32))) rfl 95 rfl ?_
      refine g_iadd X1 H at_95 (z := ((0 : Int32) + (p2 &&& (7 : Int32)))) rfl 96 rfl ?_
      refine gIconst X1 H at_96 (z := 4) rfl 97 rfl ?_
      refine g_isub X1 H at_97 (z := (((0 : Int32) + (p2 &&& (7 : Int32))) - (4 : Int32))) rfl 98 rfl ?_
      refine gIstore X1 H at_98 (Ls' := #[vI p0, vI p1, vI p2, vI p3, vI 0, vR w_Database_H2, vI 2, vI 0, vI p1, vI (((0 : Int32) + (p2 &&& (7 : Int32))) - (4 : Int32)), .unset]) rfl 100 rfl ?_
      refine gIload X1 H at_100 rfl 102 rfl ?_
      refine gIload X1 H at_102 rfl 104 rfl ?_
      refine gStatic X1 H hZ hown (hw _ wd4) (hw _ wd5) (by decide) (hw _ wd7) (hw _ wd6) (rm28_1 B p1 p2) e1 hml rfl pd0 rfl (W := 0) (argsL := [(.int p1), (.int (((0 : Int32) + (p2 &&& (7 : Int32))) - (4 : Int32)))]) (rest := []) rfl rfl at_104 107 rfl ?_
      intro v29 T29 L29 hq29 X29
      obtain ⟨rfl, e29, rfl⟩ := hq29
      show Go _ _ _ _ (State.setTop _ (mkF _ 107 _ [(.long (((p1.toInt64) * (4294967296 : Int64)) + (((((0 : Int32) + (p2 &&& (7 : Int32))) - (4 : Int32)).toInt64) + (2147483648 : Int64))))]))
      refine gIload X29 H at_107 rfl 109 rfl ?_
      refine gIload X29 H at_109 rfl 111 rfl ?_
      refine gStatic X29 H hZ hown (hw _ wd4) (hw _ wd5) (by decide) (hw _ wd7) (hw _ wd6) (rm6_1 B) e29 hml rfl pd0 rfl (W := 2) (argsL := [(.int 2), (.int 0)]) (rest := [(.long (((p1.toInt64) * (4294967296 : Int64)) + (((((0 : Int32) + (p2 &&& (7 : Int32))) - (4 : Int32)).toInt64) + (2147483648 : Int64))))]) rfl rfl at_111 114 rfl ?_
      intro v30 T30 L30 hq30 X30
      obtain ⟨rfl, e30, rfl⟩ := hq30
      show Go _ _ _ _ (State.setTop _ (mkF _ 114 _ [(.long 10737418240), (.long (((p1.toInt64) * (4294967296 : Int64)) + (((((0 : Int32) + (p2 &&& (7 : Int32))) - (4 : Int32)).toInt64) + (2147483648 : Int64))))]))
      refine g_lcmp X30 H at_114 (z := (lcmpW (((p1.toInt64) * (4294967296 : Int64)) + (((((0 : Int32) + (p2 &&& (7 : Int32))) - (4 : Int32)).toInt64) + (2147483648 : Int64))) (10737418240 : Int64))) rfl 115 rfl ?_
      by_cases hc31 : (2 : Int32) < p1
      · refine gIfN X30 H at_115 ((if0 _ _).trans (flt (fun q => (key1 (lm := (2 : Int32)) (((0 : Int32) + (p2 &&& (7 : Int32))) - (4 : Int32)) (0 : Int32) (by decide) hc31) ((lw_lt _ _).mp q))).1) 118 rfl ?_
        refine gIconst X30 H at_118 (z := 1) rfl 119 rfl ?_
        refine gGoto X30 H at_119 (by decide) 123 rfl ?_
        refine gIstore X30 H at_123 (Ls' := #[vI p0, vI p1, vI p2, vI p3, vI 0, vR w_Database_H2, vI 2, vI 0, vI p1, vI (((0 : Int32) + (p2 &&& (7 : Int32))) - (4 : Int32)), vI 1]) rfl 125 rfl ?_
        refine gAload X30 H at_125 rfl rfl 127 rfl ?_
        refine gIload X30 H at_127 rfl 129 rfl ?_
        refine gIload X30 H at_129 rfl 131 rfl ?_
        refine gVirt X30 H hZ hown (hw _ wd10) (hw _ wd11) (hw _ wd13) (hw _ wd12) (by decide) E_w_Database_H2 (hw _ wd14) (hw _ wd2) (rm33_2 B p1 p2 hc31) e30 hml rfl pd1 rfl (W := 0) (argsL := [(.int p1), (.int (((0 : Int32) + (p2 &&& (7 : Int32))) - (4 : Int32)))]) (rest := []) rfl rfl at_131 134 rfl ?_
        intro v34 T34 L34 hq34 X34
        obtain ⟨rfl, e34, rfl⟩ := hq34
        show Go _ _ _ _ (State.setTop _ (mkF _ 134 _ [(.int 1)]))
        refine gIload X34 H at_134 rfl 136 rfl ?_
        refine gCmpN X34 H at_136 (by decide) 139 rfl ?_
        refine gIconst X34 H at_139 (z := 1) rfl 140 rfl ?_
        refine gGoto X34 H at_140 (by decide) 144 rfl ?_
        exact gRetN X34 H hlk hret (t := .boolean) (by simp) at_144 e34 ⟨rfl, Fr.nil _⟩
      · by_cases hc35 : p1 = (2 : Int32)
        · by_cases hc36 : (((0 : Int32) + (p2 &&& (7 : Int32))) - (4 : Int32)) < (0 : Int32)
          · refine gIfY X30 H at_115 ((if0 _ _).trans (tlt ((lw_lt _ _).mpr (key3 (lm := (2 : Int32)) (lo := (0 : Int32)) (by decide) hc35 hc36))).1) (by decide) 122 rfl ?_
            refine gIconst X30 H at_122 (z := 0) rfl 123 rfl ?_
            refine gIstore X30 H at_123 (Ls' := #[vI p0, vI p1, vI p2, vI p3, vI 0, vR w_Database_H2, vI 2, vI 0, vI p1, vI (((0 : Int32) + (p2 &&& (7 : Int32))) - (4 : Int32)), vI 0]) rfl 125 rfl ?_
            refine gAload X30 H at_125 rfl rfl 127 rfl ?_
            refine gIload X30 H at_127 rfl 129 rfl ?_
            refine gIload X30 H at_129 rfl 131 rfl ?_
            refine gVirt X30 H hZ hown (hw _ wd10) (hw _ wd11) (hw _ wd13) (hw _ wd12) (by decide) E_w_Database_H2 (hw _ wd14) (hw _ wd2) (rm40_2 B p1 p2 hc31 hc35 hc36) e30 hml rfl pd1 rfl (W := 0) (argsL := [(.int p1), (.int (((0 : Int32) + (p2 &&& (7 : Int32))) - (4 : Int32)))]) (rest := []) rfl rfl at_131 134 rfl ?_
            intro v41 T41 L41 hq41 X41
            obtain ⟨rfl, e41, rfl⟩ := hq41
            show Go _ _ _ _ (State.setTop _ (mkF _ 134 _ [(.int 0)]))
            refine gIload X41 H at_134 rfl 136 rfl ?_
            refine gCmpN X41 H at_136 (by decide) 139 rfl ?_
            refine gIconst X41 H at_139 (z := 1) rfl 140 rfl ?_
            refine gGoto X41 H at_140 (by decide) 144 rfl ?_
            exact gRetN X41 H hlk hret (t := .boolean) (by simp) at_144 e41 ⟨rfl, Fr.nil _⟩
          · refine gIfN X30 H at_115 ((if0 _ _).trans (flt (fun q => (key4 (lm := (2 : Int32)) (lo := (0 : Int32)) (by decide) hc35 hc36) ((lw_lt _ _).mp q))).1) 118 rfl ?_
            refine gIconst X30 H at_118 (z := 1) rfl 119 rfl ?_
            refine gGoto X30 H at_119 (by decide) 123 rfl ?_
            refine gIstore X30 H at_123 (Ls' := #[vI p0, vI p1, vI p2, vI p3, vI 0, vR w_Database_H2, vI 2, vI 0, vI p1, vI (((0 : Int32) + (p2 &&& (7 : Int32))) - (4 : Int32)), vI 1]) rfl 125 rfl ?_
            refine gAload X30 H at_125 rfl rfl 127 rfl ?_
            refine gIload X30 H at_127 rfl 129 rfl ?_
            refine gIload X30 H at_129 rfl 131 rfl ?_
            refine gVirt X30 H hZ hown (hw _ wd10) (hw _ wd11) (hw _ wd13) (hw _ wd12) (by decide) E_w_Database_H2 (hw _ wd14) (hw _ wd2) (rm45_2 B p1 p2 hc31 hc35 hc36) e30 hml rfl pd1 rfl (W := 0) (argsL := [(.int p1), (.int (((0 : Int32) + (p2 &&& (7 : Int32))) - (4 : Int32)))]) (rest := []) rfl rfl at_131 134 rfl ?_
            intro v46 T46 L46 hq46 X46
            obtain ⟨rfl, e46, rfl⟩ := hq46
            show Go _ _ _ _ (State.setTop _ (mkF _ 134 _ [(.int 1)]))
            refine gIload X46 H at_134 rfl 136 rfl ?_
            refine gCmpN X46 H at_136 (by decide) 139 rfl ?_
            refine gIconst X46 H at_139 (z := 1) rfl 140 rfl ?_
            refine gGoto X46 H at_140 (by decide) 144 rfl ?_
            exact gRetN X46 H hlk hret (t := .boolean) (by simp) at_144 e46 ⟨rfl, Fr.nil _⟩
        · refine gIfY X30 H at_115 ((if0 _ _).trans (tlt ((lw_lt _ _).mpr (key2 (lm := (2 : Int32)) (((0 : Int32) + (p2 &&& (7 : Int32))) - (4 : Int32)) (0 : Int32) (by decide) hc31 hc35))).1) (by decide) 122 rfl ?_
          refine gIconst X30 H at_122 (z := 0) rfl 123 rfl ?_
          refine gIstore X30 H at_123 (Ls' := #[vI p0, vI p1, vI p2, vI p3, vI 0, vR w_Database_H2, vI 2, vI 0, vI p1, vI (((0 : Int32) + (p2 &&& (7 : Int32))) - (4 : Int32)), vI 0]) rfl 125 rfl ?_
          refine gAload X30 H at_125 rfl rfl 127 rfl ?_
          refine gIload X30 H at_127 rfl 129 rfl ?_
          refine gIload X30 H at_129 rfl 131 rfl ?_
          refine gVirt X30 H hZ hown (hw _ wd10) (hw _ wd11) (hw _ wd13) (hw _ wd12) (by decide) E_w_Database_H2 (hw _ wd14) (hw _ wd2) (rm49_2 B p1 p2 hc31 hc35) e30 hml rfl pd1 rfl (W := 0) (argsL := [(.int p1), (.int (((0 : Int32) + (p2 &&& (7 : Int32))) - (4 : Int32)))]) (rest := []) rfl rfl at_131 134 rfl ?_
          intro v50 T50 L50 hq50 X50
          obtain ⟨rfl, e50, rfl⟩ := hq50
          show Go _ _ _ _ (State.setTop _ (mkF _ 134 _ [(.int 0)]))
          refine gIload X50 H at_134 rfl 136 rfl ?_
          refine gCmpN X50 H at_136 (by decide) 139 rfl ?_
          refine gIconst X50 H at_139 (z := 1) rfl 140 rfl ?_
          refine gGoto X50 H at_140 (by decide) 144 rfl ?_
          exact gRetN X50 H hlk hret (t := .boolean) (by simp) at_144 e50 ⟨rfl, Fr.nil _⟩
  · refine gIfN X1 H at_67 ((if0 _ _).trans (feq hc2).1) 70 rfl ?_
    refine gIload X1 H at_70 rfl 72 rfl ?_
    refine gIloadN X1 H at_72 rfl 73 rfl ?_
    refine gIconst X1 H at_73 (z := 3) rfl 74 rfl ?_
    refine g_iand X1 H at_74 (z := (p1 &&& (3 : Int32))) rfl 75 rfl ?_
    refine g_iadd X1 H at_75 (z := ((2 : Int32) + (p1 &&& (3 : Int32)))) rfl 76 rfl ?_
    refine gIconst X1 H at_76 (z := 2) rfl 77 rfl ?_
    refine g_isub X1 H at_77 (z := (((2 : Int32) + (p1 &&& (3 : Int32))) - (2 : Int32))) rfl 78 rfl ?_
    refine gIstore X1 H at_78 (Ls' := #[vI p0, vI p1, vI p2, vI p3, vI 0, vR w_Database_H2, vI 2, vI 0, vI (((2 : Int32) + (p1 &&& (3 : Int32))) - (2 : Int32)), .unset, .unset]) rfl 80 rfl ?_
    refine gIloadN X1 H at_80 rfl 81 rfl ?_
    refine gIstore X1 H at_81 (Ls' := #[vI p0, vI p1, vI p2, vI p3, vI 0, vR w_Database_H2, vI 2, vI 0, vI (((2 : Int32) + (p1 &&& (3 : Int32))) - (2 : Int32)), vI p2, .unset]) rfl 83 rfl ?_
    refine gIloadN X1 H at_83 rfl 84 rfl ?_
    refine gIconst X1 H at_84 (z := 2) rfl 85 rfl ?_
    refine g_iand X1 H at_85 (z := (p3 &&& (2 : Int32))) rfl 86 rfl ?_
    by_cases hc51 : (p3 &&& (2 : Int32)) = (0 : Int32)
    · refine gIfY X1 H at_86 ((if0 _ _).trans (teq hc51).1) (by decide) 100 rfl ?_
      refine gIload X1 H at_100 rfl 102 rfl ?_
      refine gIload X1 H at_102 rfl 104 rfl ?_
      refine gStatic X1 H hZ hown (hw _ wd4) (hw _ wd5) (by decide) (hw _ wd7) (hw _ wd6) (rm52_1 B p1 p2) e1 hml rfl pd0 rfl (W := 0) (argsL := [(.int (((2 : Int32) + (p1 &&& (3 : Int32))) - (2 : Int32))), (.int p2)]) (rest := []) rfl rfl at_104 107 rfl ?_
      intro v53 T53 L53 hq53 X53
      obtain ⟨rfl, e53, rfl⟩ := hq53
      show Go _ _ _ _ (State.setTop _ (mkF _ 107 _ [(.long ((((((2 : Int32) + (p1 &&& (3 : Int32))) - (2 : Int32)).toInt64) * (4294967296 : Int64)) + ((p2.toInt64) + (2147483648 : Int64))))]))
      refine gIload X53 H at_107 rfl 109 rfl ?_
      refine gIload X53 H at_109 rfl 111 rfl ?_
      refine gStatic X53 H hZ hown (hw _ wd4) (hw _ wd5) (by decide) (hw _ wd7) (hw _ wd6) (rm6_1 B) e53 hml rfl pd0 rfl (W := 2) (argsL := [(.int 2), (.int 0)]) (rest := [(.long ((((((2 : Int32) + (p1 &&& (3 : Int32))) - (2 : Int32)).toInt64) * (4294967296 : Int64)) + ((p2.toInt64) + (2147483648 : Int64))))]) rfl rfl at_111 114 rfl ?_
      intro v54 T54 L54 hq54 X54
      obtain ⟨rfl, e54, rfl⟩ := hq54
      show Go _ _ _ _ (State.setTop _ (mkF _ 114 _ [(.long 10737418240), (.long ((((((2 : Int32) + (p1 &&& (3 : Int32))) - (2 : Int32)).toInt64) * (4294967296 : Int64)) + ((p2.toInt64) + (2147483648 : Int64))))]))
      refine g_lcmp X54 H at_114 (z := (lcmpW ((((((2 : Int32) + (p1 &&& (3 : Int32))) - (2 : Int32)).toInt64) * (4294967296 : Int64)) + ((p2.toInt64) + (2147483648 : Int64))) (10737418240 : Int64))) rfl 115 rfl ?_
      by_cases hc55 : (2 : Int32) < (((2 : Int32) + (p1 &&& (3 : Int32))) - (2 : Int32))
      · refine gIfN X54 H at_115 ((if0 _ _).trans (flt (fun q => (key1 (lm := (2 : Int32)) p2 (0 : Int32) (by decide) hc55) ((lw_lt _ _).mp q))).1) 118 rfl ?_
        refine gIconst X54 H at_118 (z := 1) rfl 119 rfl ?_
        refine gGoto X54 H at_119 (by decide) 123 rfl ?_
        refine gIstore X54 H at_123 (Ls' := #[vI p0, vI p1, vI p2, vI p3, vI 0, vR w_Database_H2, vI 2, vI 0, vI (((2 : Int32) + (p1 &&& (3 : Int32))) - (2 : Int32)), vI p2, vI 1]) rfl 125 rfl ?_
        refine gAload X54 H at_125 rfl rfl 127 rfl ?_
        refine gIload X54 H at_127 rfl 129 rfl ?_
        refine gIload X54 H at_129 rfl 131 rfl ?_
        refine gVirt X54 H hZ hown (hw _ wd10) (hw _ wd11) (hw _ wd13) (hw _ wd12) (by decide) E_w_Database_H2 (hw _ wd14) (hw _ wd2) (rm57_2 B p1 p2 hc55) e54 hml rfl pd1 rfl (W := 0) (argsL := [(.int (((2 : Int32) + (p1 &&& (3 : Int32))) - (2 : Int32))), (.int p2)]) (rest := []) rfl rfl at_131 134 rfl ?_
        intro v58 T58 L58 hq58 X58
        obtain ⟨rfl, e58, rfl⟩ := hq58
        show Go _ _ _ _ (State.setTop _ (mkF _ 134 _ [(.int 1)]))
        refine gIload X58 H at_134 rfl 136 rfl ?_
        refine gCmpN X58 H at_136 (by decide) 139 rfl ?_
        refine gIconst X58 H at_139 (z := 1) rfl 140 rfl ?_
        refine gGoto X58 H at_140 (by decide) 144 rfl ?_
        exact gRetN X58 H hlk hret (t := .boolean) (by simp) at_144 e58 ⟨rfl, Fr.nil _⟩
      · by_cases hc59 : (((2 : Int32) + (p1 &&& (3 : Int32))) - (2 : Int32)) = (2 : Int32)
        · by_cases hc60 : p2 < (0 : Int32)
          · refine gIfY X54 H at_115 ((if0 _ _).trans (tlt ((lw_lt _ _).mpr (key3 (lm := (2 : Int32)) (lo := (0 : Int32)) (by decide) hc59 hc60))).1) (by decide) 122 rfl ?_
            refine gIconst X54 H at_122 (z := 0) rfl 123 rfl ?_
            refine gIstore X54 H at_123 (Ls' := #[vI p0, vI p1, vI p2, vI p3, vI 0, vR w_Database_H2, vI 2, vI 0, vI (((2 : Int32) + (p1 &&& (3 : Int32))) - (2 : Int32)), vI p2, vI 0]) rfl 125 rfl ?_
            refine gAload X54 H at_125 rfl rfl 127 rfl ?_
            refine gIload X54 H at_127 rfl 129 rfl ?_
            refine gIload X54 H at_129 rfl 131 rfl ?_
            refine gVirt X54 H hZ hown (hw _ wd10) (hw _ wd11) (hw _ wd13) (hw _ wd12) (by decide) E_w_Database_H2 (hw _ wd14) (hw _ wd2) (rm64_2 B p1 p2 hc55 hc59 hc60) e54 hml rfl pd1 rfl (W := 0) (argsL := [(.int (((2 : Int32) + (p1 &&& (3 : Int32))) - (2 : Int32))), (.int p2)]) (rest := []) rfl rfl at_131 134 rfl ?_
            intro v65 T65 L65 hq65 X65
            obtain ⟨rfl, e65, rfl⟩ := hq65
            show Go _ _ _ _ (State.setTop _ (mkF _ 134 _ [(.int 0)]))
            refine gIload X65 H at_134 rfl 136 rfl ?_
            refine gCmpN X65 H at_136 (by decide) 139 rfl ?_
            refine gIconst X65 H at_139 (z := 1) rfl 140 rfl ?_
            refine gGoto X65 H at_140 (by decide) 144 rfl ?_
            exact gRetN X65 H hlk hret (t := .boolean) (by simp) at_144 e65 ⟨rfl, Fr.nil _⟩
          · refine gIfN X54 H at_115 ((if0 _ _).trans (flt (fun q => (key4 (lm := (2 : Int32)) (lo := (0 : Int32)) (by decide) hc59 hc60) ((lw_lt _ _).mp q))).1) 118 rfl ?_
            refine gIconst X54 H at_118 (z := 1) rfl 119 rfl ?_
            refine gGoto X54 H at_119 (by decide) 123 rfl ?_
            refine gIstore X54 H at_123 (Ls' := #[vI p0, vI p1, vI p2, vI p3, vI 0, vR w_Database_H2, vI 2, vI 0, vI (((2 : Int32) + (p1 &&& (3 : Int32))) - (2 : Int32)), vI p2, vI 1]) rfl 125 rfl ?_
            refine gAload X54 H at_125 rfl rfl 127 rfl ?_
            refine gIload X54 H at_127 rfl 129 rfl ?_
            refine gIload X54 H at_129 rfl 131 rfl ?_
            refine gVirt X54 H hZ hown (hw _ wd10) (hw _ wd11) (hw _ wd13) (hw _ wd12) (by decide) E_w_Database_H2 (hw _ wd14) (hw _ wd2) (rm69_2 B p1 p2 hc55 hc59 hc60) e54 hml rfl pd1 rfl (W := 0) (argsL := [(.int (((2 : Int32) + (p1 &&& (3 : Int32))) - (2 : Int32))), (.int p2)]) (rest := []) rfl rfl at_131 134 rfl ?_
            intro v70 T70 L70 hq70 X70
            obtain ⟨rfl, e70, rfl⟩ := hq70
            show Go _ _ _ _ (State.setTop _ (mkF _ 134 _ [(.int 1)]))
            refine gIload X70 H at_134 rfl 136 rfl ?_
            refine gCmpN X70 H at_136 (by decide) 139 rfl ?_
            refine gIconst X70 H at_139 (z := 1) rfl 140 rfl ?_
            refine gGoto X70 H at_140 (by decide) 144 rfl ?_
            exact gRetN X70 H hlk hret (t := .boolean) (by simp) at_144 e70 ⟨rfl, Fr.nil _⟩
        · refine gIfY X54 H at_115 ((if0 _ _).trans (tlt ((lw_lt _ _).mpr (key2 (lm := (2 : Int32)) p2 (0 : Int32) (by decide) hc55 hc59))).1) (by decide) 122 rfl ?_
          refine gIconst X54 H at_122 (z := 0) rfl 123 rfl ?_
          refine gIstore X54 H at_123 (Ls' := #[vI p0, vI p1, vI p2, vI p3, vI 0, vR w_Database_H2, vI 2, vI 0, vI (((2 : Int32) + (p1 &&& (3 : Int32))) - (2 : Int32)), vI p2, vI 0]) rfl 125 rfl ?_
          refine gAload X54 H at_125 rfl rfl 127 rfl ?_
          refine gIload X54 H at_127 rfl 129 rfl ?_
          refine gIload X54 H at_129 rfl 131 rfl ?_
          refine gVirt X54 H hZ hown (hw _ wd10) (hw _ wd11) (hw _ wd13) (hw _ wd12) (by decide) E_w_Database_H2 (hw _ wd14) (hw _ wd2) (rm73_2 B p1 p2 hc55 hc59) e54 hml rfl pd1 rfl (W := 0) (argsL := [(.int (((2 : Int32) + (p1 &&& (3 : Int32))) - (2 : Int32))), (.int p2)]) (rest := []) rfl rfl at_131 134 rfl ?_
          intro v74 T74 L74 hq74 X74
          obtain ⟨rfl, e74, rfl⟩ := hq74
          show Go _ _ _ _ (State.setTop _ (mkF _ 134 _ [(.int 0)]))
          refine gIload X74 H at_134 rfl 136 rfl ?_
          refine gCmpN X74 H at_136 (by decide) 139 rfl ?_
          refine gIconst X74 H at_139 (z := 1) rfl 140 rfl ?_
          refine gGoto X74 H at_140 (by decide) 144 rfl ?_
          exact gRetN X74 H hlk hret (t := .boolean) (by simp) at_144 e74 ⟨rfl, Fr.nil _⟩
    · refine gIfN X1 H at_86 ((if0 _ _).trans (feq hc51).1) 89 rfl ?_
      refine gIload X1 H at_89 rfl 91 rfl ?_
      refine gIloadN X1 H at_91 rfl 92 rfl ?_
      refine gBipush X1 H at_92 (z := 7) rfl 94 rfl ?_
      refine g_iand X1 H at_94 (z := (p2 &&& (7 : Int32))) rfl 95 rfl ?_
      refine g_iadd X1 H at_95 (z := ((0 : Int32) + (p2 &&& (7 : Int32)))) rfl 96 rfl ?_
      refine gIconst X1 H at_96 (z := 4) rfl 97 rfl ?_
      refine g_isub X1 H at_97 (z := (((0 : Int32) + (p2 &&& (7 : Int32))) - (4 : Int32))) rfl 98 rfl ?_
      refine gIstore X1 H at_98 (Ls' := #[vI p0, vI p1, vI p2, vI p3, vI 0, vR w_Database_H2, vI 2, vI 0, vI (((2 : Int32) + (p1 &&& (3 : Int32))) - (2 : Int32)), vI (((0 : Int32) + (p2 &&& (7 : Int32))) - (4 : Int32)), .unset]) rfl 100 rfl ?_
      refine gIload X1 H at_100 rfl 102 rfl ?_
      refine gIload X1 H at_102 rfl 104 rfl ?_
      refine gStatic X1 H hZ hown (hw _ wd4) (hw _ wd5) (by decide) (hw _ wd7) (hw _ wd6) (rm75_1 B p1 p2) e1 hml rfl pd0 rfl (W := 0) (argsL := [(.int (((2 : Int32) + (p1 &&& (3 : Int32))) - (2 : Int32))), (.int (((0 : Int32) + (p2 &&& (7 : Int32))) - (4 : Int32)))]) (rest := []) rfl rfl at_104 107 rfl ?_
      intro v76 T76 L76 hq76 X76
      obtain ⟨rfl, e76, rfl⟩ := hq76
      show Go _ _ _ _ (State.setTop _ (mkF _ 107 _ [(.long ((((((2 : Int32) + (p1 &&& (3 : Int32))) - (2 : Int32)).toInt64) * (4294967296 : Int64)) + (((((0 : Int32) + (p2 &&& (7 : Int32))) - (4 : Int32)).toInt64) + (2147483648 : Int64))))]))
      refine gIload X76 H at_107 rfl 109 rfl ?_
      refine gIload X76 H at_109 rfl 111 rfl ?_
      refine gStatic X76 H hZ hown (hw _ wd4) (hw _ wd5) (by decide) (hw _ wd7) (hw _ wd6) (rm6_1 B) e76 hml rfl pd0 rfl (W := 2) (argsL := [(.int 2), (.int 0)]) (rest := [(.long ((((((2 : Int32) + (p1 &&& (3 : Int32))) - (2 : Int32)).toInt64) * (4294967296 : Int64)) + (((((0 : Int32) + (p2 &&& (7 : Int32))) - (4 : Int32)).toInt64) + (2147483648 : Int64))))]) rfl rfl at_111 114 rfl ?_
      intro v77 T77 L77 hq77 X77
      obtain ⟨rfl, e77, rfl⟩ := hq77
      show Go _ _ _ _ (State.setTop _ (mkF _ 114 _ [(.long 10737418240), (.long ((((((2 : Int32) + (p1 &&& (3 : Int32))) - (2 : Int32)).toInt64) * (4294967296 : Int64)) + (((((0 : Int32) + (p2 &&& (7 : Int32))) - (4 : Int32)).toInt64) + (2147483648 : Int64))))]))
      refine g_lcmp X77 H at_114 (z := (lcmpW ((((((2 : Int32) + (p1 &&& (3 : Int32))) - (2 : Int32)).toInt64) * (4294967296 : Int64)) + (((((0 : Int32) + (p2 &&& (7 : Int32))) - (4 : Int32)).toInt64) + (2147483648 : Int64))) (10737418240 : Int64))) rfl 115 rfl ?_
      by_cases hc78 : (2 : Int32) < (((2 : Int32) + (p1 &&& (3 : Int32))) - (2 : Int32))
      · refine gIfN X77 H at_115 ((if0 _ _).trans (flt (fun q => (key1 (lm := (2 : Int32)) (((0 : Int32) + (p2 &&& (7 : Int32))) - (4 : Int32)) (0 : Int32) (by decide) hc78) ((lw_lt _ _).mp q))).1) 118 rfl ?_
        refine gIconst X77 H at_118 (z := 1) rfl 119 rfl ?_
        refine gGoto X77 H at_119 (by decide) 123 rfl ?_
        refine gIstore X77 H at_123 (Ls' := #[vI p0, vI p1, vI p2, vI p3, vI 0, vR w_Database_H2, vI 2, vI 0, vI (((2 : Int32) + (p1 &&& (3 : Int32))) - (2 : Int32)), vI (((0 : Int32) + (p2 &&& (7 : Int32))) - (4 : Int32)), vI 1]) rfl 125 rfl ?_
        refine gAload X77 H at_125 rfl rfl 127 rfl ?_
        refine gIload X77 H at_127 rfl 129 rfl ?_
        refine gIload X77 H at_129 rfl 131 rfl ?_
        refine gVirt X77 H hZ hown (hw _ wd10) (hw _ wd11) (hw _ wd13) (hw _ wd12) (by decide) E_w_Database_H2 (hw _ wd14) (hw _ wd2) (rm80_2 B p1 p2 hc78) e77 hml rfl pd1 rfl (W := 0) (argsL := [(.int (((2 : Int32) + (p1 &&& (3 : Int32))) - (2 : Int32))), (.int (((0 : Int32) + (p2 &&& (7 : Int32))) - (4 : Int32)))]) (rest := []) rfl rfl at_131 134 rfl ?_
        intro v81 T81 L81 hq81 X81
        obtain ⟨rfl, e81, rfl⟩ := hq81
        show Go _ _ _ _ (State.setTop _ (mkF _ 134 _ [(.int 1)]))
        refine gIload X81 H at_134 rfl 136 rfl ?_
        refine gCmpN X81 H at_136 (by decide) 139 rfl ?_
        refine gIconst X81 H at_139 (z := 1) rfl 140 rfl ?_
        refine gGoto X81 H at_140 (by decide) 144 rfl ?_
        exact gRetN X81 H hlk hret (t := .boolean) (by simp) at_144 e81 ⟨rfl, Fr.nil _⟩
      · by_cases hc82 : (((2 : Int32) + (p1 &&& (3 : Int32))) - (2 : Int32)) = (2 : Int32)
        · by_cases hc83 : (((0 : Int32) + (p2 &&& (7 : Int32))) - (4 : Int32)) < (0 : Int32)
          · refine gIfY X77 H at_115 ((if0 _ _).trans (tlt ((lw_lt _ _).mpr (key3 (lm := (2 : Int32)) (lo := (0 : Int32)) (by decide) hc82 hc83))).1) (by decide) 122 rfl ?_
            refine gIconst X77 H at_122 (z := 0) rfl 123 rfl ?_
            refine gIstore X77 H at_123 (Ls' := #[vI p0, vI p1, vI p2, vI p3, vI 0, vR w_Database_H2, vI 2, vI 0, vI (((2 : Int32) + (p1 &&& (3 : Int32))) - (2 : Int32)), vI (((0 : Int32) + (p2 &&& (7 : Int32))) - (4 : Int32)), vI 0]) rfl 125 rfl ?_
            refine gAload X77 H at_125 rfl rfl 127 rfl ?_
            refine gIload X77 H at_127 rfl 129 rfl ?_
            refine gIload X77 H at_129 rfl 131 rfl ?_
            refine gVirt X77 H hZ hown (hw _ wd10) (hw _ wd11) (hw _ wd13) (hw _ wd12) (by decide) E_w_Database_H2 (hw _ wd14) (hw _ wd2) (rm87_2 B p1 p2 hc78 hc82 hc83) e77 hml rfl pd1 rfl (W := 0) (argsL := [(.int (((2 : Int32) + (p1 &&& (3 : Int32))) - (2 : Int32))), (.int (((0 : Int32) + (p2 &&& (7 : Int32))) - (4 : Int32)))]) (rest := []) rfl rfl at_131 134 rfl ?_
            intro v88 T88 L88 hq88 X88
            obtain ⟨rfl, e88, rfl⟩ := hq88
            show Go _ _ _ _ (State.setTop _ (mkF _ 134 _ [(.int 0)]))
            refine gIload X88 H at_134 rfl 136 rfl ?_
            refine gCmpN X88 H at_136 (by decide) 139 rfl ?_
            refine gIconst X88 H at_139 (z := 1) rfl 140 rfl ?_
            refine gGoto X88 H at_140 (by decide) 144 rfl ?_
            exact gRetN X88 H hlk hret (t := .boolean) (by simp) at_144 e88 ⟨rfl, Fr.nil _⟩
          · refine gIfN X77 H at_115 ((if0 _ _).trans (flt (fun q => (key4 (lm := (2 : Int32)) (lo := (0 : Int32)) (by decide) hc82 hc83) ((lw_lt _ _).mp q))).1) 118 rfl ?_
            refine gIconst X77 H at_118 (z := 1) rfl 119 rfl ?_
            refine gGoto X77 H at_119 (by decide) 123 rfl ?_
            refine gIstore X77 H at_123 (Ls' := #[vI p0, vI p1, vI p2, vI p3, vI 0, vR w_Database_H2, vI 2, vI 0, vI (((2 : Int32) + (p1 &&& (3 : Int32))) - (2 : Int32)), vI (((0 : Int32) + (p2 &&& (7 : Int32))) - (4 : Int32)), vI 1]) rfl 125 rfl ?_
            refine gAload X77 H at_125 rfl rfl 127 rfl ?_
            refine gIload X77 H at_127 rfl 129 rfl ?_
            refine gIload X77 H at_129 rfl 131 rfl ?_
            refine gVirt X77 H hZ hown (hw _ wd10) (hw _ wd11) (hw _ wd13) (hw _ wd12) (by decide) E_w_Database_H2 (hw _ wd14) (hw _ wd2) (rm92_2 B p1 p2 hc78 hc82 hc83) e77 hml rfl pd1 rfl (W := 0) (argsL := [(.int (((2 : Int32) + (p1 &&& (3 : Int32))) - (2 : Int32))), (.int (((0 : Int32) + (p2 &&& (7 : Int32))) - (4 : Int32)))]) (rest := []) rfl rfl at_131 134 rfl ?_
            intro v93 T93 L93 hq93 X93
            obtain ⟨rfl, e93, rfl⟩ := hq93
            show Go _ _ _ _ (State.setTop _ (mkF _ 134 _ [(.int 1)]))
            refine gIload X93 H at_134 rfl 136 rfl ?_
            refine gCmpN X93 H at_136 (by decide) 139 rfl ?_
            refine gIconst X93 H at_139 (z := 1) rfl 140 rfl ?_
            refine gGoto X93 H at_140 (by decide) 144 rfl ?_
            exact gRetN X93 H hlk hret (t := .boolean) (by simp) at_144 e93 ⟨rfl, Fr.nil _⟩
        · refine gIfY X77 H at_115 ((if0 _ _).trans (tlt ((lw_lt _ _).mpr (key2 (lm := (2 : Int32)) (((0 : Int32) + (p2 &&& (7 : Int32))) - (4 : Int32)) (0 : Int32) (by decide) hc78 hc82))).1) (by decide) 122 rfl ?_
          refine gIconst X77 H at_122 (z := 0) rfl 123 rfl ?_
          refine gIstore X77 H at_123 (Ls' := #[vI p0, vI p1, vI p2, vI p3, vI 0, vR w_Database_H2, vI 2, vI 0, vI (((2 : Int32) + (p1 &&& (3 : Int32))) - (2 : Int32)), vI (((0 : Int32) + (p2 &&& (7 : Int32))) - (4 : Int32)), vI 0]) rfl 125 rfl ?_
          refine gAload X77 H at_125 rfl rfl 127 rfl ?_
          refine gIload X77 H at_127 rfl 129 rfl ?_
          refine gIload X77 H at_129 rfl 131 rfl ?_
          refine gVirt X77 H hZ hown (hw _ wd10) (hw _ wd11) (hw _ wd13) (hw _ wd12) (by decide) E_w_Database_H2 (hw _ wd14) (hw _ wd2) (rm96_2 B p1 p2 hc78 hc82) e77 hml rfl pd1 rfl (W := 0) (argsL := [(.int (((2 : Int32) + (p1 &&& (3 : Int32))) - (2 : Int32))), (.int (((0 : Int32) + (p2 &&& (7 : Int32))) - (4 : Int32)))]) (rest := []) rfl rfl at_131 134 rfl ?_
          intro v97 T97 L97 hq97 X97
          obtain ⟨rfl, e97, rfl⟩ := hq97
          show Go _ _ _ _ (State.setTop _ (mkF _ 134 _ [(.int 0)]))
          refine gIload X97 H at_134 rfl 136 rfl ?_
          refine gCmpN X97 H at_136 (by decide) 139 rfl ?_
          refine gIconst X97 H at_139 (z := 1) rfl 140 rfl ?_
          refine gGoto X97 H at_140 (by decide) 144 rfl ?_
          exact gRetN X97 H hlk hret (t := .boolean) (by simp) at_144 e97 ⟨rfl, Fr.nil _⟩
theorem rm102_1 (B : Bg Z a0 w_Database_H2 w_Database_POSTGRESQL w_Database_MARIADB) :
    Con l Z (⟨"com/example/unfussy_repo/unfussyrepo/jdbc/DatabaseTakesSqlPinLaw", "key", "(II)J"⟩ : MethodName) method_2_code 2 (some .long) ({ frames := 0, cells := 0, slots := 0, locals := 0 } : Room) #[(.int 10), (.int 5)] Z.heap (fun v h' L => v = some (.long 45097156613) ∧ h' = Z.heap ∧ L = []) := by
  have hw := B.1
  refine Con.of (plainFor_of_name pn1) (Ls := #[vI 10, vI 5]) (fun m => by first | rfl | (simp [entryFrame, mkF, argsToLocals, Value.category]; done)) ?_
  intro p e s m below meth c T0 X0 H hml hZ hown hnm hret hlk e0
  refine gIloadN X0 H d1_0 rfl 1 rfl ?_
  refine g_i2l X0 H d1_1 (z := 10) (by decide) 2 rfl ?_
  refine gLdc2 X0 H hZ hown (hw _ wd8) d1_2 5 rfl ?_
  refine g_lmul X0 H d1_5 (z := 42949672960) (by decide) 6 rfl ?_
  refine gIloadN X0 H d1_6 rfl 7 rfl ?_
  refine g_i2l X0 H d1_7 (z := 5) (by decide) 8 rfl ?_
  refine gLdc2 X0 H hZ hown (hw _ wd9) d1_8 11 rfl ?_
  refine g_ladd X0 H d1_11 (z := 2147483653) (by decide) 12 rfl ?_
  refine g_ladd X0 H d1_12 (z := 45097156613) (by decide) 13 rfl ?_
  exact gRetL X0 H hlk hret d1_13 e0 ⟨rfl, rfl, rfl⟩
theorem rm106_2 (B : Bg Z a0 w_Database_H2 w_Database_POSTGRESQL w_Database_MARIADB) (p1 : Int32) (p2 : Int32) (hk2 : (10 : Int32) < p1) :
    Con l Z (⟨"com/example/unfussy_repo/unfussyrepo/jdbc/Database", "takesSql", "(II)Z"⟩ : MethodName) prog_13_method_6_code 3 (some .boolean) ({ frames := 0, cells := 0, slots := 0, locals := 0 } : Room) #[(.ref w_Database_POSTGRESQL), (.int p1), (.int p2)] Z.heap (fun v h' L => v = some (.int 1) ∧ h' = Z.heap ∧ L = []) := by
  have hw := B.1
  obtain ⟨S_w_Database_H2, E_w_Database_H2, S_w_Database_POSTGRESQL, E_w_Database_POSTGRESQL, S_w_Database_MARIADB, E_w_Database_MARIADB, F_w_Database_H2_lowestMajor, F_w_Database_POSTGRESQL_lowestMajor, F_w_Database_MARIADB_lowestMajor, F_w_Database_MARIADB_lowestMinor, F_w_Database_H2_lowestMinor, F_w_Database_POSTGRESQL_lowestMinor⟩ := B.2
  refine Con.of (plainFor_of_name pn2) (Ls := #[vR w_Database_POSTGRESQL, vI p1, vI p2]) (fun m => by first | rfl | (simp [entryFrame, mkF, argsToLocals, Value.category]; done)) ?_
  intro p e s m below meth c T0 X0 H hml hZ hown hnm hret hlk e0
  refine gIloadN X0 H d2_0 rfl 1 rfl ?_
  refine gAloadN X0 H d2_1 rfl rfl 2 rfl ?_
  refine gGetF X0 H hZ hown (hw _ wd15) Via.refl e0 F_w_Database_POSTGRESQL_lowestMajor d2_2 5 rfl ?_
  intro T105 X105 e105
  refine gCmpY X105 H d2_5 (tlt hk2).2.2.1 (by decide) 24 rfl ?_
  refine gIconst X105 H d2_24 (z := 1) rfl 25 rfl ?_
  refine gGoto X105 H d2_25 (by decide) 29 rfl ?_
  exact gRetN X105 H hlk hret (t := .boolean) (by simp) d2_29 e105 ⟨rfl, rfl, rfl⟩
theorem rm113_2 (B : Bg Z a0 w_Database_H2 w_Database_POSTGRESQL w_Database_MARIADB) (p1 : Int32) (p2 : Int32) (hk2 : ¬ ((10 : Int32) < p1)) (hk3 : p1 = (10 : Int32)) (hk4 : p2 < (5 : Int32)) :
    Con l Z (⟨"com/example/unfussy_repo/unfussyrepo/jdbc/Database", "takesSql", "(II)Z"⟩ : MethodName) prog_13_method_6_code 3 (some .boolean) ({ frames := 0, cells := 0, slots := 0, locals := 0 } : Room) #[(.ref w_Database_POSTGRESQL), (.int p1), (.int p2)] Z.heap (fun v h' L => v = some (.int 0) ∧ h' = Z.heap ∧ L = []) := by
  have hw := B.1
  obtain ⟨S_w_Database_H2, E_w_Database_H2, S_w_Database_POSTGRESQL, E_w_Database_POSTGRESQL, S_w_Database_MARIADB, E_w_Database_MARIADB, F_w_Database_H2_lowestMajor, F_w_Database_POSTGRESQL_lowestMajor, F_w_Database_MARIADB_lowestMajor, F_w_Database_MARIADB_lowestMinor, F_w_Database_H2_lowestMinor, F_w_Database_POSTGRESQL_lowestMinor⟩ := B.2
  refine Con.of (plainFor_of_name pn2) (Ls := #[vR w_Database_POSTGRESQL, vI p1, vI p2]) (fun m => by first | rfl | (simp [entryFrame, mkF, argsToLocals, Value.category]; done)) ?_
  intro p e s m below meth c T0 X0 H hml hZ hown hnm hret hlk e0
  refine gIloadN X0 H d2_0 rfl 1 rfl ?_
  refine gAloadN X0 H d2_1 rfl rfl 2 rfl ?_
  refine gGetF X0 H hZ hown (hw _ wd15) Via.refl e0 F_w_Database_POSTGRESQL_lowestMajor d2_2 5 rfl ?_
  intro T110 X110 e110
  refine gCmpN X110 H d2_5 (flt hk2).2.2.1 8 rfl ?_
  refine gIloadN X110 H d2_8 rfl 9 rfl ?_
  refine gAloadN X110 H d2_9 rfl rfl 10 rfl ?_
  refine gGetF X110 H hZ hown (hw _ wd15) Via.refl e110 F_w_Database_POSTGRESQL_lowestMajor d2_10 13 rfl ?_
  intro T111 X111 e111
  refine gCmpN X111 H d2_13 (teq hk3).2 16 rfl ?_
  refine gIloadN X111 H d2_16 rfl 17 rfl ?_
  refine gAloadN X111 H d2_17 rfl rfl 18 rfl ?_
  refine gGetF X111 H hZ hown (hw _ wd21) Via.refl e111 F_w_Database_POSTGRESQL_lowestMinor d2_18 21 rfl ?_
  intro T112 X112 e112
  refine gCmpY X112 H d2_21 (tlt hk4).1 (by decide) 28 rfl ?_
  refine gIconst X112 H d2_28 (z := 0) rfl 29 rfl ?_
  exact gRetN X112 H hlk hret (t := .boolean) (by simp) d2_29 e112 ⟨rfl, rfl, rfl⟩
theorem rm118_2 (B : Bg Z a0 w_Database_H2 w_Database_POSTGRESQL w_Database_MARIADB) (p1 : Int32) (p2 : Int32) (hk2 : ¬ ((10 : Int32) < p1)) (hk3 : p1 = (10 : Int32)) (hk4 : ¬ (p2 < (5 : Int32))) :
    Con l Z (⟨"com/example/unfussy_repo/unfussyrepo/jdbc/Database", "takesSql", "(II)Z"⟩ : MethodName) prog_13_method_6_code 3 (some .boolean) ({ frames := 0, cells := 0, slots := 0, locals := 0 } : Room) #[(.ref w_Database_POSTGRESQL), (.int p1), (.int p2)] Z.heap (fun v h' L => v = some (.int 1) ∧ h' = Z.heap ∧ L = []) := by
  have hw := B.1
  obtain ⟨S_w_Database_H2, E_w_Database_H2, S_w_Database_POSTGRESQL, E_w_Database_POSTGRESQL, S_w_Database_MARIADB, E_w_Database_MARIADB, F_w_Database_H2_lowestMajor, F_w_Database_POSTGRESQL_lowestMajor, F_w_Database_MARIADB_lowestMajor, F_w_Database_MARIADB_lowestMinor, F_w_Database_H2_lowestMinor, F_w_Database_POSTGRESQL_lowestMinor⟩ := B.2
  refine Con.of (plainFor_of_name pn2) (Ls := #[vR w_Database_POSTGRESQL, vI p1, vI p2]) (fun m => by first | rfl | (simp [entryFrame, mkF, argsToLocals, Value.category]; done)) ?_
  intro p e s m below meth c T0 X0 H hml hZ hown hnm hret hlk e0
  refine gIloadN X0 H d2_0 rfl 1 rfl ?_
  refine gAloadN X0 H d2_1 rfl rfl 2 rfl ?_
  refine gGetF X0 H hZ hown (hw _ wd15) Via.refl e0 F_w_Database_POSTGRESQL_lowestMajor d2_2 5 rfl ?_
  intro T115 X115 e115
  refine gCmpN X115 H d2_5 (flt hk2).2.2.1 8 rfl ?_
  refine gIloadN X115 H d2_8 rfl 9 rfl ?_
  refine gAloadN X115 H d2_9 rfl rfl 10 rfl ?_
  refine gGetF X115 H hZ hown (hw _ wd15) Via.refl e115 F_w_Database_POSTGRESQL_lowestMajor d2_10 13 rfl ?_
  intro T116 X116 e116
  refine gCmpN X116 H d2_13 (teq hk3).2 16 rfl ?_
  refine gIloadN X116 H d2_16 rfl 17 rfl ?_
  refine gAloadN X116 H d2_17 rfl rfl 18 rfl ?_
  refine gGetF X116 H hZ hown (hw _ wd21) Via.refl e116 F_w_Database_POSTGRESQL_lowestMinor d2_18 21 rfl ?_
  intro T117 X117 e117
  refine gCmpN X117 H d2_21 (flt hk4).1 24 rfl ?_
  refine gIconst X117 H d2_24 (z := 1) rfl 25 rfl ?_
  refine gGoto X117 H d2_25 (by decide) 29 rfl ?_
  exact gRetN X117 H hlk hret (t := .boolean) (by simp) d2_29 e117 ⟨rfl, rfl, rfl⟩
theorem rm122_2 (B : Bg Z a0 w_Database_H2 w_Database_POSTGRESQL w_Database_MARIADB) (p1 : Int32) (p2 : Int32) (hk2 : ¬ ((10 : Int32) < p1)) (hk3 : ¬ (p1 = (10 : Int32))) :
    Con l Z (⟨"com/example/unfussy_repo/unfussyrepo/jdbc/Database", "takesSql", "(II)Z"⟩ : MethodName) prog_13_method_6_code 3 (some .boolean) ({ frames := 0, cells := 0, slots := 0, locals := 0 } : Room) #[(.ref w_Database_POSTGRESQL), (.int p1), (.int p2)] Z.heap (fun v h' L => v = some (.int 0) ∧ h' = Z.heap ∧ L = []) := by
  have hw := B.1
  obtain ⟨S_w_Database_H2, E_w_Database_H2, S_w_Database_POSTGRESQL, E_w_Database_POSTGRESQL, S_w_Database_MARIADB, E_w_Database_MARIADB, F_w_Database_H2_lowestMajor, F_w_Database_POSTGRESQL_lowestMajor, F_w_Database_MARIADB_lowestMajor, F_w_Database_MARIADB_lowestMinor, F_w_Database_H2_lowestMinor, F_w_Database_POSTGRESQL_lowestMinor⟩ := B.2
  refine Con.of (plainFor_of_name pn2) (Ls := #[vR w_Database_POSTGRESQL, vI p1, vI p2]) (fun m => by first | rfl | (simp [entryFrame, mkF, argsToLocals, Value.category]; done)) ?_
  intro p e s m below meth c T0 X0 H hml hZ hown hnm hret hlk e0
  refine gIloadN X0 H d2_0 rfl 1 rfl ?_
  refine gAloadN X0 H d2_1 rfl rfl 2 rfl ?_
  refine gGetF X0 H hZ hown (hw _ wd15) Via.refl e0 F_w_Database_POSTGRESQL_lowestMajor d2_2 5 rfl ?_
  intro T120 X120 e120
  refine gCmpN X120 H d2_5 (flt hk2).2.2.1 8 rfl ?_
  refine gIloadN X120 H d2_8 rfl 9 rfl ?_
  refine gAloadN X120 H d2_9 rfl rfl 10 rfl ?_
  refine gGetF X120 H hZ hown (hw _ wd15) Via.refl e120 F_w_Database_POSTGRESQL_lowestMajor d2_10 13 rfl ?_
  intro T121 X121 e121
  refine gCmpY X121 H d2_13 (feq hk3).2 (by decide) 28 rfl ?_
  refine gIconst X121 H d2_28 (z := 0) rfl 29 rfl ?_
  exact gRetN X121 H hlk hret (t := .boolean) (by simp) d2_29 e121 ⟨rfl, rfl, rfl⟩
theorem rm124_1 (B : Bg Z a0 w_Database_H2 w_Database_POSTGRESQL w_Database_MARIADB) (p1 : Int32) (p2 : Int32) :
    Con l Z (⟨"com/example/unfussy_repo/unfussyrepo/jdbc/DatabaseTakesSqlPinLaw", "key", "(II)J"⟩ : MethodName) method_2_code 2 (some .long) ({ frames := 0, cells := 0, slots := 0, locals := 0 } : Room) #[(.int p1), (.int (((5 : Int32) + (p2 &&& (7 : Int32))) - (4 : Int32)))] Z.heap (fun v h' L => v = some (.long (((p1.toInt64) * (4294967296 : Int64)) + (((((5 : Int32) + (p2 &&& (7 : Int32))) - (4 : Int32)).toInt64) + (2147483648 : Int64)))) ∧ h' = Z.heap ∧ L = []) := by
  have hw := B.1
  refine Con.of (plainFor_of_name pn1) (Ls := #[vI p1, vI (((5 : Int32) + (p2 &&& (7 : Int32))) - (4 : Int32))]) (fun m => by first | rfl | (simp [entryFrame, mkF, argsToLocals, Value.category]; done)) ?_
  intro p e s m below meth c T0 X0 H hml hZ hown hnm hret hlk e0
  refine gIloadN X0 H d1_0 rfl 1 rfl ?_
  refine g_i2l X0 H d1_1 (z := (p1.toInt64)) rfl 2 rfl ?_
  refine gLdc2 X0 H hZ hown (hw _ wd8) d1_2 5 rfl ?_
  refine g_lmul X0 H d1_5 (z := ((p1.toInt64) * (4294967296 : Int64))) rfl 6 rfl ?_
  refine gIloadN X0 H d1_6 rfl 7 rfl ?_
  refine g_i2l X0 H d1_7 (z := ((((5 : Int32) + (p2 &&& (7 : Int32))) - (4 : Int32)).toInt64)) rfl 8 rfl ?_
  refine gLdc2 X0 H hZ hown (hw _ wd9) d1_8 11 rfl ?_
  refine g_ladd X0 H d1_11 (z := (((((5 : Int32) + (p2 &&& (7 : Int32))) - (4 : Int32)).toInt64) + (2147483648 : Int64))) rfl 12 rfl ?_
  refine g_ladd X0 H d1_12 (z := (((p1.toInt64) * (4294967296 : Int64)) + (((((5 : Int32) + (p2 &&& (7 : Int32))) - (4 : Int32)).toInt64) + (2147483648 : Int64)))) rfl 13 rfl ?_
  exact gRetL X0 H hlk hret d1_13 e0 ⟨rfl, rfl, rfl⟩
theorem rm129_2 (B : Bg Z a0 w_Database_H2 w_Database_POSTGRESQL w_Database_MARIADB) (p1 : Int32) (p2 : Int32) (hk2 : (10 : Int32) < p1) :
    Con l Z (⟨"com/example/unfussy_repo/unfussyrepo/jdbc/Database", "takesSql", "(II)Z"⟩ : MethodName) prog_13_method_6_code 3 (some .boolean) ({ frames := 0, cells := 0, slots := 0, locals := 0 } : Room) #[(.ref w_Database_POSTGRESQL), (.int p1), (.int (((5 : Int32) + (p2 &&& (7 : Int32))) - (4 : Int32)))] Z.heap (fun v h' L => v = some (.int 1) ∧ h' = Z.heap ∧ L = []) := by
  have hw := B.1
  obtain ⟨S_w_Database_H2, E_w_Database_H2, S_w_Database_POSTGRESQL, E_w_Database_POSTGRESQL, S_w_Database_MARIADB, E_w_Database_MARIADB, F_w_Database_H2_lowestMajor, F_w_Database_POSTGRESQL_lowestMajor, F_w_Database_MARIADB_lowestMajor, F_w_Database_MARIADB_lowestMinor, F_w_Database_H2_lowestMinor, F_w_Database_POSTGRESQL_lowestMinor⟩ := B.2
  refine Con.of (plainFor_of_name pn2) (Ls := #[vR w_Database_POSTGRESQL, vI p1, vI (((5 : Int32) + (p2 &&& (7 : Int32))) - (4 : Int32))]) (fun m => by first | rfl | (simp [entryFrame, mkF, argsToLocals, Value.category]; done)) ?_
  intro p e s m below meth c T0 X0 H hml hZ hown hnm hret hlk e0
  refine gIloadN X0 H d2_0 rfl 1 rfl ?_
  refine gAloadN X0 H d2_1 rfl rfl 2 rfl ?_
  refine gGetF X0 H hZ hown (hw _ wd15) Via.refl e0 F_w_Database_POSTGRESQL_lowestMajor d2_2 5 rfl ?_
  intro T128 X128 e128
  refine gCmpY X128 H d2_5 (tlt hk2).2.2.1 (by decide) 24 rfl ?_
  refine gIconst X128 H d2_24 (z := 1) rfl 25 rfl ?_
  refine gGoto X128 H d2_25 (by decide) 29 rfl ?_
  exact gRetN X128 H hlk hret (t := .boolean) (by simp) d2_29 e128 ⟨rfl, rfl, rfl⟩
theorem rm136_2 (B : Bg Z a0 w_Database_H2 w_Database_POSTGRESQL w_Database_MARIADB) (p1 : Int32) (p2 : Int32) (hk2 : ¬ ((10 : Int32) < p1)) (hk3 : p1 = (10 : Int32)) (hk4 : (((5 : Int32) + (p2 &&& (7 : Int32))) - (4 : Int32)) < (5 : Int32)) :
    Con l Z (⟨"com/example/unfussy_repo/unfussyrepo/jdbc/Database", "takesSql", "(II)Z"⟩ : MethodName) prog_13_method_6_code 3 (some .boolean) ({ frames := 0, cells := 0, slots := 0, locals := 0 } : Room) #[(.ref w_Database_POSTGRESQL), (.int p1), (.int (((5 : Int32) + (p2 &&& (7 : Int32))) - (4 : Int32)))] Z.heap (fun v h' L => v = some (.int 0) ∧ h' = Z.heap ∧ L = []) := by
  have hw := B.1
  obtain ⟨S_w_Database_H2, E_w_Database_H2, S_w_Database_POSTGRESQL, E_w_Database_POSTGRESQL, S_w_Database_MARIADB, E_w_Database_MARIADB, F_w_Database_H2_lowestMajor, F_w_Database_POSTGRESQL_lowestMajor, F_w_Database_MARIADB_lowestMajor, F_w_Database_MARIADB_lowestMinor, F_w_Database_H2_lowestMinor, F_w_Database_POSTGRESQL_lowestMinor⟩ := B.2
  refine Con.of (plainFor_of_name pn2) (Ls := #[vR w_Database_POSTGRESQL, vI p1, vI (((5 : Int32) + (p2 &&& (7 : Int32))) - (4 : Int32))]) (fun m => by first | rfl | (simp [entryFrame, mkF, argsToLocals, Value.category]; done)) ?_
  intro p e s m below meth c T0 X0 H hml hZ hown hnm hret hlk e0
  refine gIloadN X0 H d2_0 rfl 1 rfl ?_
  refine gAloadN X0 H d2_1 rfl rfl 2 rfl ?_
  refine gGetF X0 H hZ hown (hw _ wd15) Via.refl e0 F_w_Database_POSTGRESQL_lowestMajor d2_2 5 rfl ?_
  intro T133 X133 e133
  refine gCmpN X133 H d2_5 (flt hk2).2.2.1 8 rfl ?_
  refine gIloadN X133 H d2_8 rfl 9 rfl ?_
  refine gAloadN X133 H d2_9 rfl rfl 10 rfl ?_
  refine gGetF X133 H hZ hown (hw _ wd15) Via.refl e133 F_w_Database_POSTGRESQL_lowestMajor d2_10 13 rfl ?_
  intro T134 X134 e134
  refine gCmpN X134 H d2_13 (teq hk3).2 16 rfl ?_
  refine gIloadN X134 H d2_16 rfl 17 rfl ?_
  refine gAloadN X134 H d2_17 rfl rfl 18 rfl ?_
  refine gGetF X134 H hZ hown (hw _ wd21) Via.refl e134 F_w_Database_POSTGRESQL_lowestMinor d2_18 21 rfl ?_
  intro T135 X135 e135
  refine gCmpY X135 H d2_21 (tlt hk4).1 (by decide) 28 rfl ?_
  refine gIconst X135 H d2_28 (z := 0) rfl 29 rfl ?_
  exact gRetN X135 H hlk hret (t := .boolean) (by simp) d2_29 e135 ⟨rfl, rfl, rfl⟩
theorem rm141_2 (B : Bg Z a0 w_Database_H2 w_Database_POSTGRESQL w_Database_MARIADB) (p1 : Int32) (p2 : Int32) (hk2 : ¬ ((10 : Int32) < p1)) (hk3 : p1 = (10 : Int32)) (hk4 : ¬ ((((5 : Int32) + (p2 &&& (7 : Int32))) - (4 : Int32)) < (5 : Int32))) :
    Con l Z (⟨"com/example/unfussy_repo/unfussyrepo/jdbc/Database", "takesSql", "(II)Z"⟩ : MethodName) prog_13_method_6_code 3 (some .boolean) ({ frames := 0, cells := 0, slots := 0, locals := 0 } : Room) #[(.ref w_Database_POSTGRESQL), (.int p1), (.int (((5 : Int32) + (p2 &&& (7 : Int32))) - (4 : Int32)))] Z.heap (fun v h' L => v = some (.int 1) ∧ h' = Z.heap ∧ L = []) := by
  have hw := B.1
  obtain ⟨S_w_Database_H2, E_w_Database_H2, S_w_Database_POSTGRESQL, E_w_Database_POSTGRESQL, S_w_Database_MARIADB, E_w_Database_MARIADB, F_w_Database_H2_lowestMajor, F_w_Database_POSTGRESQL_lowestMajor, F_w_Database_MARIADB_lowestMajor, F_w_Database_MARIADB_lowestMinor, F_w_Database_H2_lowestMinor, F_w_Database_POSTGRESQL_lowestMinor⟩ := B.2
  refine Con.of (plainFor_of_name pn2) (Ls := #[vR w_Database_POSTGRESQL, vI p1, vI (((5 : Int32) + (p2 &&& (7 : Int32))) - (4 : Int32))]) (fun m => by first | rfl | (simp [entryFrame, mkF, argsToLocals, Value.category]; done)) ?_
  intro p e s m below meth c T0 X0 H hml hZ hown hnm hret hlk e0
  refine gIloadN X0 H d2_0 rfl 1 rfl ?_
  refine gAloadN X0 H d2_1 rfl rfl 2 rfl ?_
  refine gGetF X0 H hZ hown (hw _ wd15) Via.refl e0 F_w_Database_POSTGRESQL_lowestMajor d2_2 5 rfl ?_
  intro T138 X138 e138
  refine gCmpN X138 H d2_5 (flt hk2).2.2.1 8 rfl ?_
  refine gIloadN X138 H d2_8 rfl 9 rfl ?_
  refine gAloadN X138 H d2_9 rfl rfl 10 rfl ?_
  refine gGetF X138 H hZ hown (hw _ wd15) Via.refl e138 F_w_Database_POSTGRESQL_lowestMajor d2_10 13 rfl ?_
  intro T139 X139 e139
  refine gCmpN X139 H d2_13 (teq hk3).2 16 rfl ?_
  refine gIloadN X139 H d2_16 rfl 17 rfl ?_
  refine gAloadN X139 H d2_17 rfl rfl 18 rfl ?_
  refine gGetF X139 H hZ hown (hw _ wd21) Via.refl e139 F_w_Database_POSTGRESQL_lowestMinor d2_18 21 rfl ?_
  intro T140 X140 e140
  refine gCmpN X140 H d2_21 (flt hk4).1 24 rfl ?_
  refine gIconst X140 H d2_24 (z := 1) rfl 25 rfl ?_
  refine gGoto X140 H d2_25 (by decide) 29 rfl ?_
  exact gRetN X140 H hlk hret (t := .boolean) (by simp) d2_29 e140 ⟨rfl, rfl, rfl⟩
theorem rm145_2 (B : Bg Z a0 w_Database_H2 w_Database_POSTGRESQL w_Database_MARIADB) (p1 : Int32) (p2 : Int32) (hk2 : ¬ ((10 : Int32) < p1)) (hk3 : ¬ (p1 = (10 : Int32))) :
    Con l Z (⟨"com/example/unfussy_repo/unfussyrepo/jdbc/Database", "takesSql", "(II)Z"⟩ : MethodName) prog_13_method_6_code 3 (some .boolean) ({ frames := 0, cells := 0, slots := 0, locals := 0 } : Room) #[(.ref w_Database_POSTGRESQL), (.int p1), (.int (((5 : Int32) + (p2 &&& (7 : Int32))) - (4 : Int32)))] Z.heap (fun v h' L => v = some (.int 0) ∧ h' = Z.heap ∧ L = []) := by
  have hw := B.1
  obtain ⟨S_w_Database_H2, E_w_Database_H2, S_w_Database_POSTGRESQL, E_w_Database_POSTGRESQL, S_w_Database_MARIADB, E_w_Database_MARIADB, F_w_Database_H2_lowestMajor, F_w_Database_POSTGRESQL_lowestMajor, F_w_Database_MARIADB_lowestMajor, F_w_Database_MARIADB_lowestMinor, F_w_Database_H2_lowestMinor, F_w_Database_POSTGRESQL_lowestMinor⟩ := B.2
  refine Con.of (plainFor_of_name pn2) (Ls := #[vR w_Database_POSTGRESQL, vI p1, vI (((5 : Int32) + (p2 &&& (7 : Int32))) - (4 : Int32))]) (fun m => by first | rfl | (simp [entryFrame, mkF, argsToLocals, Value.category]; done)) ?_
  intro p e s m below meth c T0 X0 H hml hZ hown hnm hret hlk e0
  refine gIloadN X0 H d2_0 rfl 1 rfl ?_
  refine gAloadN X0 H d2_1 rfl rfl 2 rfl ?_
  refine gGetF X0 H hZ hown (hw _ wd15) Via.refl e0 F_w_Database_POSTGRESQL_lowestMajor d2_2 5 rfl ?_
  intro T143 X143 e143
  refine gCmpN X143 H d2_5 (flt hk2).2.2.1 8 rfl ?_
  refine gIloadN X143 H d2_8 rfl 9 rfl ?_
  refine gAloadN X143 H d2_9 rfl rfl 10 rfl ?_
  refine gGetF X143 H hZ hown (hw _ wd15) Via.refl e143 F_w_Database_POSTGRESQL_lowestMajor d2_10 13 rfl ?_
  intro T144 X144 e144
  refine gCmpY X144 H d2_13 (feq hk3).2 (by decide) 28 rfl ?_
  refine gIconst X144 H d2_28 (z := 0) rfl 29 rfl ?_
  exact gRetN X144 H hlk hret (t := .boolean) (by simp) d2_29 e144 ⟨rfl, rfl, rfl⟩
theorem rm148_1 (B : Bg Z a0 w_Database_H2 w_Database_POSTGRESQL w_Database_MARIADB) (p1 : Int32) (p2 : Int32) :
    Con l Z (⟨"com/example/unfussy_repo/unfussyrepo/jdbc/DatabaseTakesSqlPinLaw", "key", "(II)J"⟩ : MethodName) method_2_code 2 (some .long) ({ frames := 0, cells := 0, slots := 0, locals := 0 } : Room) #[(.int (((10 : Int32) + (p1 &&& (3 : Int32))) - (2 : Int32))), (.int p2)] Z.heap (fun v h' L => v = some (.long ((((((10 : Int32) + (p1 &&& (3 : Int32))) - (2 : Int32)).toInt64) * (4294967296 : Int64)) + ((p2.toInt64) + (2147483648 : Int64)))) ∧ h' = Z.heap ∧ L = []) := by
  have hw := B.1
  refine Con.of (plainFor_of_name pn1) (Ls := #[vI (((10 : Int32) + (p1 &&& (3 : Int32))) - (2 : Int32)), vI p2]) (fun m => by first | rfl | (simp [entryFrame, mkF, argsToLocals, Value.category]; done)) ?_
  intro p e s m below meth c T0 X0 H hml hZ hown hnm hret hlk e0
  refine gIloadN X0 H d1_0 rfl 1 rfl ?_
  refine g_i2l X0 H d1_1 (z := ((((10 : Int32) + (p1 &&& (3 : Int32))) - (2 : Int32)).toInt64)) rfl 2 rfl ?_
  refine gLdc2 X0 H hZ hown (hw _ wd8) d1_2 5 rfl ?_
  refine g_lmul X0 H d1_5 (z := (((((10 : Int32) + (p1 &&& (3 : Int32))) - (2 : Int32)).toInt64) * (4294967296 : Int64))) rfl 6 rfl ?_
  refine gIloadN X0 H d1_6 rfl 7 rfl ?_
  refine g_i2l X0 H d1_7 (z := (p2.toInt64)) rfl 8 rfl ?_
  refine gLdc2 X0 H hZ hown (hw _ wd9) d1_8 11 rfl ?_
  refine g_ladd X0 H d1_11 (z := ((p2.toInt64) + (2147483648 : Int64))) rfl 12 rfl ?_
  refine g_ladd X0 H d1_12 (z := ((((((10 : Int32) + (p1 &&& (3 : Int32))) - (2 : Int32)).toInt64) * (4294967296 : Int64)) + ((p2.toInt64) + (2147483648 : Int64)))) rfl 13 rfl ?_
  exact gRetL X0 H hlk hret d1_13 e0 ⟨rfl, rfl, rfl⟩
theorem rm153_2 (B : Bg Z a0 w_Database_H2 w_Database_POSTGRESQL w_Database_MARIADB) (p1 : Int32) (p2 : Int32) (hk2 : (10 : Int32) < (((10 : Int32) + (p1 &&& (3 : Int32))) - (2 : Int32))) :
    Con l Z (⟨"com/example/unfussy_repo/unfussyrepo/jdbc/Database", "takesSql", "(II)Z"⟩ : MethodName) prog_13_method_6_code 3 (some .boolean) ({ frames := 0, cells := 0, slots := 0, locals := 0 } : Room) #[(.ref w_Database_POSTGRESQL), (.int (((10 : Int32) + (p1 &&& (3 : Int32))) - (2 : Int32))), (.int p2)] Z.heap (fun v h' L => v = some (.int 1) ∧ h' = Z.heap ∧ L = []) := by
  have hw := B.1
  obtain ⟨S_w_Database_H2, E_w_Database_H2, S_w_Database_POSTGRESQL, E_w_Database_POSTGRESQL, S_w_Database_MARIADB, E_w_Database_MARIADB, F_w_Database_H2_lowestMajor, F_w_Database_POSTGRESQL_lowestMajor, F_w_Database_MARIADB_lowestMajor, F_w_Database_MARIADB_lowestMinor, F_w_Database_H2_lowestMinor, F_w_Database_POSTGRESQL_lowestMinor⟩ := B.2
  refine Con.of (plainFor_of_name pn2) (Ls := #[vR w_Database_POSTGRESQL, vI (((10 : Int32) + (p1 &&& (3 : Int32))) - (2 : Int32)), vI p2]) (fun m => by first | rfl | (simp [entryFrame, mkF, argsToLocals, Value.category]; done)) ?_
  intro p e s m below meth c T0 X0 H hml hZ hown hnm hret hlk e0
  refine gIloadN X0 H d2_0 rfl 1 rfl ?_
  refine gAloadN X0 H d2_1 rfl rfl 2 rfl ?_
  refine gGetF X0 H hZ hown (hw _ wd15) Via.refl e0 F_w_Database_POSTGRESQL_lowestMajor d2_2 5 rfl ?_
  intro T152 X152 e152
  refine gCmpY X152 H d2_5 (tlt hk2).2.2.1 (by decide) 24 rfl ?_
  refine gIconst X152 H d2_24 (z := 1) rfl 25 rfl ?_
  refine gGoto X152 H d2_25 (by decide) 29 rfl ?_
  exact gRetN X152 H hlk hret (t := .boolean) (by simp) d2_29 e152 ⟨rfl, rfl, rfl⟩
theorem rm160_2 (B : Bg Z a0 w_Database_H2 w_Database_POSTGRESQL w_Database_MARIADB) (p1 : Int32) (p2 : Int32) (hk2 : ¬ ((10 : Int32) < (((10 : Int32) + (p1 &&& (3 : Int32))) - (2 : Int32)))) (hk3 : (((10 : Int32) + (p1 &&& (3 : Int32))) - (2 : Int32)) = (10 : Int32)) (hk4 : p2 < (5 : Int32)) :
    Con l Z (⟨"com/example/unfussy_repo/unfussyrepo/jdbc/Database", "takesSql", "(II)Z"⟩ : MethodName) prog_13_method_6_code 3 (some .boolean) ({ frames := 0, cells := 0, slots := 0, locals := 0 } : Room) #[(.ref w_Database_POSTGRESQL), (.int (((10 : Int32) + (p1 &&& (3 : Int32))) - (2 : Int32))), (.int p2)] Z.heap (fun v h' L => v = some (.int 0) ∧ h' = Z.heap ∧ L = []) := by
  have hw := B.1
  obtain ⟨S_w_Database_H2, E_w_Database_H2, S_w_Database_POSTGRESQL, E_w_Database_POSTGRESQL, S_w_Database_MARIADB, E_w_Database_MARIADB, F_w_Database_H2_lowestMajor, F_w_Database_POSTGRESQL_lowestMajor, F_w_Database_MARIADB_lowestMajor, F_w_Database_MARIADB_lowestMinor, F_w_Database_H2_lowestMinor, F_w_Database_POSTGRESQL_lowestMinor⟩ := B.2
  refine Con.of (plainFor_of_name pn2) (Ls := #[vR w_Database_POSTGRESQL, vI (((10 : Int32) + (p1 &&& (3 : Int32))) - (2 : Int32)), vI p2]) (fun m => by first | rfl | (simp [entryFrame, mkF, argsToLocals, Value.category]; done)) ?_
  intro p e s m below meth c T0 X0 H hml hZ hown hnm hret hlk e0
  refine gIloadN X0 H d2_0 rfl 1 rfl ?_
  refine gAloadN X0 H d2_1 rfl rfl 2 rfl ?_
  refine gGetF X0 H hZ hown (hw _ wd15) Via.refl e0 F_w_Database_POSTGRESQL_lowestMajor d2_2 5 rfl ?_
  intro T157 X157 e157
  refine gCmpN X157 H d2_5 (flt hk2).2.2.1 8 rfl ?_
  refine gIloadN X157 H d2_8 rfl 9 rfl ?_
  refine gAloadN X157 H d2_9 rfl rfl 10 rfl ?_
  refine gGetF X157 H hZ hown (hw _ wd15) Via.refl e157 F_w_Database_POSTGRESQL_lowestMajor d2_10 13 rfl ?_
  intro T158 X158 e158
  refine gCmpN X158 H d2_13 (teq hk3).2 16 rfl ?_
  refine gIloadN X158 H d2_16 rfl 17 rfl ?_
  refine gAloadN X158 H d2_17 rfl rfl 18 rfl ?_
  refine gGetF X158 H hZ hown (hw _ wd21) Via.refl e158 F_w_Database_POSTGRESQL_lowestMinor d2_18 21 rfl ?_
  intro T159 X159 e159
  refine gCmpY X159 H d2_21 (tlt hk4).1 (by decide) 28 rfl ?_
  refine gIconst X159 H d2_28 (z := 0) rfl 29 rfl ?_
  exact gRetN X159 H hlk hret (t := .boolean) (by simp) d2_29 e159 ⟨rfl, rfl, rfl⟩
theorem rm165_2 (B : Bg Z a0 w_Database_H2 w_Database_POSTGRESQL w_Database_MARIADB) (p1 : Int32) (p2 : Int32) (hk2 : ¬ ((10 : Int32) < (((10 : Int32) + (p1 &&& (3 : Int32))) - (2 : Int32)))) (hk3 : (((10 : Int32) + (p1 &&& (3 : Int32))) - (2 : Int32)) = (10 : Int32)) (hk4 : ¬ (p2 < (5 : Int32))) :
    Con l Z (⟨"com/example/unfussy_repo/unfussyrepo/jdbc/Database", "takesSql", "(II)Z"⟩ : MethodName) prog_13_method_6_code 3 (some .boolean) ({ frames := 0, cells := 0, slots := 0, locals := 0 } : Room) #[(.ref w_Database_POSTGRESQL), (.int (((10 : Int32) + (p1 &&& (3 : Int32))) - (2 : Int32))), (.int p2)] Z.heap (fun v h' L => v = some (.int 1) ∧ h' = Z.heap ∧ L = []) := by
  have hw := B.1
  obtain ⟨S_w_Database_H2, E_w_Database_H2, S_w_Database_POSTGRESQL, E_w_Database_POSTGRESQL, S_w_Database_MARIADB, E_w_Database_MARIADB, F_w_Database_H2_lowestMajor, F_w_Database_POSTGRESQL_lowestMajor, F_w_Database_MARIADB_lowestMajor, F_w_Database_MARIADB_lowestMinor, F_w_Database_H2_lowestMinor, F_w_Database_POSTGRESQL_lowestMinor⟩ := B.2
  refine Con.of (plainFor_of_name pn2) (Ls := #[vR w_Database_POSTGRESQL, vI (((10 : Int32) + (p1 &&& (3 : Int32))) - (2 : Int32)), vI p2]) (fun m => by first | rfl | (simp [entryFrame, mkF, argsToLocals, Value.category]; done)) ?_
  intro p e s m below meth c T0 X0 H hml hZ hown hnm hret hlk e0
  refine gIloadN X0 H d2_0 rfl 1 rfl ?_
  refine gAloadN X0 H d2_1 rfl rfl 2 rfl ?_
  refine gGetF X0 H hZ hown (hw _ wd15) Via.refl e0 F_w_Database_POSTGRESQL_lowestMajor d2_2 5 rfl ?_
  intro T162 X162 e162
  refine gCmpN X162 H d2_5 (flt hk2).2.2.1 8 rfl ?_
  refine gIloadN X162 H d2_8 rfl 9 rfl ?_
  refine gAloadN X162 H d2_9 rfl rfl 10 rfl ?_
  refine gGetF X162 H hZ hown (hw _ wd15) Via.refl e162 F_w_Database_POSTGRESQL_lowestMajor d2_10 13 rfl ?_
  intro T163 X163 e163
  refine gCmpN X163 H d2_13 (teq hk3).2 16 rfl ?_
  refine gIloadN X163 H d2_16 rfl 17 rfl ?_
  refine gAloadN X163 H d2_17 rfl rfl 18 rfl ?_
  refine gGetF X163 H hZ hown (hw _ wd21) Via.refl e163 F_w_Database_POSTGRESQL_lowestMinor d2_18 21 rfl ?_
  intro T164 X164 e164
  refine gCmpN X164 H d2_21 (flt hk4).1 24 rfl ?_
  refine gIconst X164 H d2_24 (z := 1) rfl 25 rfl ?_
  refine gGoto X164 H d2_25 (by decide) 29 rfl ?_
  exact gRetN X164 H hlk hret (t := .boolean) (by simp) d2_29 e164 ⟨rfl, rfl, rfl⟩
theorem rm169_2 (B : Bg Z a0 w_Database_H2 w_Database_POSTGRESQL w_Database_MARIADB) (p1 : Int32) (p2 : Int32) (hk2 : ¬ ((10 : Int32) < (((10 : Int32) + (p1 &&& (3 : Int32))) - (2 : Int32)))) (hk3 : ¬ ((((10 : Int32) + (p1 &&& (3 : Int32))) - (2 : Int32)) = (10 : Int32))) :
    Con l Z (⟨"com/example/unfussy_repo/unfussyrepo/jdbc/Database", "takesSql", "(II)Z"⟩ : MethodName) prog_13_method_6_code 3 (some .boolean) ({ frames := 0, cells := 0, slots := 0, locals := 0 } : Room) #[(.ref w_Database_POSTGRESQL), (.int (((10 : Int32) + (p1 &&& (3 : Int32))) - (2 : Int32))), (.int p2)] Z.heap (fun v h' L => v = some (.int 0) ∧ h' = Z.heap ∧ L = []) := by
  have hw := B.1
  obtain ⟨S_w_Database_H2, E_w_Database_H2, S_w_Database_POSTGRESQL, E_w_Database_POSTGRESQL, S_w_Database_MARIADB, E_w_Database_MARIADB, F_w_Database_H2_lowestMajor, F_w_Database_POSTGRESQL_lowestMajor, F_w_Database_MARIADB_lowestMajor, F_w_Database_MARIADB_lowestMinor, F_w_Database_H2_lowestMinor, F_w_Database_POSTGRESQL_lowestMinor⟩ := B.2
  refine Con.of (plainFor_of_name pn2) (Ls := #[vR w_Database_POSTGRESQL, vI (((10 : Int32) + (p1 &&& (3 : Int32))) - (2 : Int32)), vI p2]) (fun m => by first | rfl | (simp [entryFrame, mkF, argsToLocals, Value.category]; done)) ?_
  intro p e s m below meth c T0 X0 H hml hZ hown hnm hret hlk e0
  refine gIloadN X0 H d2_0 rfl 1 rfl ?_
  refine gAloadN X0 H d2_1 rfl rfl 2 rfl ?_
  refine gGetF X0 H hZ hown (hw _ wd15) Via.refl e0 F_w_Database_POSTGRESQL_lowestMajor d2_2 5 rfl ?_
  intro T167 X167 e167
  refine gCmpN X167 H d2_5 (flt hk2).2.2.1 8 rfl ?_
  refine gIloadN X167 H d2_8 rfl 9 rfl ?_
  refine gAloadN X167 H d2_9 rfl rfl 10 rfl ?_
  refine gGetF X167 H hZ hown (hw _ wd15) Via.refl e167 F_w_Database_POSTGRESQL_lowestMajor d2_10 13 rfl ?_
  intro T168 X168 e168
  refine gCmpY X168 H d2_13 (feq hk3).2 (by decide) 28 rfl ?_
  refine gIconst X168 H d2_28 (z := 0) rfl 29 rfl ?_
  exact gRetN X168 H hlk hret (t := .boolean) (by simp) d2_29 e168 ⟨rfl, rfl, rfl⟩
theorem rm171_1 (B : Bg Z a0 w_Database_H2 w_Database_POSTGRESQL w_Database_MARIADB) (p1 : Int32) (p2 : Int32) :
    Con l Z (⟨"com/example/unfussy_repo/unfussyrepo/jdbc/DatabaseTakesSqlPinLaw", "key", "(II)J"⟩ : MethodName) method_2_code 2 (some .long) ({ frames := 0, cells := 0, slots := 0, locals := 0 } : Room) #[(.int (((10 : Int32) + (p1 &&& (3 : Int32))) - (2 : Int32))), (.int (((5 : Int32) + (p2 &&& (7 : Int32))) - (4 : Int32)))] Z.heap (fun v h' L => v = some (.long ((((((10 : Int32) + (p1 &&& (3 : Int32))) - (2 : Int32)).toInt64) * (4294967296 : Int64)) + (((((5 : Int32) + (p2 &&& (7 : Int32))) - (4 : Int32)).toInt64) + (2147483648 : Int64)))) ∧ h' = Z.heap ∧ L = []) := by
  have hw := B.1
  refine Con.of (plainFor_of_name pn1) (Ls := #[vI (((10 : Int32) + (p1 &&& (3 : Int32))) - (2 : Int32)), vI (((5 : Int32) + (p2 &&& (7 : Int32))) - (4 : Int32))]) (fun m => by first | rfl | (simp [entryFrame, mkF, argsToLocals, Value.category]; done)) ?_
  intro p e s m below meth c T0 X0 H hml hZ hown hnm hret hlk e0
  refine gIloadN X0 H d1_0 rfl 1 rfl ?_
  refine g_i2l X0 H d1_1 (z := ((((10 : Int32) + (p1 &&& (3 : Int32))) - (2 : Int32)).toInt64)) rfl 2 rfl ?_
  refine gLdc2 X0 H hZ hown (hw _ wd8) d1_2 5 rfl ?_
  refine g_lmul X0 H d1_5 (z := (((((10 : Int32) + (p1 &&& (3 : Int32))) - (2 : Int32)).toInt64) * (4294967296 : Int64))) rfl 6 rfl ?_
  refine gIloadN X0 H d1_6 rfl 7 rfl ?_
  refine g_i2l X0 H d1_7 (z := ((((5 : Int32) + (p2 &&& (7 : Int32))) - (4 : Int32)).toInt64)) rfl 8 rfl ?_
  refine gLdc2 X0 H hZ hown (hw _ wd9) d1_8 11 rfl ?_
  refine g_ladd X0 H d1_11 (z := (((((5 : Int32) + (p2 &&& (7 : Int32))) - (4 : Int32)).toInt64) + (2147483648 : Int64))) rfl 12 rfl ?_
  refine g_ladd X0 H d1_12 (z := ((((((10 : Int32) + (p1 &&& (3 : Int32))) - (2 : Int32)).toInt64) * (4294967296 : Int64)) + (((((5 : Int32) + (p2 &&& (7 : Int32))) - (4 : Int32)).toInt64) + (2147483648 : Int64)))) rfl 13 rfl ?_
  exact gRetL X0 H hlk hret d1_13 e0 ⟨rfl, rfl, rfl⟩
theorem rm176_2 (B : Bg Z a0 w_Database_H2 w_Database_POSTGRESQL w_Database_MARIADB) (p1 : Int32) (p2 : Int32) (hk2 : (10 : Int32) < (((10 : Int32) + (p1 &&& (3 : Int32))) - (2 : Int32))) :
    Con l Z (⟨"com/example/unfussy_repo/unfussyrepo/jdbc/Database", "takesSql", "(II)Z"⟩ : MethodName) prog_13_method_6_code 3 (some .boolean) ({ frames := 0, cells := 0, slots := 0, locals := 0 } : Room) #[(.ref w_Database_POSTGRESQL), (.int (((10 : Int32) + (p1 &&& (3 : Int32))) - (2 : Int32))), (.int (((5 : Int32) + (p2 &&& (7 : Int32))) - (4 : Int32)))] Z.heap (fun v h' L => v = some (.int 1) ∧ h' = Z.heap ∧ L = []) := by
  have hw := B.1
  obtain ⟨S_w_Database_H2, E_w_Database_H2, S_w_Database_POSTGRESQL, E_w_Database_POSTGRESQL, S_w_Database_MARIADB, E_w_Database_MARIADB, F_w_Database_H2_lowestMajor, F_w_Database_POSTGRESQL_lowestMajor, F_w_Database_MARIADB_lowestMajor, F_w_Database_MARIADB_lowestMinor, F_w_Database_H2_lowestMinor, F_w_Database_POSTGRESQL_lowestMinor⟩ := B.2
  refine Con.of (plainFor_of_name pn2) (Ls := #[vR w_Database_POSTGRESQL, vI (((10 : Int32) + (p1 &&& (3 : Int32))) - (2 : Int32)), vI (((5 : Int32) + (p2 &&& (7 : Int32))) - (4 : Int32))]) (fun m => by first | rfl | (simp [entryFrame, mkF, argsToLocals, Value.category]; done)) ?_
  intro p e s m below meth c T0 X0 H hml hZ hown hnm hret hlk e0
  refine gIloadN X0 H d2_0 rfl 1 rfl ?_
  refine gAloadN X0 H d2_1 rfl rfl 2 rfl ?_
  refine gGetF X0 H hZ hown (hw _ wd15) Via.refl e0 F_w_Database_POSTGRESQL_lowestMajor d2_2 5 rfl ?_
  intro T175 X175 e175
  refine gCmpY X175 H d2_5 (tlt hk2).2.2.1 (by decide) 24 rfl ?_
  refine gIconst X175 H d2_24 (z := 1) rfl 25 rfl ?_
  refine gGoto X175 H d2_25 (by decide) 29 rfl ?_
  exact gRetN X175 H hlk hret (t := .boolean) (by simp) d2_29 e175 ⟨rfl, rfl, rfl⟩
theorem rm183_2 (B : Bg Z a0 w_Database_H2 w_Database_POSTGRESQL w_Database_MARIADB) (p1 : Int32) (p2 : Int32) (hk2 : ¬ ((10 : Int32) < (((10 : Int32) + (p1 &&& (3 : Int32))) - (2 : Int32)))) (hk3 : (((10 : Int32) + (p1 &&& (3 : Int32))) - (2 : Int32)) = (10 : Int32)) (hk4 : (((5 : Int32) + (p2 &&& (7 : Int32))) - (4 : Int32)) < (5 : Int32)) :
    Con l Z (⟨"com/example/unfussy_repo/unfussyrepo/jdbc/Database", "takesSql", "(II)Z"⟩ : MethodName) prog_13_method_6_code 3 (some .boolean) ({ frames := 0, cells := 0, slots := 0, locals := 0 } : Room) #[(.ref w_Database_POSTGRESQL), (.int (((10 : Int32) + (p1 &&& (3 : Int32))) - (2 : Int32))), (.int (((5 : Int32) + (p2 &&& (7 : Int32))) - (4 : Int32)))] Z.heap (fun v h' L => v = some (.int 0) ∧ h' = Z.heap ∧ L = []) := by
  have hw := B.1
  obtain ⟨S_w_Database_H2, E_w_Database_H2, S_w_Database_POSTGRESQL, E_w_Database_POSTGRESQL, S_w_Database_MARIADB, E_w_Database_MARIADB, F_w_Database_H2_lowestMajor, F_w_Database_POSTGRESQL_lowestMajor, F_w_Database_MARIADB_lowestMajor, F_w_Database_MARIADB_lowestMinor, F_w_Database_H2_lowestMinor, F_w_Database_POSTGRESQL_lowestMinor⟩ := B.2
  refine Con.of (plainFor_of_name pn2) (Ls := #[vR w_Database_POSTGRESQL, vI (((10 : Int32) + (p1 &&& (3 : Int32))) - (2 : Int32)), vI (((5 : Int32) + (p2 &&& (7 : Int32))) - (4 : Int32))]) (fun m => by first | rfl | (simp [entryFrame, mkF, argsToLocals, Value.category]; done)) ?_
  intro p e s m below meth c T0 X0 H hml hZ hown hnm hret hlk e0
  refine gIloadN X0 H d2_0 rfl 1 rfl ?_
  refine gAloadN X0 H d2_1 rfl rfl 2 rfl ?_
  refine gGetF X0 H hZ hown (hw _ wd15) Via.refl e0 F_w_Database_POSTGRESQL_lowestMajor d2_2 5 rfl ?_
  intro T180 X180 e180
  refine gCmpN X180 H d2_5 (flt hk2).2.2.1 8 rfl ?_
  refine gIloadN X180 H d2_8 rfl 9 rfl ?_
  refine gAloadN X180 H d2_9 rfl rfl 10 rfl ?_
  refine gGetF X180 H hZ hown (hw _ wd15) Via.refl e180 F_w_Database_POSTGRESQL_lowestMajor d2_10 13 rfl ?_
  intro T181 X181 e181
  refine gCmpN X181 H d2_13 (teq hk3).2 16 rfl ?_
  refine gIloadN X181 H d2_16 rfl 17 rfl ?_
  refine gAloadN X181 H d2_17 rfl rfl 18 rfl ?_
  refine gGetF X181 H hZ hown (hw _ wd21) Via.refl e181 F_w_Database_POSTGRESQL_lowestMinor d2_18 21 rfl ?_
  intro T182 X182 e182
  refine gCmpY X182 H d2_21 (tlt hk4).1 (by decide) 28 rfl ?_
  refine gIconst X182 H d2_28 (z := 0) rfl 29 rfl ?_
  exact gRetN X182 H hlk hret (t := .boolean) (by simp) d2_29 e182 ⟨rfl, rfl, rfl⟩
theorem rm188_2 (B : Bg Z a0 w_Database_H2 w_Database_POSTGRESQL w_Database_MARIADB) (p1 : Int32) (p2 : Int32) (hk2 : ¬ ((10 : Int32) < (((10 : Int32) + (p1 &&& (3 : Int32))) - (2 : Int32)))) (hk3 : (((10 : Int32) + (p1 &&& (3 : Int32))) - (2 : Int32)) = (10 : Int32)) (hk4 : ¬ ((((5 : Int32) + (p2 &&& (7 : Int32))) - (4 : Int32)) < (5 : Int32))) :
    Con l Z (⟨"com/example/unfussy_repo/unfussyrepo/jdbc/Database", "takesSql", "(II)Z"⟩ : MethodName) prog_13_method_6_code 3 (some .boolean) ({ frames := 0, cells := 0, slots := 0, locals := 0 } : Room) #[(.ref w_Database_POSTGRESQL), (.int (((10 : Int32) + (p1 &&& (3 : Int32))) - (2 : Int32))), (.int (((5 : Int32) + (p2 &&& (7 : Int32))) - (4 : Int32)))] Z.heap (fun v h' L => v = some (.int 1) ∧ h' = Z.heap ∧ L = []) := by
  have hw := B.1
  obtain ⟨S_w_Database_H2, E_w_Database_H2, S_w_Database_POSTGRESQL, E_w_Database_POSTGRESQL, S_w_Database_MARIADB, E_w_Database_MARIADB, F_w_Database_H2_lowestMajor, F_w_Database_POSTGRESQL_lowestMajor, F_w_Database_MARIADB_lowestMajor, F_w_Database_MARIADB_lowestMinor, F_w_Database_H2_lowestMinor, F_w_Database_POSTGRESQL_lowestMinor⟩ := B.2
  refine Con.of (plainFor_of_name pn2) (Ls := #[vR w_Database_POSTGRESQL, vI (((10 : Int32) + (p1 &&& (3 : Int32))) - (2 : Int32)), vI (((5 : Int32) + (p2 &&& (7 : Int32))) - (4 : Int32))]) (fun m => by first | rfl | (simp [entryFrame, mkF, argsToLocals, Value.category]; done)) ?_
  intro p e s m below meth c T0 X0 H hml hZ hown hnm hret hlk e0
  refine gIloadN X0 H d2_0 rfl 1 rfl ?_
  refine gAloadN X0 H d2_1 rfl rfl 2 rfl ?_
  refine gGetF X0 H hZ hown (hw _ wd15) Via.refl e0 F_w_Database_POSTGRESQL_lowestMajor d2_2 5 rfl ?_
  intro T185 X185 e185
  refine gCmpN X185 H d2_5 (flt hk2).2.2.1 8 rfl ?_
  refine gIloadN X185 H d2_8 rfl 9 rfl ?_
  refine gAloadN X185 H d2_9 rfl rfl 10 rfl ?_
  refine gGetF X185 H hZ hown (hw _ wd15) Via.refl e185 F_w_Database_POSTGRESQL_lowestMajor d2_10 13 rfl ?_
  intro T186 X186 e186
  refine gCmpN X186 H d2_13 (teq hk3).2 16 rfl ?_
  refine gIloadN X186 H d2_16 rfl 17 rfl ?_
  refine gAloadN X186 H d2_17 rfl rfl 18 rfl ?_
  refine gGetF X186 H hZ hown (hw _ wd21) Via.refl e186 F_w_Database_POSTGRESQL_lowestMinor d2_18 21 rfl ?_
  intro T187 X187 e187
  refine gCmpN X187 H d2_21 (flt hk4).1 24 rfl ?_
  refine gIconst X187 H d2_24 (z := 1) rfl 25 rfl ?_
  refine gGoto X187 H d2_25 (by decide) 29 rfl ?_
  exact gRetN X187 H hlk hret (t := .boolean) (by simp) d2_29 e187 ⟨rfl, rfl, rfl⟩
theorem rm192_2 (B : Bg Z a0 w_Database_H2 w_Database_POSTGRESQL w_Database_MARIADB) (p1 : Int32) (p2 : Int32) (hk2 : ¬ ((10 : Int32) < (((10 : Int32) + (p1 &&& (3 : Int32))) - (2 : Int32)))) (hk3 : ¬ ((((10 : Int32) + (p1 &&& (3 : Int32))) - (2 : Int32)) = (10 : Int32))) :
    Con l Z (⟨"com/example/unfussy_repo/unfussyrepo/jdbc/Database", "takesSql", "(II)Z"⟩ : MethodName) prog_13_method_6_code 3 (some .boolean) ({ frames := 0, cells := 0, slots := 0, locals := 0 } : Room) #[(.ref w_Database_POSTGRESQL), (.int (((10 : Int32) + (p1 &&& (3 : Int32))) - (2 : Int32))), (.int (((5 : Int32) + (p2 &&& (7 : Int32))) - (4 : Int32)))] Z.heap (fun v h' L => v = some (.int 0) ∧ h' = Z.heap ∧ L = []) := by
  have hw := B.1
  obtain ⟨S_w_Database_H2, E_w_Database_H2, S_w_Database_POSTGRESQL, E_w_Database_POSTGRESQL, S_w_Database_MARIADB, E_w_Database_MARIADB, F_w_Database_H2_lowestMajor, F_w_Database_POSTGRESQL_lowestMajor, F_w_Database_MARIADB_lowestMajor, F_w_Database_MARIADB_lowestMinor, F_w_Database_H2_lowestMinor, F_w_Database_POSTGRESQL_lowestMinor⟩ := B.2
  refine Con.of (plainFor_of_name pn2) (Ls := #[vR w_Database_POSTGRESQL, vI (((10 : Int32) + (p1 &&& (3 : Int32))) - (2 : Int32)), vI (((5 : Int32) + (p2 &&& (7 : Int32))) - (4 : Int32))]) (fun m => by first | rfl | (simp [entryFrame, mkF, argsToLocals, Value.category]; done)) ?_
  intro p e s m below meth c T0 X0 H hml hZ hown hnm hret hlk e0
  refine gIloadN X0 H d2_0 rfl 1 rfl ?_
  refine gAloadN X0 H d2_1 rfl rfl 2 rfl ?_
  refine gGetF X0 H hZ hown (hw _ wd15) Via.refl e0 F_w_Database_POSTGRESQL_lowestMajor d2_2 5 rfl ?_
  intro T190 X190 e190
  refine gCmpN X190 H d2_5 (flt hk2).2.2.1 8 rfl ?_
  refine gIloadN X190 H d2_8 rfl 9 rfl ?_
  refine gAloadN X190 H d2_9 rfl rfl 10 rfl ?_
  refine gGetF X190 H hZ hown (hw _ wd15) Via.refl e190 F_w_Database_POSTGRESQL_lowestMajor d2_10 13 rfl ?_
  intro T191 X191 e191
  refine gCmpY X191 H d2_13 (feq hk3).2 (by decide) 28 rfl ?_
  refine gIconst X191 H d2_28 (z := 0) rfl 29 rfl ?_
  exact gRetN X191 H hlk hret (t := .boolean) (by simp) d2_29 e191 ⟨rfl, rfl, rfl⟩
theorem lawAll_1 (B : Bg Z a0 w_Database_H2 w_Database_POSTGRESQL w_Database_MARIADB) (p0 : Int32) (p1 : Int32) (p2 : Int32) (p3 : Int32) (ha0 : ((p0 &&& (2147483647 : Int32)) % (3 : Int32)) = (1 : Int32)) :
    Con l Z x code maxLocals ret room_1 #[(.int p0), (.int p1), (.int p2), (.int p3)] Z.heap (fun v h' L => v = some (.int 1) ∧ Fr Z.heap.size L) := by
  have hw := B.1
  obtain ⟨S_w_Database_H2, E_w_Database_H2, S_w_Database_POSTGRESQL, E_w_Database_POSTGRESQL, S_w_Database_MARIADB, E_w_Database_MARIADB, F_w_Database_H2_lowestMajor, F_w_Database_POSTGRESQL_lowestMajor, F_w_Database_MARIADB_lowestMajor, F_w_Database_MARIADB_lowestMinor, F_w_Database_H2_lowestMinor, F_w_Database_POSTGRESQL_lowestMinor⟩ := B.2
  refine Con.of (plainFor_of_name pn0) (Ls := #[vI p0, vI p1, vI p2, vI p3, .unset, .unset, .unset, .unset, .unset, .unset, .unset]) (fun m => by first | rfl | (simp [entryFrame, mkF, argsToLocals, Value.category, maxLocals]; done)) ?_
  intro p e s m below meth c T0 X0 H hml hZ hown hnm hret hlk e0
  refine gIloadN X0 H at_0 rfl 1 rfl ?_
  refine gLdc X0 H hZ hown (hw _ wd0) at_1 3 rfl ?_
  refine g_iand X0 H at_3 (z := (p0 &&& (2147483647 : Int32))) rfl 4 rfl ?_
  refine gIconst X0 H at_4 (z := 3) rfl 5 rfl ?_
  refine g_irem X0 H at_5 (by decide) (z := 1) ha0 6 rfl ?_
  refine gIstore X0 H at_6 (Ls' := #[vI p0, vI p1, vI p2, vI p3, vI 1, .unset, .unset, .unset, .unset, .unset, .unset]) rfl 8 rfl ?_
  refine gIload X0 H at_8 rfl 10 rfl ?_
  refine gIfY X0 H at_10 (by decide) (by decide) 27 rfl ?_
  refine gIload X0 H at_27 rfl 29 rfl ?_
  refine gIconst X0 H at_29 (z := 1) rfl 30 rfl ?_
  refine gCmpN X0 H at_30 (by decide) 33 rfl ?_
  refine gGetS X0 H hZ hown (hw _ wd17) e0 S_w_Database_POSTGRESQL at_33 36 rfl ?_
  intro T98 X98 e98
  refine gAstore X98 H at_36 rfl (Ls' := #[vI p0, vI p1, vI p2, vI p3, vI 1, vR w_Database_POSTGRESQL, .unset, .unset, .unset, .unset, .unset]) rfl 38 rfl ?_
  refine gBipush X98 H at_38 (z := 10) rfl 40 rfl ?_
  refine gIstore X98 H at_40 (Ls' := #[vI p0, vI p1, vI p2, vI p3, vI 1, vR w_Database_POSTGRESQL, vI 10, .unset, .unset, .unset, .unset]) rfl 42 rfl ?_
  refine gIconst X98 H at_42 (z := 5) rfl 43 rfl ?_
  refine gIstore X98 H at_43 (Ls' := #[vI p0, vI p1, vI p2, vI p3, vI 1, vR w_Database_POSTGRESQL, vI 10, vI 5, .unset, .unset, .unset]) rfl 45 rfl ?_
  refine gGoto X98 H at_45 (by decide) 61 rfl ?_
  refine gIloadN X98 H at_61 rfl 62 rfl ?_
  refine gIstore X98 H at_62 (Ls' := #[vI p0, vI p1, vI p2, vI p3, vI 1, vR w_Database_POSTGRESQL, vI 10, vI 5, vI p1, .unset, .unset]) rfl 64 rfl ?_
  refine gIloadN X98 H at_64 rfl 65 rfl ?_
  refine gIconst X98 H at_65 (z := 1) rfl 66 rfl ?_
  refine g_iand X98 H at_66 (z := (p3 &&& (1 : Int32))) rfl 67 rfl ?_
  by_cases hc99 : (p3 &&& (1 : Int32)) = (0 : Int32)
  · refine gIfY X98 H at_67 ((if0 _ _).trans (teq hc99).1) (by decide) 80 rfl ?_
    refine gIloadN X98 H at_80 rfl 81 rfl ?_
    refine gIstore X98 H at_81 (Ls' := #[vI p0, vI p1, vI p2, vI p3, vI 1, vR w_Database_POSTGRESQL, vI 10, vI 5, vI p1, vI p2, .unset]) rfl 83 rfl ?_
    refine gIloadN X98 H at_83 rfl 84 rfl ?_
    refine gIconst X98 H at_84 (z := 2) rfl 85 rfl ?_
    refine g_iand X98 H at_85 (z := (p3 &&& (2 : Int32))) rfl 86 rfl ?_
    by_cases hc100 : (p3 &&& (2 : Int32)) = (0 : Int32)
    · refine gIfY X98 H at_86 ((if0 _ _).trans (teq hc100).1) (by decide) 100 rfl ?_
      refine gIload X98 H at_100 rfl 102 rfl ?_
      refine gIload X98 H at_102 rfl 104 rfl ?_
      refine gStatic X98 H hZ hown (hw _ wd4) (hw _ wd5) (by decide) (hw _ wd7) (hw _ wd6) (rm4_1 B p1 p2) e98 hml rfl pd0 rfl (W := 0) (argsL := [(.int p1), (.int p2)]) (rest := []) rfl rfl at_104 107 rfl ?_
      intro v101 T101 L101 hq101 X101
      obtain ⟨rfl, e101, rfl⟩ := hq101
      show Go _ _ _ _ (State.setTop _ (mkF _ 107 _ [(.long (((p1.toInt64) * (4294967296 : Int64)) + ((p2.toInt64) + (2147483648 : Int64))))]))
      refine gIload X101 H at_107 rfl 109 rfl ?_
      refine gIload X101 H at_109 rfl 111 rfl ?_
      refine gStatic X101 H hZ hown (hw _ wd4) (hw _ wd5) (by decide) (hw _ wd7) (hw _ wd6) (rm102_1 B) e101 hml rfl pd0 rfl (W := 2) (argsL := [(.int 10), (.int 5)]) (rest := [(.long (((p1.toInt64) * (4294967296 : Int64)) + ((p2.toInt64) + (2147483648 : Int64))))]) rfl rfl at_111 114 rfl ?_
      intro v103 T103 L103 hq103 X103
      obtain ⟨rfl, e103, rfl⟩ := hq103
      show Go _ _ _ _ (State.setTop _ (mkF _ 114 _ [(.long 45097156613), (.long (((p1.toInt64) * (4294967296 : Int64)) + ((p2.toInt64) + (2147483648 : Int64))))]))
      refine g_lcmp X103 H at_114 (z := (lcmpW (((p1.toInt64) * (4294967296 : Int64)) + ((p2.toInt64) + (2147483648 : Int64))) (45097156613 : Int64))) rfl 115 rfl ?_
      by_cases hc104 : (10 : Int32) < p1
      · refine gIfN X103 H at_115 ((if0 _ _).trans (flt (fun q => (key1 (lm := (10 : Int32)) p2 (5 : Int32) (by decide) hc104) ((lw_lt _ _).mp q))).1) 118 rfl ?_
        refine gIconst X103 H at_118 (z := 1) rfl 119 rfl ?_
        refine gGoto X103 H at_119 (by decide) 123 rfl ?_
        refine gIstore X103 H at_123 (Ls' := #[vI p0, vI p1, vI p2, vI p3, vI 1, vR w_Database_POSTGRESQL, vI 10, vI 5, vI p1, vI p2, vI 1]) rfl 125 rfl ?_
        refine gAload X103 H at_125 rfl rfl 127 rfl ?_
        refine gIload X103 H at_127 rfl 129 rfl ?_
        refine gIload X103 H at_129 rfl 131 rfl ?_
        refine gVirt X103 H hZ hown (hw _ wd10) (hw _ wd11) (hw _ wd13) (hw _ wd12) (by decide) E_w_Database_POSTGRESQL (hw _ wd14) (hw _ wd2) (rm106_2 B p1 p2 hc104) e103 hml rfl pd1 rfl (W := 0) (argsL := [(.int p1), (.int p2)]) (rest := []) rfl rfl at_131 134 rfl ?_
        intro v107 T107 L107 hq107 X107
        obtain ⟨rfl, e107, rfl⟩ := hq107
        show Go _ _ _ _ (State.setTop _ (mkF _ 134 _ [(.int 1)]))
        refine gIload X107 H at_134 rfl 136 rfl ?_
        refine gCmpN X107 H at_136 (by decide) 139 rfl ?_
        refine gIconst X107 H at_139 (z := 1) rfl 140 rfl ?_
        refine gGoto X107 H at_140 (by decide) 144 rfl ?_
        exact gRetN X107 H hlk hret (t := .boolean) (by simp) at_144 e107 ⟨rfl, Fr.nil _⟩
      · by_cases hc108 : p1 = (10 : Int32)
        · by_cases hc109 : p2 < (5 : Int32)
          · refine gIfY X103 H at_115 ((if0 _ _).trans (tlt ((lw_lt _ _).mpr (key3 (lm := (10 : Int32)) (lo := (5 : Int32)) (by decide) hc108 hc109))).1) (by decide) 122 rfl ?_
            refine gIconst X103 H at_122 (z := 0) rfl 123 rfl ?_
            refine gIstore X103 H at_123 (Ls' := #[vI p0, vI p1, vI p2, vI p3, vI 1, vR w_Database_POSTGRESQL, vI 10, vI 5, vI p1, vI p2, vI 0]) rfl 125 rfl ?_
            refine gAload X103 H at_125 rfl rfl 127 rfl ?_
            refine gIload X103 H at_127 rfl 129 rfl ?_
            refine gIload X103 H at_129 rfl 131 rfl ?_
            refine gVirt X103 H hZ hown (hw _ wd10) (hw _ wd11) (hw _ wd13) (hw _ wd12) (by decide) E_w_Database_POSTGRESQL (hw _ wd14) (hw _ wd2) (rm113_2 B p1 p2 hc104 hc108 hc109) e103 hml rfl pd1 rfl (W := 0) (argsL := [(.int p1), (.int p2)]) (rest := []) rfl rfl at_131 134 rfl ?_
            intro v114 T114 L114 hq114 X114
            obtain ⟨rfl, e114, rfl⟩ := hq114
            show Go _ _ _ _ (State.setTop _ (mkF _ 134 _ [(.int 0)]))
            refine gIload X114 H at_134 rfl 136 rfl ?_
            refine gCmpN X114 H at_136 (by decide) 139 rfl ?_
            refine gIconst X114 H at_139 (z := 1) rfl 140 rfl ?_
            refine gGoto X114 H at_140 (by decide) 144 rfl ?_
            exact gRetN X114 H hlk hret (t := .boolean) (by simp) at_144 e114 ⟨rfl, Fr.nil _⟩
          · refine gIfN X103 H at_115 ((if0 _ _).trans (flt (fun q => (key4 (lm := (10 : Int32)) (lo := (5 : Int32)) (by decide) hc108 hc109) ((lw_lt _ _).mp q))).1) 118 rfl ?_
            refine gIconst X103 H at_118 (z := 1) rfl 119 rfl ?_
            refine gGoto X103 H at_119 (by decide) 123 rfl ?_
            refine gIstore X103 H at_123 (Ls' := #[vI p0, vI p1, vI p2, vI p3, vI 1, vR w_Database_POSTGRESQL, vI 10, vI 5, vI p1, vI p2, vI 1]) rfl 125 rfl ?_
            refine gAload X103 H at_125 rfl rfl 127 rfl ?_
            refine gIload X103 H at_127 rfl 129 rfl ?_
            refine gIload X103 H at_129 rfl 131 rfl ?_
            refine gVirt X103 H hZ hown (hw _ wd10) (hw _ wd11) (hw _ wd13) (hw _ wd12) (by decide) E_w_Database_POSTGRESQL (hw _ wd14) (hw _ wd2) (rm118_2 B p1 p2 hc104 hc108 hc109) e103 hml rfl pd1 rfl (W := 0) (argsL := [(.int p1), (.int p2)]) (rest := []) rfl rfl at_131 134 rfl ?_
            intro v119 T119 L119 hq119 X119
            obtain ⟨rfl, e119, rfl⟩ := hq119
            show Go _ _ _ _ (State.setTop _ (mkF _ 134 _ [(.int 1)]))
            refine gIload X119 H at_134 rfl 136 rfl ?_
            refine gCmpN X119 H at_136 (by decide) 139 rfl ?_
            refine gIconst X119 H at_139 (z := 1) rfl 140 rfl ?_
            refine gGoto X119 H at_140 (by decide) 144 rfl ?_
            exact gRetN X119 H hlk hret (t := .boolean) (by simp) at_144 e119 ⟨rfl, Fr.nil _⟩
        · refine gIfY X103 H at_115 ((if0 _ _).trans (tlt ((lw_lt _ _).mpr (key2 (lm := (10 : Int32)) p2 (5 : Int32) (by decide) hc104 hc108))).1) (by decide) 122 rfl ?_
          refine gIconst X103 H at_122 (z := 0) rfl 123 rfl ?_
          refine gIstore X103 H at_123 (Ls' := #[vI p0, vI p1, vI p2, vI p3, vI 1, vR w_Database_POSTGRESQL, vI 10, vI 5, vI p1, vI p2, vI 0]) rfl 125 rfl ?_
          refine gAload X103 H at_125 rfl rfl 127 rfl ?_
          refine gIload X103 H at_127 rfl 129 rfl ?_
          refine gIload X103 H at_129 rfl 131 rfl ?_
          refine gVirt X103 H hZ hown (hw _ wd10) (hw _ wd11) (hw _ wd13) (hw _ wd12) (by decide) E_w_Database_POSTGRESQL (hw _ wd14) (hw _ wd2) (rm122_2 B p1 p2 hc104 hc108) e103 hml rfl pd1 rfl (W := 0) (argsL := [(.int p1), (.int p2)]) (rest := []) rfl rfl at_131 134 rfl ?_
          intro v123 T123 L123 hq123 X123
          obtain ⟨rfl, e123, rfl⟩ := hq123
          show Go _ _ _ _ (State.setTop _ (mkF _ 134 _ [(.int 0)]))
          refine gIload X123 H at_134 rfl 136 rfl ?_
          refine gCmpN X123 H at_136 (by decide) 139 rfl ?_
          refine gIconst X123 H at_139 (z := 1) rfl 140 rfl ?_
          refine gGoto X123 H at_140 (by decide) 144 rfl ?_
          exact gRetN X123 H hlk hret (t := .boolean) (by simp) at_144 e123 ⟨rfl, Fr.nil _⟩
    · refine gIfN X98 H at_86 ((if0 _ _).trans (feq hc100).1) 89 rfl ?_
      refine gIload X98 H at_89 rfl 91 rfl ?_
      refine gIloadN X98 H at_91 rfl 92 rfl ?_
      refine gBipush X98 H at_92 (z := 7) rfl 94 rfl ?_
      refine g_iand X98 H at_94 (z := (p2 &&& (7 : Int32))) rfl 95 rfl ?_
      refine g_iadd X98 H at_95 (z := ((5 : Int32) + (p2 &&& (7 : Int32)))) rfl 96 rfl ?_
      refine gIconst X98 H at_96 (z := 4) rfl 97 rfl ?_
      refine g_isub X98 H at_97 (z := (((5 : Int32) + (p2 &&& (7 : Int32))) - (4 : Int32))) rfl 98 rfl ?_
      refine gIstore X98 H at_98 (Ls' := #[vI p0, vI p1, vI p2, vI p3, vI 1, vR w_Database_POSTGRESQL, vI 10, vI 5, vI p1, vI (((5 : Int32) + (p2 &&& (7 : Int32))) - (4 : Int32)), .unset]) rfl 100 rfl ?_
      refine gIload X98 H at_100 rfl 102 rfl ?_
      refine gIload X98 H at_102 rfl 104 rfl ?_
      refine gStatic X98 H hZ hown (hw _ wd4) (hw _ wd5) (by decide) (hw _ wd7) (hw _ wd6) (rm124_1 B p1 p2) e98 hml rfl pd0 rfl (W := 0) (argsL := [(.int p1), (.int (((5 : Int32) + (p2 &&& (7 : Int32))) - (4 : Int32)))]) (rest := []) rfl rfl at_104 107 rfl ?_
      intro v125 T125 L125 hq125 X125
      obtain ⟨rfl, e125, rfl⟩ := hq125
      show Go _ _ _ _ (State.setTop _ (mkF _ 107 _ [(.long (((p1.toInt64) * (4294967296 : Int64)) + (((((5 : Int32) + (p2 &&& (7 : Int32))) - (4 : Int32)).toInt64) + (2147483648 : Int64))))]))
      refine gIload X125 H at_107 rfl 109 rfl ?_
      refine gIload X125 H at_109 rfl 111 rfl ?_
      refine gStatic X125 H hZ hown (hw _ wd4) (hw _ wd5) (by decide) (hw _ wd7) (hw _ wd6) (rm102_1 B) e125 hml rfl pd0 rfl (W := 2) (argsL := [(.int 10), (.int 5)]) (rest := [(.long (((p1.toInt64) * (4294967296 : Int64)) + (((((5 : Int32) + (p2 &&& (7 : Int32))) - (4 : Int32)).toInt64) + (2147483648 : Int64))))]) rfl rfl at_111 114 rfl ?_
      intro v126 T126 L126 hq126 X126
      obtain ⟨rfl, e126, rfl⟩ := hq126
      show Go _ _ _ _ (State.setTop _ (mkF _ 114 _ [(.long 45097156613), (.long (((p1.toInt64) * (4294967296 : Int64)) + (((((5 : Int32) + (p2 &&& (7 : Int32))) - (4 : Int32)).toInt64) + (2147483648 : Int64))))]))
      refine g_lcmp X126 H at_114 (z := (lcmpW (((p1.toInt64) * (4294967296 : Int64)) + (((((5 : Int32) + (p2 &&& (7 : Int32))) - (4 : Int32)).toInt64) + (2147483648 : Int64))) (45097156613 : Int64))) rfl 115 rfl ?_
      by_cases hc127 : (10 : Int32) < p1
      · refine gIfN X126 H at_115 ((if0 _ _).trans (flt (fun q => (key1 (lm := (10 : Int32)) (((5 : Int32) + (p2 &&& (7 : Int32))) - (4 : Int32)) (5 : Int32) (by decide) hc127) ((lw_lt _ _).mp q))).1) 118 rfl ?_
        refine gIconst X126 H at_118 (z := 1) rfl 119 rfl ?_
        refine gGoto X126 H at_119 (by decide) 123 rfl ?_
        refine gIstore X126 H at_123 (Ls' := #[vI p0, vI p1, vI p2, vI p3, vI 1, vR w_Database_POSTGRESQL, vI 10, vI 5, vI p1, vI (((5 : Int32) + (p2 &&& (7 : Int32))) - (4 : Int32)), vI 1]) rfl 125 rfl ?_
        refine gAload X126 H at_125 rfl rfl 127 rfl ?_
        refine gIload X126 H at_127 rfl 129 rfl ?_
        refine gIload X126 H at_129 rfl 131 rfl ?_
        refine gVirt X126 H hZ hown (hw _ wd10) (hw _ wd11) (hw _ wd13) (hw _ wd12) (by decide) E_w_Database_POSTGRESQL (hw _ wd14) (hw _ wd2) (rm129_2 B p1 p2 hc127) e126 hml rfl pd1 rfl (W := 0) (argsL := [(.int p1), (.int (((5 : Int32) + (p2 &&& (7 : Int32))) - (4 : Int32)))]) (rest := []) rfl rfl at_131 134 rfl ?_
        intro v130 T130 L130 hq130 X130
        obtain ⟨rfl, e130, rfl⟩ := hq130
        show Go _ _ _ _ (State.setTop _ (mkF _ 134 _ [(.int 1)]))
        refine gIload X130 H at_134 rfl 136 rfl ?_
        refine gCmpN X130 H at_136 (by decide) 139 rfl ?_
        refine gIconst X130 H at_139 (z := 1) rfl 140 rfl ?_
        refine gGoto X130 H at_140 (by decide) 144 rfl ?_
        exact gRetN X130 H hlk hret (t := .boolean) (by simp) at_144 e130 ⟨rfl, Fr.nil _⟩
      · by_cases hc131 : p1 = (10 : Int32)
        · by_cases hc132 : (((5 : Int32) + (p2 &&& (7 : Int32))) - (4 : Int32)) < (5 : Int32)
          · refine gIfY X126 H at_115 ((if0 _ _).trans (tlt ((lw_lt _ _).mpr (key3 (lm := (10 : Int32)) (lo := (5 : Int32)) (by decide) hc131 hc132))).1) (by decide) 122 rfl ?_
            refine gIconst X126 H at_122 (z := 0) rfl 123 rfl ?_
            refine gIstore X126 H at_123 (Ls' := #[vI p0, vI p1, vI p2, vI p3, vI 1, vR w_Database_POSTGRESQL, vI 10, vI 5, vI p1, vI (((5 : Int32) + (p2 &&& (7 : Int32))) - (4 : Int32)), vI 0]) rfl 125 rfl ?_
            refine gAload X126 H at_125 rfl rfl 127 rfl ?_
            refine gIload X126 H at_127 rfl 129 rfl ?_
            refine gIload X126 H at_129 rfl 131 rfl ?_
            refine gVirt X126 H hZ hown (hw _ wd10) (hw _ wd11) (hw _ wd13) (hw _ wd12) (by decide) E_w_Database_POSTGRESQL (hw _ wd14) (hw _ wd2) (rm136_2 B p1 p2 hc127 hc131 hc132) e126 hml rfl pd1 rfl (W := 0) (argsL := [(.int p1), (.int (((5 : Int32) + (p2 &&& (7 : Int32))) - (4 : Int32)))]) (rest := []) rfl rfl at_131 134 rfl ?_
            intro v137 T137 L137 hq137 X137
            obtain ⟨rfl, e137, rfl⟩ := hq137
            show Go _ _ _ _ (State.setTop _ (mkF _ 134 _ [(.int 0)]))
            refine gIload X137 H at_134 rfl 136 rfl ?_
            refine gCmpN X137 H at_136 (by decide) 139 rfl ?_
            refine gIconst X137 H at_139 (z := 1) rfl 140 rfl ?_
            refine gGoto X137 H at_140 (by decide) 144 rfl ?_
            exact gRetN X137 H hlk hret (t := .boolean) (by simp) at_144 e137 ⟨rfl, Fr.nil _⟩
          · refine gIfN X126 H at_115 ((if0 _ _).trans (flt (fun q => (key4 (lm := (10 : Int32)) (lo := (5 : Int32)) (by decide) hc131 hc132) ((lw_lt _ _).mp q))).1) 118 rfl ?_
            refine gIconst X126 H at_118 (z := 1) rfl 119 rfl ?_
            refine gGoto X126 H at_119 (by decide) 123 rfl ?_
            refine gIstore X126 H at_123 (Ls' := #[vI p0, vI p1, vI p2, vI p3, vI 1, vR w_Database_POSTGRESQL, vI 10, vI 5, vI p1, vI (((5 : Int32) + (p2 &&& (7 : Int32))) - (4 : Int32)), vI 1]) rfl 125 rfl ?_
            refine gAload X126 H at_125 rfl rfl 127 rfl ?_
            refine gIload X126 H at_127 rfl 129 rfl ?_
            refine gIload X126 H at_129 rfl 131 rfl ?_
            refine gVirt X126 H hZ hown (hw _ wd10) (hw _ wd11) (hw _ wd13) (hw _ wd12) (by decide) E_w_Database_POSTGRESQL (hw _ wd14) (hw _ wd2) (rm141_2 B p1 p2 hc127 hc131 hc132) e126 hml rfl pd1 rfl (W := 0) (argsL := [(.int p1), (.int (((5 : Int32) + (p2 &&& (7 : Int32))) - (4 : Int32)))]) (rest := []) rfl rfl at_131 134 rfl ?_
            intro v142 T142 L142 hq142 X142
            obtain ⟨rfl, e142, rfl⟩ := hq142
            show Go _ _ _ _ (State.setTop _ (mkF _ 134 _ [(.int 1)]))
            refine gIload X142 H at_134 rfl 136 rfl ?_
            refine gCmpN X142 H at_136 (by decide) 139 rfl ?_
            refine gIconst X142 H at_139 (z := 1) rfl 140 rfl ?_
            refine gGoto X142 H at_140 (by decide) 144 rfl ?_
            exact gRetN X142 H hlk hret (t := .boolean) (by simp) at_144 e142 ⟨rfl, Fr.nil _⟩
        · refine gIfY X126 H at_115 ((if0 _ _).trans (tlt ((lw_lt _ _).mpr (key2 (lm := (10 : Int32)) (((5 : Int32) + (p2 &&& (7 : Int32))) - (4 : Int32)) (5 : Int32) (by decide) hc127 hc131))).1) (by decide) 122 rfl ?_
          refine gIconst X126 H at_122 (z := 0) rfl 123 rfl ?_
          refine gIstore X126 H at_123 (Ls' := #[vI p0, vI p1, vI p2, vI p3, vI 1, vR w_Database_POSTGRESQL, vI 10, vI 5, vI p1, vI (((5 : Int32) + (p2 &&& (7 : Int32))) - (4 : Int32)), vI 0]) rfl 125 rfl ?_
          refine gAload X126 H at_125 rfl rfl 127 rfl ?_
          refine gIload X126 H at_127 rfl 129 rfl ?_
          refine gIload X126 H at_129 rfl 131 rfl ?_
          refine gVirt X126 H hZ hown (hw _ wd10) (hw _ wd11) (hw _ wd13) (hw _ wd12) (by decide) E_w_Database_POSTGRESQL (hw _ wd14) (hw _ wd2) (rm145_2 B p1 p2 hc127 hc131) e126 hml rfl pd1 rfl (W := 0) (argsL := [(.int p1), (.int (((5 : Int32) + (p2 &&& (7 : Int32))) - (4 : Int32)))]) (rest := []) rfl rfl at_131 134 rfl ?_
          intro v146 T146 L146 hq146 X146
          obtain ⟨rfl, e146, rfl⟩ := hq146
          show Go _ _ _ _ (State.setTop _ (mkF _ 134 _ [(.int 0)]))
          refine gIload X146 H at_134 rfl 136 rfl ?_
          refine gCmpN X146 H at_136 (by decide) 139 rfl ?_
          refine gIconst X146 H at_139 (z := 1) rfl 140 rfl ?_
          refine gGoto X146 H at_140 (by decide) 144 rfl ?_
          exact gRetN X146 H hlk hret (t := .boolean) (by simp) at_144 e146 ⟨rfl, Fr.nil _⟩
  · refine gIfN X98 H at_67 ((if0 _ _).trans (feq hc99).1) 70 rfl ?_
    refine gIload X98 H at_70 rfl 72 rfl ?_
    refine gIloadN X98 H at_72 rfl 73 rfl ?_
    refine gIconst X98 H at_73 (z := 3) rfl 74 rfl ?_
    refine g_iand X98 H at_74 (z := (p1 &&& (3 : Int32))) rfl 75 rfl ?_
    refine g_iadd X98 H at_75 (z := ((10 : Int32) + (p1 &&& (3 : Int32)))) rfl 76 rfl ?_
    refine gIconst X98 H at_76 (z := 2) rfl 77 rfl ?_
    refine g_isub X98 H at_77 (z := (((10 : Int32) + (p1 &&& (3 : Int32))) - (2 : Int32))) rfl 78 rfl ?_
    refine gIstore X98 H at_78 (Ls' := #[vI p0, vI p1, vI p2, vI p3, vI 1, vR w_Database_POSTGRESQL, vI 10, vI 5, vI (((10 : Int32) + (p1 &&& (3 : Int32))) - (2 : Int32)), .unset, .unset]) rfl 80 rfl ?_
    refine gIloadN X98 H at_80 rfl 81 rfl ?_
    refine gIstore X98 H at_81 (Ls' := #[vI p0, vI p1, vI p2, vI p3, vI 1, vR w_Database_POSTGRESQL, vI 10, vI 5, vI (((10 : Int32) + (p1 &&& (3 : Int32))) - (2 : Int32)), vI p2, .unset]) rfl 83 rfl ?_
    refine gIloadN X98 H at_83 rfl 84 rfl ?_
    refine gIconst X98 H at_84 (z := 2) rfl 85 rfl ?_
    refine g_iand X98 H at_85 (z := (p3 &&& (2 : Int32))) rfl 86 rfl ?_
    by_cases hc147 : (p3 &&& (2 : Int32)) = (0 : Int32)
    · refine gIfY X98 H at_86 ((if0 _ _).trans (teq hc147).1) (by decide) 100 rfl ?_
      refine gIload X98 H at_100 rfl 102 rfl ?_
      refine gIload X98 H at_102 rfl 104 rfl ?_
      refine gStatic X98 H hZ hown (hw _ wd4) (hw _ wd5) (by decide) (hw _ wd7) (hw _ wd6) (rm148_1 B p1 p2) e98 hml rfl pd0 rfl (W := 0) (argsL := [(.int (((10 : Int32) + (p1 &&& (3 : Int32))) - (2 : Int32))), (.int p2)]) (rest := []) rfl rfl at_104 107 rfl ?_
      intro v149 T149 L149 hq149 X149
      obtain ⟨rfl, e149, rfl⟩ := hq149
      show Go _ _ _ _ (State.setTop _ (mkF _ 107 _ [(.long ((((((10 : Int32) + (p1 &&& (3 : Int32))) - (2 : Int32)).toInt64) * (4294967296 : Int64)) + ((p2.toInt64) + (2147483648 : Int64))))]))
      refine gIload X149 H at_107 rfl 109 rfl ?_
      refine gIload X149 H at_109 rfl 111 rfl ?_
      refine gStatic X149 H hZ hown (hw _ wd4) (hw _ wd5) (by decide) (hw _ wd7) (hw _ wd6) (rm102_1 B) e149 hml rfl pd0 rfl (W := 2) (argsL := [(.int 10), (.int 5)]) (rest := [(.long ((((((10 : Int32) + (p1 &&& (3 : Int32))) - (2 : Int32)).toInt64) * (4294967296 : Int64)) + ((p2.toInt64) + (2147483648 : Int64))))]) rfl rfl at_111 114 rfl ?_
      intro v150 T150 L150 hq150 X150
      obtain ⟨rfl, e150, rfl⟩ := hq150
      show Go _ _ _ _ (State.setTop _ (mkF _ 114 _ [(.long 45097156613), (.long ((((((10 : Int32) + (p1 &&& (3 : Int32))) - (2 : Int32)).toInt64) * (4294967296 : Int64)) + ((p2.toInt64) + (2147483648 : Int64))))]))
      refine g_lcmp X150 H at_114 (z := (lcmpW ((((((10 : Int32) + (p1 &&& (3 : Int32))) - (2 : Int32)).toInt64) * (4294967296 : Int64)) + ((p2.toInt64) + (2147483648 : Int64))) (45097156613 : Int64))) rfl 115 rfl ?_
      by_cases hc151 : (10 : Int32) < (((10 : Int32) + (p1 &&& (3 : Int32))) - (2 : Int32))
      · refine gIfN X150 H at_115 ((if0 _ _).trans (flt (fun q => (key1 (lm := (10 : Int32)) p2 (5 : Int32) (by decide) hc151) ((lw_lt _ _).mp q))).1) 118 rfl ?_
        refine gIconst X150 H at_118 (z := 1) rfl 119 rfl ?_
        refine gGoto X150 H at_119 (by decide) 123 rfl ?_
        refine gIstore X150 H at_123 (Ls' := #[vI p0, vI p1, vI p2, vI p3, vI 1, vR w_Database_POSTGRESQL, vI 10, vI 5, vI (((10 : Int32) + (p1 &&& (3 : Int32))) - (2 : Int32)), vI p2, vI 1]) rfl 125 rfl ?_
        refine gAload X150 H at_125 rfl rfl 127 rfl ?_
        refine gIload X150 H at_127 rfl 129 rfl ?_
        refine gIload X150 H at_129 rfl 131 rfl ?_
        refine gVirt X150 H hZ hown (hw _ wd10) (hw _ wd11) (hw _ wd13) (hw _ wd12) (by decide) E_w_Database_POSTGRESQL (hw _ wd14) (hw _ wd2) (rm153_2 B p1 p2 hc151) e150 hml rfl pd1 rfl (W := 0) (argsL := [(.int (((10 : Int32) + (p1 &&& (3 : Int32))) - (2 : Int32))), (.int p2)]) (rest := []) rfl rfl at_131 134 rfl ?_
        intro v154 T154 L154 hq154 X154
        obtain ⟨rfl, e154, rfl⟩ := hq154
        show Go _ _ _ _ (State.setTop _ (mkF _ 134 _ [(.int 1)]))
        refine gIload X154 H at_134 rfl 136 rfl ?_
        refine gCmpN X154 H at_136 (by decide) 139 rfl ?_
        refine gIconst X154 H at_139 (z := 1) rfl 140 rfl ?_
        refine gGoto X154 H at_140 (by decide) 144 rfl ?_
        exact gRetN X154 H hlk hret (t := .boolean) (by simp) at_144 e154 ⟨rfl, Fr.nil _⟩
      · by_cases hc155 : (((10 : Int32) + (p1 &&& (3 : Int32))) - (2 : Int32)) = (10 : Int32)
        · by_cases hc156 : p2 < (5 : Int32)
          · refine gIfY X150 H at_115 ((if0 _ _).trans (tlt ((lw_lt _ _).mpr (key3 (lm := (10 : Int32)) (lo := (5 : Int32)) (by decide) hc155 hc156))).1) (by decide) 122 rfl ?_
            refine gIconst X150 H at_122 (z := 0) rfl 123 rfl ?_
            refine gIstore X150 H at_123 (Ls' := #[vI p0, vI p1, vI p2, vI p3, vI 1, vR w_Database_POSTGRESQL, vI 10, vI 5, vI (((10 : Int32) + (p1 &&& (3 : Int32))) - (2 : Int32)), vI p2, vI 0]) rfl 125 rfl ?_
            refine gAload X150 H at_125 rfl rfl 127 rfl ?_
            refine gIload X150 H at_127 rfl 129 rfl ?_
            refine gIload X150 H at_129 rfl 131 rfl ?_
            refine gVirt X150 H hZ hown (hw _ wd10) (hw _ wd11) (hw _ wd13) (hw _ wd12) (by decide) E_w_Database_POSTGRESQL (hw _ wd14) (hw _ wd2) (rm160_2 B p1 p2 hc151 hc155 hc156) e150 hml rfl pd1 rfl (W := 0) (argsL := [(.int (((10 : Int32) + (p1 &&& (3 : Int32))) - (2 : Int32))), (.int p2)]) (rest := []) rfl rfl at_131 134 rfl ?_
            intro v161 T161 L161 hq161 X161
            obtain ⟨rfl, e161, rfl⟩ := hq161
            show Go _ _ _ _ (State.setTop _ (mkF _ 134 _ [(.int 0)]))
            refine gIload X161 H at_134 rfl 136 rfl ?_
            refine gCmpN X161 H at_136 (by decide) 139 rfl ?_
            refine gIconst X161 H at_139 (z := 1) rfl 140 rfl ?_
            refine gGoto X161 H at_140 (by decide) 144 rfl ?_
            exact gRetN X161 H hlk hret (t := .boolean) (by simp) at_144 e161 ⟨rfl, Fr.nil _⟩
          · refine gIfN X150 H at_115 ((if0 _ _).trans (flt (fun q => (key4 (lm := (10 : Int32)) (lo := (5 : Int32)) (by decide) hc155 hc156) ((lw_lt _ _).mp q))).1) 118 rfl ?_
            refine gIconst X150 H at_118 (z := 1) rfl 119 rfl ?_
            refine gGoto X150 H at_119 (by decide) 123 rfl ?_
            refine gIstore X150 H at_123 (Ls' := #[vI p0, vI p1, vI p2, vI p3, vI 1, vR w_Database_POSTGRESQL, vI 10, vI 5, vI (((10 : Int32) + (p1 &&& (3 : Int32))) - (2 : Int32)), vI p2, vI 1]) rfl 125 rfl ?_
            refine gAload X150 H at_125 rfl rfl 127 rfl ?_
            refine gIload X150 H at_127 rfl 129 rfl ?_
            refine gIload X150 H at_129 rfl 131 rfl ?_
            refine gVirt X150 H hZ hown (hw _ wd10) (hw _ wd11) (hw _ wd13) (hw _ wd12) (by decide) E_w_Database_POSTGRESQL (hw _ wd14) (hw _ wd2) (rm165_2 B p1 p2 hc151 hc155 hc156) e150 hml rfl pd1 rfl (W := 0) (argsL := [(.int (((10 : Int32) + (p1 &&& (3 : Int32))) - (2 : Int32))), (.int p2)]) (rest := []) rfl rfl at_131 134 rfl ?_
            intro v166 T166 L166 hq166 X166
            obtain ⟨rfl, e166, rfl⟩ := hq166
            show Go _ _ _ _ (State.setTop _ (mkF _ 134 _ [(.int 1)]))
            refine gIload X166 H at_134 rfl 136 rfl ?_
            refine gCmpN X166 H at_136 (by decide) 139 rfl ?_
            refine gIconst X166 H at_139 (z := 1) rfl 140 rfl ?_
            refine gGoto X166 H at_140 (by decide) 144 rfl ?_
            exact gRetN X166 H hlk hret (t := .boolean) (by simp) at_144 e166 ⟨rfl, Fr.nil _⟩
        · refine gIfY X150 H at_115 ((if0 _ _).trans (tlt ((lw_lt _ _).mpr (key2 (lm := (10 : Int32)) p2 (5 : Int32) (by decide) hc151 hc155))).1) (by decide) 122 rfl ?_
          refine gIconst X150 H at_122 (z := 0) rfl 123 rfl ?_
          refine gIstore X150 H at_123 (Ls' := #[vI p0, vI p1, vI p2, vI p3, vI 1, vR w_Database_POSTGRESQL, vI 10, vI 5, vI (((10 : Int32) + (p1 &&& (3 : Int32))) - (2 : Int32)), vI p2, vI 0]) rfl 125 rfl ?_
          refine gAload X150 H at_125 rfl rfl 127 rfl ?_
          refine gIload X150 H at_127 rfl 129 rfl ?_
          refine gIload X150 H at_129 rfl 131 rfl ?_
          refine gVirt X150 H hZ hown (hw _ wd10) (hw _ wd11) (hw _ wd13) (hw _ wd12) (by decide) E_w_Database_POSTGRESQL (hw _ wd14) (hw _ wd2) (rm169_2 B p1 p2 hc151 hc155) e150 hml rfl pd1 rfl (W := 0) (argsL := [(.int (((10 : Int32) + (p1 &&& (3 : Int32))) - (2 : Int32))), (.int p2)]) (rest := []) rfl rfl at_131 134 rfl ?_
          intro v170 T170 L170 hq170 X170
          obtain ⟨rfl, e170, rfl⟩ := hq170
          show Go _ _ _ _ (State.setTop _ (mkF _ 134 _ [(.int 0)]))
          refine gIload X170 H at_134 rfl 136 rfl ?_
          refine gCmpN X170 H at_136 (by decide) 139 rfl ?_
          refine gIconst X170 H at_139 (z := 1) rfl 140 rfl ?_
          refine gGoto X170 H at_140 (by decide) 144 rfl ?_
          exact gRetN X170 H hlk hret (t := .boolean) (by simp) at_144 e170 ⟨rfl, Fr.nil _⟩
    · refine gIfN X98 H at_86 ((if0 _ _).trans (feq hc147).1) 89 rfl ?_
      refine gIload X98 H at_89 rfl 91 rfl ?_
      refine gIloadN X98 H at_91 rfl 92 rfl ?_
      refine gBipush X98 H at_92 (z := 7) rfl 94 rfl ?_
      refine g_iand X98 H at_94 (z := (p2 &&& (7 : Int32))) rfl 95 rfl ?_
      refine g_iadd X98 H at_95 (z := ((5 : Int32) + (p2 &&& (7 : Int32)))) rfl 96 rfl ?_
      refine gIconst X98 H at_96 (z := 4) rfl 97 rfl ?_
      refine g_isub X98 H at_97 (z := (((5 : Int32) + (p2 &&& (7 : Int32))) - (4 : Int32))) rfl 98 rfl ?_
      refine gIstore X98 H at_98 (Ls' := #[vI p0, vI p1, vI p2, vI p3, vI 1, vR w_Database_POSTGRESQL, vI 10, vI 5, vI (((10 : Int32) + (p1 &&& (3 : Int32))) - (2 : Int32)), vI (((5 : Int32) + (p2 &&& (7 : Int32))) - (4 : Int32)), .unset]) rfl 100 rfl ?_
      refine gIload X98 H at_100 rfl 102 rfl ?_
      refine gIload X98 H at_102 rfl 104 rfl ?_
      refine gStatic X98 H hZ hown (hw _ wd4) (hw _ wd5) (by decide) (hw _ wd7) (hw _ wd6) (rm171_1 B p1 p2) e98 hml rfl pd0 rfl (W := 0) (argsL := [(.int (((10 : Int32) + (p1 &&& (3 : Int32))) - (2 : Int32))), (.int (((5 : Int32) + (p2 &&& (7 : Int32))) - (4 : Int32)))]) (rest := []) rfl rfl at_104 107 rfl ?_
      intro v172 T172 L172 hq172 X172
      obtain ⟨rfl, e172, rfl⟩ := hq172
      show Go _ _ _ _ (State.setTop _ (mkF _ 107 _ [(.long ((((((10 : Int32) + (p1 &&& (3 : Int32))) - (2 : Int32)).toInt64) * (4294967296 : Int64)) + (((((5 : Int32) + (p2 &&& (7 : Int32))) - (4 : Int32)).toInt64) + (2147483648 : Int64))))]))
      refine gIload X172 H at_107 rfl 109 rfl ?_
      refine gIload X172 H at_109 rfl 111 rfl ?_
      refine gStatic X172 H hZ hown (hw _ wd4) (hw _ wd5) (by decide) (hw _ wd7) (hw _ wd6) (rm102_1 B) e172 hml rfl pd0 rfl (W := 2) (argsL := [(.int 10), (.int 5)]) (rest := [(.long ((((((10 : Int32) + (p1 &&& (3 : Int32))) - (2 : Int32)).toInt64) * (4294967296 : Int64)) + (((((5 : Int32) + (p2 &&& (7 : Int32))) - (4 : Int32)).toInt64) + (2147483648 : Int64))))]) rfl rfl at_111 114 rfl ?_
      intro v173 T173 L173 hq173 X173
      obtain ⟨rfl, e173, rfl⟩ := hq173
      show Go _ _ _ _ (State.setTop _ (mkF _ 114 _ [(.long 45097156613), (.long ((((((10 : Int32) + (p1 &&& (3 : Int32))) - (2 : Int32)).toInt64) * (4294967296 : Int64)) + (((((5 : Int32) + (p2 &&& (7 : Int32))) - (4 : Int32)).toInt64) + (2147483648 : Int64))))]))
      refine g_lcmp X173 H at_114 (z := (lcmpW ((((((10 : Int32) + (p1 &&& (3 : Int32))) - (2 : Int32)).toInt64) * (4294967296 : Int64)) + (((((5 : Int32) + (p2 &&& (7 : Int32))) - (4 : Int32)).toInt64) + (2147483648 : Int64))) (45097156613 : Int64))) rfl 115 rfl ?_
      by_cases hc174 : (10 : Int32) < (((10 : Int32) + (p1 &&& (3 : Int32))) - (2 : Int32))
      · refine gIfN X173 H at_115 ((if0 _ _).trans (flt (fun q => (key1 (lm := (10 : Int32)) (((5 : Int32) + (p2 &&& (7 : Int32))) - (4 : Int32)) (5 : Int32) (by decide) hc174) ((lw_lt _ _).mp q))).1) 118 rfl ?_
        refine gIconst X173 H at_118 (z := 1) rfl 119 rfl ?_
        refine gGoto X173 H at_119 (by decide) 123 rfl ?_
        refine gIstore X173 H at_123 (Ls' := #[vI p0, vI p1, vI p2, vI p3, vI 1, vR w_Database_POSTGRESQL, vI 10, vI 5, vI (((10 : Int32) + (p1 &&& (3 : Int32))) - (2 : Int32)), vI (((5 : Int32) + (p2 &&& (7 : Int32))) - (4 : Int32)), vI 1]) rfl 125 rfl ?_
        refine gAload X173 H at_125 rfl rfl 127 rfl ?_
        refine gIload X173 H at_127 rfl 129 rfl ?_
        refine gIload X173 H at_129 rfl 131 rfl ?_
        refine gVirt X173 H hZ hown (hw _ wd10) (hw _ wd11) (hw _ wd13) (hw _ wd12) (by decide) E_w_Database_POSTGRESQL (hw _ wd14) (hw _ wd2) (rm176_2 B p1 p2 hc174) e173 hml rfl pd1 rfl (W := 0) (argsL := [(.int (((10 : Int32) + (p1 &&& (3 : Int32))) - (2 : Int32))), (.int (((5 : Int32) + (p2 &&& (7 : Int32))) - (4 : Int32)))]) (rest := []) rfl rfl at_131 134 rfl ?_
        intro v177 T177 L177 hq177 X177
        obtain ⟨rfl, e177, rfl⟩ := hq177
        show Go _ _ _ _ (State.setTop _ (mkF _ 134 _ [(.int 1)]))
        refine gIload X177 H at_134 rfl 136 rfl ?_
        refine gCmpN X177 H at_136 (by decide) 139 rfl ?_
        refine gIconst X177 H at_139 (z := 1) rfl 140 rfl ?_
        refine gGoto X177 H at_140 (by decide) 144 rfl ?_
        exact gRetN X177 H hlk hret (t := .boolean) (by simp) at_144 e177 ⟨rfl, Fr.nil _⟩
      · by_cases hc178 : (((10 : Int32) + (p1 &&& (3 : Int32))) - (2 : Int32)) = (10 : Int32)
        · by_cases hc179 : (((5 : Int32) + (p2 &&& (7 : Int32))) - (4 : Int32)) < (5 : Int32)
          · refine gIfY X173 H at_115 ((if0 _ _).trans (tlt ((lw_lt _ _).mpr (key3 (lm := (10 : Int32)) (lo := (5 : Int32)) (by decide) hc178 hc179))).1) (by decide) 122 rfl ?_
            refine gIconst X173 H at_122 (z := 0) rfl 123 rfl ?_
            refine gIstore X173 H at_123 (Ls' := #[vI p0, vI p1, vI p2, vI p3, vI 1, vR w_Database_POSTGRESQL, vI 10, vI 5, vI (((10 : Int32) + (p1 &&& (3 : Int32))) - (2 : Int32)), vI (((5 : Int32) + (p2 &&& (7 : Int32))) - (4 : Int32)), vI 0]) rfl 125 rfl ?_
            refine gAload X173 H at_125 rfl rfl 127 rfl ?_
            refine gIload X173 H at_127 rfl 129 rfl ?_
            refine gIload X173 H at_129 rfl 131 rfl ?_
            refine gVirt X173 H hZ hown (hw _ wd10) (hw _ wd11) (hw _ wd13) (hw _ wd12) (by decide) E_w_Database_POSTGRESQL (hw _ wd14) (hw _ wd2) (rm183_2 B p1 p2 hc174 hc178 hc179) e173 hml rfl pd1 rfl (W := 0) (argsL := [(.int (((10 : Int32) + (p1 &&& (3 : Int32))) - (2 : Int32))), (.int (((5 : Int32) + (p2 &&& (7 : Int32))) - (4 : Int32)))]) (rest := []) rfl rfl at_131 134 rfl ?_
            intro v184 T184 L184 hq184 X184
            obtain ⟨rfl, e184, rfl⟩ := hq184
            show Go _ _ _ _ (State.setTop _ (mkF _ 134 _ [(.int 0)]))
            refine gIload X184 H at_134 rfl 136 rfl ?_
            refine gCmpN X184 H at_136 (by decide) 139 rfl ?_
            refine gIconst X184 H at_139 (z := 1) rfl 140 rfl ?_
            refine gGoto X184 H at_140 (by decide) 144 rfl ?_
            exact gRetN X184 H hlk hret (t := .boolean) (by simp) at_144 e184 ⟨rfl, Fr.nil _⟩
          · refine gIfN X173 H at_115 ((if0 _ _).trans (flt (fun q => (key4 (lm := (10 : Int32)) (lo := (5 : Int32)) (by decide) hc178 hc179) ((lw_lt _ _).mp q))).1) 118 rfl ?_
            refine gIconst X173 H at_118 (z := 1) rfl 119 rfl ?_
            refine gGoto X173 H at_119 (by decide) 123 rfl ?_
            refine gIstore X173 H at_123 (Ls' := #[vI p0, vI p1, vI p2, vI p3, vI 1, vR w_Database_POSTGRESQL, vI 10, vI 5, vI (((10 : Int32) + (p1 &&& (3 : Int32))) - (2 : Int32)), vI (((5 : Int32) + (p2 &&& (7 : Int32))) - (4 : Int32)), vI 1]) rfl 125 rfl ?_
            refine gAload X173 H at_125 rfl rfl 127 rfl ?_
            refine gIload X173 H at_127 rfl 129 rfl ?_
            refine gIload X173 H at_129 rfl 131 rfl ?_
            refine gVirt X173 H hZ hown (hw _ wd10) (hw _ wd11) (hw _ wd13) (hw _ wd12) (by decide) E_w_Database_POSTGRESQL (hw _ wd14) (hw _ wd2) (rm188_2 B p1 p2 hc174 hc178 hc179) e173 hml rfl pd1 rfl (W := 0) (argsL := [(.int (((10 : Int32) + (p1 &&& (3 : Int32))) - (2 : Int32))), (.int (((5 : Int32) + (p2 &&& (7 : Int32))) - (4 : Int32)))]) (rest := []) rfl rfl at_131 134 rfl ?_
            intro v189 T189 L189 hq189 X189
            obtain ⟨rfl, e189, rfl⟩ := hq189
            show Go _ _ _ _ (State.setTop _ (mkF _ 134 _ [(.int 1)]))
            refine gIload X189 H at_134 rfl 136 rfl ?_
            refine gCmpN X189 H at_136 (by decide) 139 rfl ?_
            refine gIconst X189 H at_139 (z := 1) rfl 140 rfl ?_
            refine gGoto X189 H at_140 (by decide) 144 rfl ?_
            exact gRetN X189 H hlk hret (t := .boolean) (by simp) at_144 e189 ⟨rfl, Fr.nil _⟩
        · refine gIfY X173 H at_115 ((if0 _ _).trans (tlt ((lw_lt _ _).mpr (key2 (lm := (10 : Int32)) (((5 : Int32) + (p2 &&& (7 : Int32))) - (4 : Int32)) (5 : Int32) (by decide) hc174 hc178))).1) (by decide) 122 rfl ?_
          refine gIconst X173 H at_122 (z := 0) rfl 123 rfl ?_
          refine gIstore X173 H at_123 (Ls' := #[vI p0, vI p1, vI p2, vI p3, vI 1, vR w_Database_POSTGRESQL, vI 10, vI 5, vI (((10 : Int32) + (p1 &&& (3 : Int32))) - (2 : Int32)), vI (((5 : Int32) + (p2 &&& (7 : Int32))) - (4 : Int32)), vI 0]) rfl 125 rfl ?_
          refine gAload X173 H at_125 rfl rfl 127 rfl ?_
          refine gIload X173 H at_127 rfl 129 rfl ?_
          refine gIload X173 H at_129 rfl 131 rfl ?_
          refine gVirt X173 H hZ hown (hw _ wd10) (hw _ wd11) (hw _ wd13) (hw _ wd12) (by decide) E_w_Database_POSTGRESQL (hw _ wd14) (hw _ wd2) (rm192_2 B p1 p2 hc174 hc178) e173 hml rfl pd1 rfl (W := 0) (argsL := [(.int (((10 : Int32) + (p1 &&& (3 : Int32))) - (2 : Int32))), (.int (((5 : Int32) + (p2 &&& (7 : Int32))) - (4 : Int32)))]) (rest := []) rfl rfl at_131 134 rfl ?_
          intro v193 T193 L193 hq193 X193
          obtain ⟨rfl, e193, rfl⟩ := hq193
          show Go _ _ _ _ (State.setTop _ (mkF _ 134 _ [(.int 0)]))
          refine gIload X193 H at_134 rfl 136 rfl ?_
          refine gCmpN X193 H at_136 (by decide) 139 rfl ?_
          refine gIconst X193 H at_139 (z := 1) rfl 140 rfl ?_
          refine gGoto X193 H at_140 (by decide) 144 rfl ?_
          exact gRetN X193 H hlk hret (t := .boolean) (by simp) at_144 e193 ⟨rfl, Fr.nil _⟩
theorem rm198_1 (B : Bg Z a0 w_Database_H2 w_Database_POSTGRESQL w_Database_MARIADB) :
    Con l Z (⟨"com/example/unfussy_repo/unfussyrepo/jdbc/DatabaseTakesSqlPinLaw", "key", "(II)J"⟩ : MethodName) method_2_code 2 (some .long) ({ frames := 0, cells := 0, slots := 0, locals := 0 } : Room) #[(.int 10), (.int 6)] Z.heap (fun v h' L => v = some (.long 45097156614) ∧ h' = Z.heap ∧ L = []) := by
  have hw := B.1
  refine Con.of (plainFor_of_name pn1) (Ls := #[vI 10, vI 6]) (fun m => by first | rfl | (simp [entryFrame, mkF, argsToLocals, Value.category]; done)) ?_
  intro p e s m below meth c T0 X0 H hml hZ hown hnm hret hlk e0
  refine gIloadN X0 H d1_0 rfl 1 rfl ?_
  refine g_i2l X0 H d1_1 (z := 10) (by decide) 2 rfl ?_
  refine gLdc2 X0 H hZ hown (hw _ wd8) d1_2 5 rfl ?_
  refine g_lmul X0 H d1_5 (z := 42949672960) (by decide) 6 rfl ?_
  refine gIloadN X0 H d1_6 rfl 7 rfl ?_
  refine g_i2l X0 H d1_7 (z := 6) (by decide) 8 rfl ?_
  refine gLdc2 X0 H hZ hown (hw _ wd9) d1_8 11 rfl ?_
  refine g_ladd X0 H d1_11 (z := 2147483654) (by decide) 12 rfl ?_
  refine g_ladd X0 H d1_12 (z := 45097156614) (by decide) 13 rfl ?_
  exact gRetL X0 H hlk hret d1_13 e0 ⟨rfl, rfl, rfl⟩
theorem rm202_2 (B : Bg Z a0 w_Database_H2 w_Database_POSTGRESQL w_Database_MARIADB) (p1 : Int32) (p2 : Int32) (hk2 : (10 : Int32) < p1) :
    Con l Z (⟨"com/example/unfussy_repo/unfussyrepo/jdbc/Database", "takesSql", "(II)Z"⟩ : MethodName) prog_13_method_6_code 3 (some .boolean) ({ frames := 0, cells := 0, slots := 0, locals := 0 } : Room) #[(.ref w_Database_MARIADB), (.int p1), (.int p2)] Z.heap (fun v h' L => v = some (.int 1) ∧ h' = Z.heap ∧ L = []) := by
  have hw := B.1
  obtain ⟨S_w_Database_H2, E_w_Database_H2, S_w_Database_POSTGRESQL, E_w_Database_POSTGRESQL, S_w_Database_MARIADB, E_w_Database_MARIADB, F_w_Database_H2_lowestMajor, F_w_Database_POSTGRESQL_lowestMajor, F_w_Database_MARIADB_lowestMajor, F_w_Database_MARIADB_lowestMinor, F_w_Database_H2_lowestMinor, F_w_Database_POSTGRESQL_lowestMinor⟩ := B.2
  refine Con.of (plainFor_of_name pn2) (Ls := #[vR w_Database_MARIADB, vI p1, vI p2]) (fun m => by first | rfl | (simp [entryFrame, mkF, argsToLocals, Value.category]; done)) ?_
  intro p e s m below meth c T0 X0 H hml hZ hown hnm hret hlk e0
  refine gIloadN X0 H d2_0 rfl 1 rfl ?_
  refine gAloadN X0 H d2_1 rfl rfl 2 rfl ?_
  refine gGetF X0 H hZ hown (hw _ wd15) Via.refl e0 F_w_Database_MARIADB_lowestMajor d2_2 5 rfl ?_
  intro T201 X201 e201
  refine gCmpY X201 H d2_5 (tlt hk2).2.2.1 (by decide) 24 rfl ?_
  refine gIconst X201 H d2_24 (z := 1) rfl 25 rfl ?_
  refine gGoto X201 H d2_25 (by decide) 29 rfl ?_
  exact gRetN X201 H hlk hret (t := .boolean) (by simp) d2_29 e201 ⟨rfl, rfl, rfl⟩
theorem rm209_2 (B : Bg Z a0 w_Database_H2 w_Database_POSTGRESQL w_Database_MARIADB) (p1 : Int32) (p2 : Int32) (hk2 : ¬ ((10 : Int32) < p1)) (hk3 : p1 = (10 : Int32)) (hk4 : p2 < (6 : Int32)) :
    Con l Z (⟨"com/example/unfussy_repo/unfussyrepo/jdbc/Database", "takesSql", "(II)Z"⟩ : MethodName) prog_13_method_6_code 3 (some .boolean) ({ frames := 0, cells := 0, slots := 0, locals := 0 } : Room) #[(.ref w_Database_MARIADB), (.int p1), (.int p2)] Z.heap (fun v h' L => v = some (.int 0) ∧ h' = Z.heap ∧ L = []) := by
  have hw := B.1
  obtain ⟨S_w_Database_H2, E_w_Database_H2, S_w_Database_POSTGRESQL, E_w_Database_POSTGRESQL, S_w_Database_MARIADB, E_w_Database_MARIADB, F_w_Database_H2_lowestMajor, F_w_Database_POSTGRESQL_lowestMajor, F_w_Database_MARIADB_lowestMajor, F_w_Database_MARIADB_lowestMinor, F_w_Database_H2_lowestMinor, F_w_Database_POSTGRESQL_lowestMinor⟩ := B.2
  refine Con.of (plainFor_of_name pn2) (Ls := #[vR w_Database_MARIADB, vI p1, vI p2]) (fun m => by first | rfl | (simp [entryFrame, mkF, argsToLocals, Value.category]; done)) ?_
  intro p e s m below meth c T0 X0 H hml hZ hown hnm hret hlk e0
  refine gIloadN X0 H d2_0 rfl 1 rfl ?_
  refine gAloadN X0 H d2_1 rfl rfl 2 rfl ?_
  refine gGetF X0 H hZ hown (hw _ wd15) Via.refl e0 F_w_Database_MARIADB_lowestMajor d2_2 5 rfl ?_
  intro T206 X206 e206
  refine gCmpN X206 H d2_5 (flt hk2).2.2.1 8 rfl ?_
  refine gIloadN X206 H d2_8 rfl 9 rfl ?_
  refine gAloadN X206 H d2_9 rfl rfl 10 rfl ?_
  refine gGetF X206 H hZ hown (hw _ wd15) Via.refl e206 F_w_Database_MARIADB_lowestMajor d2_10 13 rfl ?_
  intro T207 X207 e207
  refine gCmpN X207 H d2_13 (teq hk3).2 16 rfl ?_
  refine gIloadN X207 H d2_16 rfl 17 rfl ?_
  refine gAloadN X207 H d2_17 rfl rfl 18 rfl ?_
  refine gGetF X207 H hZ hown (hw _ wd21) Via.refl e207 F_w_Database_MARIADB_lowestMinor d2_18 21 rfl ?_
  intro T208 X208 e208
  refine gCmpY X208 H d2_21 (tlt hk4).1 (by decide) 28 rfl ?_
  refine gIconst X208 H d2_28 (z := 0) rfl 29 rfl ?_
  exact gRetN X208 H hlk hret (t := .boolean) (by simp) d2_29 e208 ⟨rfl, rfl, rfl⟩
theorem rm214_2 (B : Bg Z a0 w_Database_H2 w_Database_POSTGRESQL w_Database_MARIADB) (p1 : Int32) (p2 : Int32) (hk2 : ¬ ((10 : Int32) < p1)) (hk3 : p1 = (10 : Int32)) (hk4 : ¬ (p2 < (6 : Int32))) :
    Con l Z (⟨"com/example/unfussy_repo/unfussyrepo/jdbc/Database", "takesSql", "(II)Z"⟩ : MethodName) prog_13_method_6_code 3 (some .boolean) ({ frames := 0, cells := 0, slots := 0, locals := 0 } : Room) #[(.ref w_Database_MARIADB), (.int p1), (.int p2)] Z.heap (fun v h' L => v = some (.int 1) ∧ h' = Z.heap ∧ L = []) := by
  have hw := B.1
  obtain ⟨S_w_Database_H2, E_w_Database_H2, S_w_Database_POSTGRESQL, E_w_Database_POSTGRESQL, S_w_Database_MARIADB, E_w_Database_MARIADB, F_w_Database_H2_lowestMajor, F_w_Database_POSTGRESQL_lowestMajor, F_w_Database_MARIADB_lowestMajor, F_w_Database_MARIADB_lowestMinor, F_w_Database_H2_lowestMinor, F_w_Database_POSTGRESQL_lowestMinor⟩ := B.2
  refine Con.of (plainFor_of_name pn2) (Ls := #[vR w_Database_MARIADB, vI p1, vI p2]) (fun m => by first | rfl | (simp [entryFrame, mkF, argsToLocals, Value.category]; done)) ?_
  intro p e s m below meth c T0 X0 H hml hZ hown hnm hret hlk e0
  refine gIloadN X0 H d2_0 rfl 1 rfl ?_
  refine gAloadN X0 H d2_1 rfl rfl 2 rfl ?_
  refine gGetF X0 H hZ hown (hw _ wd15) Via.refl e0 F_w_Database_MARIADB_lowestMajor d2_2 5 rfl ?_
  intro T211 X211 e211
  refine gCmpN X211 H d2_5 (flt hk2).2.2.1 8 rfl ?_
  refine gIloadN X211 H d2_8 rfl 9 rfl ?_
  refine gAloadN X211 H d2_9 rfl rfl 10 rfl ?_
  refine gGetF X211 H hZ hown (hw _ wd15) Via.refl e211 F_w_Database_MARIADB_lowestMajor d2_10 13 rfl ?_
  intro T212 X212 e212
  refine gCmpN X212 H d2_13 (teq hk3).2 16 rfl ?_
  refine gIloadN X212 H d2_16 rfl 17 rfl ?_
  refine gAloadN X212 H d2_17 rfl rfl 18 rfl ?_
  refine gGetF X212 H hZ hown (hw _ wd21) Via.refl e212 F_w_Database_MARIADB_lowestMinor d2_18 21 rfl ?_
  intro T213 X213 e213
  refine gCmpN X213 H d2_21 (flt hk4).1 24 rfl ?_
  refine gIconst X213 H d2_24 (z := 1) rfl 25 rfl ?_
  refine gGoto X213 H d2_25 (by decide) 29 rfl ?_
  exact gRetN X213 H hlk hret (t := .boolean) (by simp) d2_29 e213 ⟨rfl, rfl, rfl⟩
theorem rm218_2 (B : Bg Z a0 w_Database_H2 w_Database_POSTGRESQL w_Database_MARIADB) (p1 : Int32) (p2 : Int32) (hk2 : ¬ ((10 : Int32) < p1)) (hk3 : ¬ (p1 = (10 : Int32))) :
    Con l Z (⟨"com/example/unfussy_repo/unfussyrepo/jdbc/Database", "takesSql", "(II)Z"⟩ : MethodName) prog_13_method_6_code 3 (some .boolean) ({ frames := 0, cells := 0, slots := 0, locals := 0 } : Room) #[(.ref w_Database_MARIADB), (.int p1), (.int p2)] Z.heap (fun v h' L => v = some (.int 0) ∧ h' = Z.heap ∧ L = []) := by
  have hw := B.1
  obtain ⟨S_w_Database_H2, E_w_Database_H2, S_w_Database_POSTGRESQL, E_w_Database_POSTGRESQL, S_w_Database_MARIADB, E_w_Database_MARIADB, F_w_Database_H2_lowestMajor, F_w_Database_POSTGRESQL_lowestMajor, F_w_Database_MARIADB_lowestMajor, F_w_Database_MARIADB_lowestMinor, F_w_Database_H2_lowestMinor, F_w_Database_POSTGRESQL_lowestMinor⟩ := B.2
  refine Con.of (plainFor_of_name pn2) (Ls := #[vR w_Database_MARIADB, vI p1, vI p2]) (fun m => by first | rfl | (simp [entryFrame, mkF, argsToLocals, Value.category]; done)) ?_
  intro p e s m below meth c T0 X0 H hml hZ hown hnm hret hlk e0
  refine gIloadN X0 H d2_0 rfl 1 rfl ?_
  refine gAloadN X0 H d2_1 rfl rfl 2 rfl ?_
  refine gGetF X0 H hZ hown (hw _ wd15) Via.refl e0 F_w_Database_MARIADB_lowestMajor d2_2 5 rfl ?_
  intro T216 X216 e216
  refine gCmpN X216 H d2_5 (flt hk2).2.2.1 8 rfl ?_
  refine gIloadN X216 H d2_8 rfl 9 rfl ?_
  refine gAloadN X216 H d2_9 rfl rfl 10 rfl ?_
  refine gGetF X216 H hZ hown (hw _ wd15) Via.refl e216 F_w_Database_MARIADB_lowestMajor d2_10 13 rfl ?_
  intro T217 X217 e217
  refine gCmpY X217 H d2_13 (feq hk3).2 (by decide) 28 rfl ?_
  refine gIconst X217 H d2_28 (z := 0) rfl 29 rfl ?_
  exact gRetN X217 H hlk hret (t := .boolean) (by simp) d2_29 e217 ⟨rfl, rfl, rfl⟩
theorem rm220_1 (B : Bg Z a0 w_Database_H2 w_Database_POSTGRESQL w_Database_MARIADB) (p1 : Int32) (p2 : Int32) :
    Con l Z (⟨"com/example/unfussy_repo/unfussyrepo/jdbc/DatabaseTakesSqlPinLaw", "key", "(II)J"⟩ : MethodName) method_2_code 2 (some .long) ({ frames := 0, cells := 0, slots := 0, locals := 0 } : Room) #[(.int p1), (.int (((6 : Int32) + (p2 &&& (7 : Int32))) - (4 : Int32)))] Z.heap (fun v h' L => v = some (.long (((p1.toInt64) * (4294967296 : Int64)) + (((((6 : Int32) + (p2 &&& (7 : Int32))) - (4 : Int32)).toInt64) + (2147483648 : Int64)))) ∧ h' = Z.heap ∧ L = []) := by
  have hw := B.1
  refine Con.of (plainFor_of_name pn1) (Ls := #[vI p1, vI (((6 : Int32) + (p2 &&& (7 : Int32))) - (4 : Int32))]) (fun m => by first | rfl | (simp [entryFrame, mkF, argsToLocals, Value.category]; done)) ?_
  intro p e s m below meth c T0 X0 H hml hZ hown hnm hret hlk e0
  refine gIloadN X0 H d1_0 rfl 1 rfl ?_
  refine g_i2l X0 H d1_1 (z := (p1.toInt64)) rfl 2 rfl ?_
  refine gLdc2 X0 H hZ hown (hw _ wd8) d1_2 5 rfl ?_
  refine g_lmul X0 H d1_5 (z := ((p1.toInt64) * (4294967296 : Int64))) rfl 6 rfl ?_
  refine gIloadN X0 H d1_6 rfl 7 rfl ?_
  refine g_i2l X0 H d1_7 (z := ((((6 : Int32) + (p2 &&& (7 : Int32))) - (4 : Int32)).toInt64)) rfl 8 rfl ?_
  refine gLdc2 X0 H hZ hown (hw _ wd9) d1_8 11 rfl ?_
  refine g_ladd X0 H d1_11 (z := (((((6 : Int32) + (p2 &&& (7 : Int32))) - (4 : Int32)).toInt64) + (2147483648 : Int64))) rfl 12 rfl ?_
  refine g_ladd X0 H d1_12 (z := (((p1.toInt64) * (4294967296 : Int64)) + (((((6 : Int32) + (p2 &&& (7 : Int32))) - (4 : Int32)).toInt64) + (2147483648 : Int64)))) rfl 13 rfl ?_
  exact gRetL X0 H hlk hret d1_13 e0 ⟨rfl, rfl, rfl⟩
theorem rm225_2 (B : Bg Z a0 w_Database_H2 w_Database_POSTGRESQL w_Database_MARIADB) (p1 : Int32) (p2 : Int32) (hk2 : (10 : Int32) < p1) :
    Con l Z (⟨"com/example/unfussy_repo/unfussyrepo/jdbc/Database", "takesSql", "(II)Z"⟩ : MethodName) prog_13_method_6_code 3 (some .boolean) ({ frames := 0, cells := 0, slots := 0, locals := 0 } : Room) #[(.ref w_Database_MARIADB), (.int p1), (.int (((6 : Int32) + (p2 &&& (7 : Int32))) - (4 : Int32)))] Z.heap (fun v h' L => v = some (.int 1) ∧ h' = Z.heap ∧ L = []) := by
  have hw := B.1
  obtain ⟨S_w_Database_H2, E_w_Database_H2, S_w_Database_POSTGRESQL, E_w_Database_POSTGRESQL, S_w_Database_MARIADB, E_w_Database_MARIADB, F_w_Database_H2_lowestMajor, F_w_Database_POSTGRESQL_lowestMajor, F_w_Database_MARIADB_lowestMajor, F_w_Database_MARIADB_lowestMinor, F_w_Database_H2_lowestMinor, F_w_Database_POSTGRESQL_lowestMinor⟩ := B.2
  refine Con.of (plainFor_of_name pn2) (Ls := #[vR w_Database_MARIADB, vI p1, vI (((6 : Int32) + (p2 &&& (7 : Int32))) - (4 : Int32))]) (fun m => by first | rfl | (simp [entryFrame, mkF, argsToLocals, Value.category]; done)) ?_
  intro p e s m below meth c T0 X0 H hml hZ hown hnm hret hlk e0
  refine gIloadN X0 H d2_0 rfl 1 rfl ?_
  refine gAloadN X0 H d2_1 rfl rfl 2 rfl ?_
  refine gGetF X0 H hZ hown (hw _ wd15) Via.refl e0 F_w_Database_MARIADB_lowestMajor d2_2 5 rfl ?_
  intro T224 X224 e224
  refine gCmpY X224 H d2_5 (tlt hk2).2.2.1 (by decide) 24 rfl ?_
  refine gIconst X224 H d2_24 (z := 1) rfl 25 rfl ?_
  refine gGoto X224 H d2_25 (by decide) 29 rfl ?_
  exact gRetN X224 H hlk hret (t := .boolean) (by simp) d2_29 e224 ⟨rfl, rfl, rfl⟩
theorem rm232_2 (B : Bg Z a0 w_Database_H2 w_Database_POSTGRESQL w_Database_MARIADB) (p1 : Int32) (p2 : Int32) (hk2 : ¬ ((10 : Int32) < p1)) (hk3 : p1 = (10 : Int32)) (hk4 : (((6 : Int32) + (p2 &&& (7 : Int32))) - (4 : Int32)) < (6 : Int32)) :
    Con l Z (⟨"com/example/unfussy_repo/unfussyrepo/jdbc/Database", "takesSql", "(II)Z"⟩ : MethodName) prog_13_method_6_code 3 (some .boolean) ({ frames := 0, cells := 0, slots := 0, locals := 0 } : Room) #[(.ref w_Database_MARIADB), (.int p1), (.int (((6 : Int32) + (p2 &&& (7 : Int32))) - (4 : Int32)))] Z.heap (fun v h' L => v = some (.int 0) ∧ h' = Z.heap ∧ L = []) := by
  have hw := B.1
  obtain ⟨S_w_Database_H2, E_w_Database_H2, S_w_Database_POSTGRESQL, E_w_Database_POSTGRESQL, S_w_Database_MARIADB, E_w_Database_MARIADB, F_w_Database_H2_lowestMajor, F_w_Database_POSTGRESQL_lowestMajor, F_w_Database_MARIADB_lowestMajor, F_w_Database_MARIADB_lowestMinor, F_w_Database_H2_lowestMinor, F_w_Database_POSTGRESQL_lowestMinor⟩ := B.2
  refine Con.of (plainFor_of_name pn2) (Ls := #[vR w_Database_MARIADB, vI p1, vI (((6 : Int32) + (p2 &&& (7 : Int32))) - (4 : Int32))]) (fun m => by first | rfl | (simp [entryFrame, mkF, argsToLocals, Value.category]; done)) ?_
  intro p e s m below meth c T0 X0 H hml hZ hown hnm hret hlk e0
  refine gIloadN X0 H d2_0 rfl 1 rfl ?_
  refine gAloadN X0 H d2_1 rfl rfl 2 rfl ?_
  refine gGetF X0 H hZ hown (hw _ wd15) Via.refl e0 F_w_Database_MARIADB_lowestMajor d2_2 5 rfl ?_
  intro T229 X229 e229
  refine gCmpN X229 H d2_5 (flt hk2).2.2.1 8 rfl ?_
  refine gIloadN X229 H d2_8 rfl 9 rfl ?_
  refine gAloadN X229 H d2_9 rfl rfl 10 rfl ?_
  refine gGetF X229 H hZ hown (hw _ wd15) Via.refl e229 F_w_Database_MARIADB_lowestMajor d2_10 13 rfl ?_
  intro T230 X230 e230
  refine gCmpN X230 H d2_13 (teq hk3).2 16 rfl ?_
  refine gIloadN X230 H d2_16 rfl 17 rfl ?_
  refine gAloadN X230 H d2_17 rfl rfl 18 rfl ?_
  refine gGetF X230 H hZ hown (hw _ wd21) Via.refl e230 F_w_Database_MARIADB_lowestMinor d2_18 21 rfl ?_
  intro T231 X231 e231
  refine gCmpY X231 H d2_21 (tlt hk4).1 (by decide) 28 rfl ?_
  refine gIconst X231 H d2_28 (z := 0) rfl 29 rfl ?_
  exact gRetN X231 H hlk hret (t := .boolean) (by simp) d2_29 e231 ⟨rfl, rfl, rfl⟩
theorem rm237_2 (B : Bg Z a0 w_Database_H2 w_Database_POSTGRESQL w_Database_MARIADB) (p1 : Int32) (p2 : Int32) (hk2 : ¬ ((10 : Int32) < p1)) (hk3 : p1 = (10 : Int32)) (hk4 : ¬ ((((6 : Int32) + (p2 &&& (7 : Int32))) - (4 : Int32)) < (6 : Int32))) :
    Con l Z (⟨"com/example/unfussy_repo/unfussyrepo/jdbc/Database", "takesSql", "(II)Z"⟩ : MethodName) prog_13_method_6_code 3 (some .boolean) ({ frames := 0, cells := 0, slots := 0, locals := 0 } : Room) #[(.ref w_Database_MARIADB), (.int p1), (.int (((6 : Int32) + (p2 &&& (7 : Int32))) - (4 : Int32)))] Z.heap (fun v h' L => v = some (.int 1) ∧ h' = Z.heap ∧ L = []) := by
  have hw := B.1
  obtain ⟨S_w_Database_H2, E_w_Database_H2, S_w_Database_POSTGRESQL, E_w_Database_POSTGRESQL, S_w_Database_MARIADB, E_w_Database_MARIADB, F_w_Database_H2_lowestMajor, F_w_Database_POSTGRESQL_lowestMajor, F_w_Database_MARIADB_lowestMajor, F_w_Database_MARIADB_lowestMinor, F_w_Database_H2_lowestMinor, F_w_Database_POSTGRESQL_lowestMinor⟩ := B.2
  refine Con.of (plainFor_of_name pn2) (Ls := #[vR w_Database_MARIADB, vI p1, vI (((6 : Int32) + (p2 &&& (7 : Int32))) - (4 : Int32))]) (fun m => by first | rfl | (simp [entryFrame, mkF, argsToLocals, Value.category]; done)) ?_
  intro p e s m below meth c T0 X0 H hml hZ hown hnm hret hlk e0
  refine gIloadN X0 H d2_0 rfl 1 rfl ?_
  refine gAloadN X0 H d2_1 rfl rfl 2 rfl ?_
  refine gGetF X0 H hZ hown (hw _ wd15) Via.refl e0 F_w_Database_MARIADB_lowestMajor d2_2 5 rfl ?_
  intro T234 X234 e234
  refine gCmpN X234 H d2_5 (flt hk2).2.2.1 8 rfl ?_
  refine gIloadN X234 H d2_8 rfl 9 rfl ?_
  refine gAloadN X234 H d2_9 rfl rfl 10 rfl ?_
  refine gGetF X234 H hZ hown (hw _ wd15) Via.refl e234 F_w_Database_MARIADB_lowestMajor d2_10 13 rfl ?_
  intro T235 X235 e235
  refine gCmpN X235 H d2_13 (teq hk3).2 16 rfl ?_
  refine gIloadN X235 H d2_16 rfl 17 rfl ?_
  refine gAloadN X235 H d2_17 rfl rfl 18 rfl ?_
  refine gGetF X235 H hZ hown (hw _ wd21) Via.refl e235 F_w_Database_MARIADB_lowestMinor d2_18 21 rfl ?_
  intro T236 X236 e236
  refine gCmpN X236 H d2_21 (flt hk4).1 24 rfl ?_
  refine gIconst X236 H d2_24 (z := 1) rfl 25 rfl ?_
  refine gGoto X236 H d2_25 (by decide) 29 rfl ?_
  exact gRetN X236 H hlk hret (t := .boolean) (by simp) d2_29 e236 ⟨rfl, rfl, rfl⟩
theorem rm241_2 (B : Bg Z a0 w_Database_H2 w_Database_POSTGRESQL w_Database_MARIADB) (p1 : Int32) (p2 : Int32) (hk2 : ¬ ((10 : Int32) < p1)) (hk3 : ¬ (p1 = (10 : Int32))) :
    Con l Z (⟨"com/example/unfussy_repo/unfussyrepo/jdbc/Database", "takesSql", "(II)Z"⟩ : MethodName) prog_13_method_6_code 3 (some .boolean) ({ frames := 0, cells := 0, slots := 0, locals := 0 } : Room) #[(.ref w_Database_MARIADB), (.int p1), (.int (((6 : Int32) + (p2 &&& (7 : Int32))) - (4 : Int32)))] Z.heap (fun v h' L => v = some (.int 0) ∧ h' = Z.heap ∧ L = []) := by
  have hw := B.1
  obtain ⟨S_w_Database_H2, E_w_Database_H2, S_w_Database_POSTGRESQL, E_w_Database_POSTGRESQL, S_w_Database_MARIADB, E_w_Database_MARIADB, F_w_Database_H2_lowestMajor, F_w_Database_POSTGRESQL_lowestMajor, F_w_Database_MARIADB_lowestMajor, F_w_Database_MARIADB_lowestMinor, F_w_Database_H2_lowestMinor, F_w_Database_POSTGRESQL_lowestMinor⟩ := B.2
  refine Con.of (plainFor_of_name pn2) (Ls := #[vR w_Database_MARIADB, vI p1, vI (((6 : Int32) + (p2 &&& (7 : Int32))) - (4 : Int32))]) (fun m => by first | rfl | (simp [entryFrame, mkF, argsToLocals, Value.category]; done)) ?_
  intro p e s m below meth c T0 X0 H hml hZ hown hnm hret hlk e0
  refine gIloadN X0 H d2_0 rfl 1 rfl ?_
  refine gAloadN X0 H d2_1 rfl rfl 2 rfl ?_
  refine gGetF X0 H hZ hown (hw _ wd15) Via.refl e0 F_w_Database_MARIADB_lowestMajor d2_2 5 rfl ?_
  intro T239 X239 e239
  refine gCmpN X239 H d2_5 (flt hk2).2.2.1 8 rfl ?_
  refine gIloadN X239 H d2_8 rfl 9 rfl ?_
  refine gAloadN X239 H d2_9 rfl rfl 10 rfl ?_
  refine gGetF X239 H hZ hown (hw _ wd15) Via.refl e239 F_w_Database_MARIADB_lowestMajor d2_10 13 rfl ?_
  intro T240 X240 e240
  refine gCmpY X240 H d2_13 (feq hk3).2 (by decide) 28 rfl ?_
  refine gIconst X240 H d2_28 (z := 0) rfl 29 rfl ?_
  exact gRetN X240 H hlk hret (t := .boolean) (by simp) d2_29 e240 ⟨rfl, rfl, rfl⟩
theorem rm248_2 (B : Bg Z a0 w_Database_H2 w_Database_POSTGRESQL w_Database_MARIADB) (p1 : Int32) (p2 : Int32) (hk2 : (10 : Int32) < (((10 : Int32) + (p1 &&& (3 : Int32))) - (2 : Int32))) :
    Con l Z (⟨"com/example/unfussy_repo/unfussyrepo/jdbc/Database", "takesSql", "(II)Z"⟩ : MethodName) prog_13_method_6_code 3 (some .boolean) ({ frames := 0, cells := 0, slots := 0, locals := 0 } : Room) #[(.ref w_Database_MARIADB), (.int (((10 : Int32) + (p1 &&& (3 : Int32))) - (2 : Int32))), (.int p2)] Z.heap (fun v h' L => v = some (.int 1) ∧ h' = Z.heap ∧ L = []) := by
  have hw := B.1
  obtain ⟨S_w_Database_H2, E_w_Database_H2, S_w_Database_POSTGRESQL, E_w_Database_POSTGRESQL, S_w_Database_MARIADB, E_w_Database_MARIADB, F_w_Database_H2_lowestMajor, F_w_Database_POSTGRESQL_lowestMajor, F_w_Database_MARIADB_lowestMajor, F_w_Database_MARIADB_lowestMinor, F_w_Database_H2_lowestMinor, F_w_Database_POSTGRESQL_lowestMinor⟩ := B.2
  refine Con.of (plainFor_of_name pn2) (Ls := #[vR w_Database_MARIADB, vI (((10 : Int32) + (p1 &&& (3 : Int32))) - (2 : Int32)), vI p2]) (fun m => by first | rfl | (simp [entryFrame, mkF, argsToLocals, Value.category]; done)) ?_
  intro p e s m below meth c T0 X0 H hml hZ hown hnm hret hlk e0
  refine gIloadN X0 H d2_0 rfl 1 rfl ?_
  refine gAloadN X0 H d2_1 rfl rfl 2 rfl ?_
  refine gGetF X0 H hZ hown (hw _ wd15) Via.refl e0 F_w_Database_MARIADB_lowestMajor d2_2 5 rfl ?_
  intro T247 X247 e247
  refine gCmpY X247 H d2_5 (tlt hk2).2.2.1 (by decide) 24 rfl ?_
  refine gIconst X247 H d2_24 (z := 1) rfl 25 rfl ?_
  refine gGoto X247 H d2_25 (by decide) 29 rfl ?_
  exact gRetN X247 H hlk hret (t := .boolean) (by simp) d2_29 e247 ⟨rfl, rfl, rfl⟩
theorem rm255_2 (B : Bg Z a0 w_Database_H2 w_Database_POSTGRESQL w_Database_MARIADB) (p1 : Int32) (p2 : Int32) (hk2 : ¬ ((10 : Int32) < (((10 : Int32) + (p1 &&& (3 : Int32))) - (2 : Int32)))) (hk3 : (((10 : Int32) + (p1 &&& (3 : Int32))) - (2 : Int32)) = (10 : Int32)) (hk4 : p2 < (6 : Int32)) :
    Con l Z (⟨"com/example/unfussy_repo/unfussyrepo/jdbc/Database", "takesSql", "(II)Z"⟩ : MethodName) prog_13_method_6_code 3 (some .boolean) ({ frames := 0, cells := 0, slots := 0, locals := 0 } : Room) #[(.ref w_Database_MARIADB), (.int (((10 : Int32) + (p1 &&& (3 : Int32))) - (2 : Int32))), (.int p2)] Z.heap (fun v h' L => v = some (.int 0) ∧ h' = Z.heap ∧ L = []) := by
  have hw := B.1
  obtain ⟨S_w_Database_H2, E_w_Database_H2, S_w_Database_POSTGRESQL, E_w_Database_POSTGRESQL, S_w_Database_MARIADB, E_w_Database_MARIADB, F_w_Database_H2_lowestMajor, F_w_Database_POSTGRESQL_lowestMajor, F_w_Database_MARIADB_lowestMajor, F_w_Database_MARIADB_lowestMinor, F_w_Database_H2_lowestMinor, F_w_Database_POSTGRESQL_lowestMinor⟩ := B.2
  refine Con.of (plainFor_of_name pn2) (Ls := #[vR w_Database_MARIADB, vI (((10 : Int32) + (p1 &&& (3 : Int32))) - (2 : Int32)), vI p2]) (fun m => by first | rfl | (simp [entryFrame, mkF, argsToLocals, Value.category]; done)) ?_
  intro p e s m below meth c T0 X0 H hml hZ hown hnm hret hlk e0
  refine gIloadN X0 H d2_0 rfl 1 rfl ?_
  refine gAloadN X0 H d2_1 rfl rfl 2 rfl ?_
  refine gGetF X0 H hZ hown (hw _ wd15) Via.refl e0 F_w_Database_MARIADB_lowestMajor d2_2 5 rfl ?_
  intro T252 X252 e252
  refine gCmpN X252 H d2_5 (flt hk2).2.2.1 8 rfl ?_
  refine gIloadN X252 H d2_8 rfl 9 rfl ?_
  refine gAloadN X252 H d2_9 rfl rfl 10 rfl ?_
  refine gGetF X252 H hZ hown (hw _ wd15) Via.refl e252 F_w_Database_MARIADB_lowestMajor d2_10 13 rfl ?_
  intro T253 X253 e253
  refine gCmpN X253 H d2_13 (teq hk3).2 16 rfl ?_
  refine gIloadN X253 H d2_16 rfl 17 rfl ?_
  refine gAloadN X253 H d2_17 rfl rfl 18 rfl ?_
  refine gGetF X253 H hZ hown (hw _ wd21) Via.refl e253 F_w_Database_MARIADB_lowestMinor d2_18 21 rfl ?_
  intro T254 X254 e254
  refine gCmpY X254 H d2_21 (tlt hk4).1 (by decide) 28 rfl ?_
  refine gIconst X254 H d2_28 (z := 0) rfl 29 rfl ?_
  exact gRetN X254 H hlk hret (t := .boolean) (by simp) d2_29 e254 ⟨rfl, rfl, rfl⟩
theorem rm260_2 (B : Bg Z a0 w_Database_H2 w_Database_POSTGRESQL w_Database_MARIADB) (p1 : Int32) (p2 : Int32) (hk2 : ¬ ((10 : Int32) < (((10 : Int32) + (p1 &&& (3 : Int32))) - (2 : Int32)))) (hk3 : (((10 : Int32) + (p1 &&& (3 : Int32))) - (2 : Int32)) = (10 : Int32)) (hk4 : ¬ (p2 < (6 : Int32))) :
    Con l Z (⟨"com/example/unfussy_repo/unfussyrepo/jdbc/Database", "takesSql", "(II)Z"⟩ : MethodName) prog_13_method_6_code 3 (some .boolean) ({ frames := 0, cells := 0, slots := 0, locals := 0 } : Room) #[(.ref w_Database_MARIADB), (.int (((10 : Int32) + (p1 &&& (3 : Int32))) - (2 : Int32))), (.int p2)] Z.heap (fun v h' L => v = some (.int 1) ∧ h' = Z.heap ∧ L = []) := by
  have hw := B.1
  obtain ⟨S_w_Database_H2, E_w_Database_H2, S_w_Database_POSTGRESQL, E_w_Database_POSTGRESQL, S_w_Database_MARIADB, E_w_Database_MARIADB, F_w_Database_H2_lowestMajor, F_w_Database_POSTGRESQL_lowestMajor, F_w_Database_MARIADB_lowestMajor, F_w_Database_MARIADB_lowestMinor, F_w_Database_H2_lowestMinor, F_w_Database_POSTGRESQL_lowestMinor⟩ := B.2
  refine Con.of (plainFor_of_name pn2) (Ls := #[vR w_Database_MARIADB, vI (((10 : Int32) + (p1 &&& (3 : Int32))) - (2 : Int32)), vI p2]) (fun m => by first | rfl | (simp [entryFrame, mkF, argsToLocals, Value.category]; done)) ?_
  intro p e s m below meth c T0 X0 H hml hZ hown hnm hret hlk e0
  refine gIloadN X0 H d2_0 rfl 1 rfl ?_
  refine gAloadN X0 H d2_1 rfl rfl 2 rfl ?_
  refine gGetF X0 H hZ hown (hw _ wd15) Via.refl e0 F_w_Database_MARIADB_lowestMajor d2_2 5 rfl ?_
  intro T257 X257 e257
  refine gCmpN X257 H d2_5 (flt hk2).2.2.1 8 rfl ?_
  refine gIloadN X257 H d2_8 rfl 9 rfl ?_
  refine gAloadN X257 H d2_9 rfl rfl 10 rfl ?_
  refine gGetF X257 H hZ hown (hw _ wd15) Via.refl e257 F_w_Database_MARIADB_lowestMajor d2_10 13 rfl ?_
  intro T258 X258 e258
  refine gCmpN X258 H d2_13 (teq hk3).2 16 rfl ?_
  refine gIloadN X258 H d2_16 rfl 17 rfl ?_
  refine gAloadN X258 H d2_17 rfl rfl 18 rfl ?_
  refine gGetF X258 H hZ hown (hw _ wd21) Via.refl e258 F_w_Database_MARIADB_lowestMinor d2_18 21 rfl ?_
  intro T259 X259 e259
  refine gCmpN X259 H d2_21 (flt hk4).1 24 rfl ?_
  refine gIconst X259 H d2_24 (z := 1) rfl 25 rfl ?_
  refine gGoto X259 H d2_25 (by decide) 29 rfl ?_
  exact gRetN X259 H hlk hret (t := .boolean) (by simp) d2_29 e259 ⟨rfl, rfl, rfl⟩
theorem rm264_2 (B : Bg Z a0 w_Database_H2 w_Database_POSTGRESQL w_Database_MARIADB) (p1 : Int32) (p2 : Int32) (hk2 : ¬ ((10 : Int32) < (((10 : Int32) + (p1 &&& (3 : Int32))) - (2 : Int32)))) (hk3 : ¬ ((((10 : Int32) + (p1 &&& (3 : Int32))) - (2 : Int32)) = (10 : Int32))) :
    Con l Z (⟨"com/example/unfussy_repo/unfussyrepo/jdbc/Database", "takesSql", "(II)Z"⟩ : MethodName) prog_13_method_6_code 3 (some .boolean) ({ frames := 0, cells := 0, slots := 0, locals := 0 } : Room) #[(.ref w_Database_MARIADB), (.int (((10 : Int32) + (p1 &&& (3 : Int32))) - (2 : Int32))), (.int p2)] Z.heap (fun v h' L => v = some (.int 0) ∧ h' = Z.heap ∧ L = []) := by
  have hw := B.1
  obtain ⟨S_w_Database_H2, E_w_Database_H2, S_w_Database_POSTGRESQL, E_w_Database_POSTGRESQL, S_w_Database_MARIADB, E_w_Database_MARIADB, F_w_Database_H2_lowestMajor, F_w_Database_POSTGRESQL_lowestMajor, F_w_Database_MARIADB_lowestMajor, F_w_Database_MARIADB_lowestMinor, F_w_Database_H2_lowestMinor, F_w_Database_POSTGRESQL_lowestMinor⟩ := B.2
  refine Con.of (plainFor_of_name pn2) (Ls := #[vR w_Database_MARIADB, vI (((10 : Int32) + (p1 &&& (3 : Int32))) - (2 : Int32)), vI p2]) (fun m => by first | rfl | (simp [entryFrame, mkF, argsToLocals, Value.category]; done)) ?_
  intro p e s m below meth c T0 X0 H hml hZ hown hnm hret hlk e0
  refine gIloadN X0 H d2_0 rfl 1 rfl ?_
  refine gAloadN X0 H d2_1 rfl rfl 2 rfl ?_
  refine gGetF X0 H hZ hown (hw _ wd15) Via.refl e0 F_w_Database_MARIADB_lowestMajor d2_2 5 rfl ?_
  intro T262 X262 e262
  refine gCmpN X262 H d2_5 (flt hk2).2.2.1 8 rfl ?_
  refine gIloadN X262 H d2_8 rfl 9 rfl ?_
  refine gAloadN X262 H d2_9 rfl rfl 10 rfl ?_
  refine gGetF X262 H hZ hown (hw _ wd15) Via.refl e262 F_w_Database_MARIADB_lowestMajor d2_10 13 rfl ?_
  intro T263 X263 e263
  refine gCmpY X263 H d2_13 (feq hk3).2 (by decide) 28 rfl ?_
  refine gIconst X263 H d2_28 (z := 0) rfl 29 rfl ?_
  exact gRetN X263 H hlk hret (t := .boolean) (by simp) d2_29 e263 ⟨rfl, rfl, rfl⟩
theorem rm266_1 (B : Bg Z a0 w_Database_H2 w_Database_POSTGRESQL w_Database_MARIADB) (p1 : Int32) (p2 : Int32) :
    Con l Z (⟨"com/example/unfussy_repo/unfussyrepo/jdbc/DatabaseTakesSqlPinLaw", "key", "(II)J"⟩ : MethodName) method_2_code 2 (some .long) ({ frames := 0, cells := 0, slots := 0, locals := 0 } : Room) #[(.int (((10 : Int32) + (p1 &&& (3 : Int32))) - (2 : Int32))), (.int (((6 : Int32) + (p2 &&& (7 : Int32))) - (4 : Int32)))] Z.heap (fun v h' L => v = some (.long ((((((10 : Int32) + (p1 &&& (3 : Int32))) - (2 : Int32)).toInt64) * (4294967296 : Int64)) + (((((6 : Int32) + (p2 &&& (7 : Int32))) - (4 : Int32)).toInt64) + (2147483648 : Int64)))) ∧ h' = Z.heap ∧ L = []) := by
  have hw := B.1
  refine Con.of (plainFor_of_name pn1) (Ls := #[vI (((10 : Int32) + (p1 &&& (3 : Int32))) - (2 : Int32)), vI (((6 : Int32) + (p2 &&& (7 : Int32))) - (4 : Int32))]) (fun m => by first | rfl | (simp [entryFrame, mkF, argsToLocals, Value.category]; done)) ?_
  intro p e s m below meth c T0 X0 H hml hZ hown hnm hret hlk e0
  refine gIloadN X0 H d1_0 rfl 1 rfl ?_
  refine g_i2l X0 H d1_1 (z := ((((10 : Int32) + (p1 &&& (3 : Int32))) - (2 : Int32)).toInt64)) rfl 2 rfl ?_
  refine gLdc2 X0 H hZ hown (hw _ wd8) d1_2 5 rfl ?_
  refine g_lmul X0 H d1_5 (z := (((((10 : Int32) + (p1 &&& (3 : Int32))) - (2 : Int32)).toInt64) * (4294967296 : Int64))) rfl 6 rfl ?_
  refine gIloadN X0 H d1_6 rfl 7 rfl ?_
  refine g_i2l X0 H d1_7 (z := ((((6 : Int32) + (p2 &&& (7 : Int32))) - (4 : Int32)).toInt64)) rfl 8 rfl ?_
  refine gLdc2 X0 H hZ hown (hw _ wd9) d1_8 11 rfl ?_
  refine g_ladd X0 H d1_11 (z := (((((6 : Int32) + (p2 &&& (7 : Int32))) - (4 : Int32)).toInt64) + (2147483648 : Int64))) rfl 12 rfl ?_
  refine g_ladd X0 H d1_12 (z := ((((((10 : Int32) + (p1 &&& (3 : Int32))) - (2 : Int32)).toInt64) * (4294967296 : Int64)) + (((((6 : Int32) + (p2 &&& (7 : Int32))) - (4 : Int32)).toInt64) + (2147483648 : Int64)))) rfl 13 rfl ?_
  exact gRetL X0 H hlk hret d1_13 e0 ⟨rfl, rfl, rfl⟩
theorem rm271_2 (B : Bg Z a0 w_Database_H2 w_Database_POSTGRESQL w_Database_MARIADB) (p1 : Int32) (p2 : Int32) (hk2 : (10 : Int32) < (((10 : Int32) + (p1 &&& (3 : Int32))) - (2 : Int32))) :
    Con l Z (⟨"com/example/unfussy_repo/unfussyrepo/jdbc/Database", "takesSql", "(II)Z"⟩ : MethodName) prog_13_method_6_code 3 (some .boolean) ({ frames := 0, cells := 0, slots := 0, locals := 0 } : Room) #[(.ref w_Database_MARIADB), (.int (((10 : Int32) + (p1 &&& (3 : Int32))) - (2 : Int32))), (.int (((6 : Int32) + (p2 &&& (7 : Int32))) - (4 : Int32)))] Z.heap (fun v h' L => v = some (.int 1) ∧ h' = Z.heap ∧ L = []) := by
  have hw := B.1
  obtain ⟨S_w_Database_H2, E_w_Database_H2, S_w_Database_POSTGRESQL, E_w_Database_POSTGRESQL, S_w_Database_MARIADB, E_w_Database_MARIADB, F_w_Database_H2_lowestMajor, F_w_Database_POSTGRESQL_lowestMajor, F_w_Database_MARIADB_lowestMajor, F_w_Database_MARIADB_lowestMinor, F_w_Database_H2_lowestMinor, F_w_Database_POSTGRESQL_lowestMinor⟩ := B.2
  refine Con.of (plainFor_of_name pn2) (Ls := #[vR w_Database_MARIADB, vI (((10 : Int32) + (p1 &&& (3 : Int32))) - (2 : Int32)), vI (((6 : Int32) + (p2 &&& (7 : Int32))) - (4 : Int32))]) (fun m => by first | rfl | (simp [entryFrame, mkF, argsToLocals, Value.category]; done)) ?_
  intro p e s m below meth c T0 X0 H hml hZ hown hnm hret hlk e0
  refine gIloadN X0 H d2_0 rfl 1 rfl ?_
  refine gAloadN X0 H d2_1 rfl rfl 2 rfl ?_
  refine gGetF X0 H hZ hown (hw _ wd15) Via.refl e0 F_w_Database_MARIADB_lowestMajor d2_2 5 rfl ?_
  intro T270 X270 e270
  refine gCmpY X270 H d2_5 (tlt hk2).2.2.1 (by decide) 24 rfl ?_
  refine gIconst X270 H d2_24 (z := 1) rfl 25 rfl ?_
  refine gGoto X270 H d2_25 (by decide) 29 rfl ?_
  exact gRetN X270 H hlk hret (t := .boolean) (by simp) d2_29 e270 ⟨rfl, rfl, rfl⟩
theorem rm278_2 (B : Bg Z a0 w_Database_H2 w_Database_POSTGRESQL w_Database_MARIADB) (p1 : Int32) (p2 : Int32) (hk2 : ¬ ((10 : Int32) < (((10 : Int32) + (p1 &&& (3 : Int32))) - (2 : Int32)))) (hk3 : (((10 : Int32) + (p1 &&& (3 : Int32))) - (2 : Int32)) = (10 : Int32)) (hk4 : (((6 : Int32) + (p2 &&& (7 : Int32))) - (4 : Int32)) < (6 : Int32)) :
    Con l Z (⟨"com/example/unfussy_repo/unfussyrepo/jdbc/Database", "takesSql", "(II)Z"⟩ : MethodName) prog_13_method_6_code 3 (some .boolean) ({ frames := 0, cells := 0, slots := 0, locals := 0 } : Room) #[(.ref w_Database_MARIADB), (.int (((10 : Int32) + (p1 &&& (3 : Int32))) - (2 : Int32))), (.int (((6 : Int32) + (p2 &&& (7 : Int32))) - (4 : Int32)))] Z.heap (fun v h' L => v = some (.int 0) ∧ h' = Z.heap ∧ L = []) := by
  have hw := B.1
  obtain ⟨S_w_Database_H2, E_w_Database_H2, S_w_Database_POSTGRESQL, E_w_Database_POSTGRESQL, S_w_Database_MARIADB, E_w_Database_MARIADB, F_w_Database_H2_lowestMajor, F_w_Database_POSTGRESQL_lowestMajor, F_w_Database_MARIADB_lowestMajor, F_w_Database_MARIADB_lowestMinor, F_w_Database_H2_lowestMinor, F_w_Database_POSTGRESQL_lowestMinor⟩ := B.2
  refine Con.of (plainFor_of_name pn2) (Ls := #[vR w_Database_MARIADB, vI (((10 : Int32) + (p1 &&& (3 : Int32))) - (2 : Int32)), vI (((6 : Int32) + (p2 &&& (7 : Int32))) - (4 : Int32))]) (fun m => by first | rfl | (simp [entryFrame, mkF, argsToLocals, Value.category]; done)) ?_
  intro p e s m below meth c T0 X0 H hml hZ hown hnm hret hlk e0
  refine gIloadN X0 H d2_0 rfl 1 rfl ?_
  refine gAloadN X0 H d2_1 rfl rfl 2 rfl ?_
  refine gGetF X0 H hZ hown (hw _ wd15) Via.refl e0 F_w_Database_MARIADB_lowestMajor d2_2 5 rfl ?_
  intro T275 X275 e275
  refine gCmpN X275 H d2_5 (flt hk2).2.2.1 8 rfl ?_
  refine gIloadN X275 H d2_8 rfl 9 rfl ?_
  refine gAloadN X275 H d2_9 rfl rfl 10 rfl ?_
  refine gGetF X275 H hZ hown (hw _ wd15) Via.refl e275 F_w_Database_MARIADB_lowestMajor d2_10 13 rfl ?_
  intro T276 X276 e276
  refine gCmpN X276 H d2_13 (teq hk3).2 16 rfl ?_
  refine gIloadN X276 H d2_16 rfl 17 rfl ?_
  refine gAloadN X276 H d2_17 rfl rfl 18 rfl ?_
  refine gGetF X276 H hZ hown (hw _ wd21) Via.refl e276 F_w_Database_MARIADB_lowestMinor d2_18 21 rfl ?_
  intro T277 X277 e277
  refine gCmpY X277 H d2_21 (tlt hk4).1 (by decide) 28 rfl ?_
  refine gIconst X277 H d2_28 (z := 0) rfl 29 rfl ?_
  exact gRetN X277 H hlk hret (t := .boolean) (by simp) d2_29 e277 ⟨rfl, rfl, rfl⟩
theorem rm283_2 (B : Bg Z a0 w_Database_H2 w_Database_POSTGRESQL w_Database_MARIADB) (p1 : Int32) (p2 : Int32) (hk2 : ¬ ((10 : Int32) < (((10 : Int32) + (p1 &&& (3 : Int32))) - (2 : Int32)))) (hk3 : (((10 : Int32) + (p1 &&& (3 : Int32))) - (2 : Int32)) = (10 : Int32)) (hk4 : ¬ ((((6 : Int32) + (p2 &&& (7 : Int32))) - (4 : Int32)) < (6 : Int32))) :
    Con l Z (⟨"com/example/unfussy_repo/unfussyrepo/jdbc/Database", "takesSql", "(II)Z"⟩ : MethodName) prog_13_method_6_code 3 (some .boolean) ({ frames := 0, cells := 0, slots := 0, locals := 0 } : Room) #[(.ref w_Database_MARIADB), (.int (((10 : Int32) + (p1 &&& (3 : Int32))) - (2 : Int32))), (.int (((6 : Int32) + (p2 &&& (7 : Int32))) - (4 : Int32)))] Z.heap (fun v h' L => v = some (.int 1) ∧ h' = Z.heap ∧ L = []) := by
  have hw := B.1
  obtain ⟨S_w_Database_H2, E_w_Database_H2, S_w_Database_POSTGRESQL, E_w_Database_POSTGRESQL, S_w_Database_MARIADB, E_w_Database_MARIADB, F_w_Database_H2_lowestMajor, F_w_Database_POSTGRESQL_lowestMajor, F_w_Database_MARIADB_lowestMajor, F_w_Database_MARIADB_lowestMinor, F_w_Database_H2_lowestMinor, F_w_Database_POSTGRESQL_lowestMinor⟩ := B.2
  refine Con.of (plainFor_of_name pn2) (Ls := #[vR w_Database_MARIADB, vI (((10 : Int32) + (p1 &&& (3 : Int32))) - (2 : Int32)), vI (((6 : Int32) + (p2 &&& (7 : Int32))) - (4 : Int32))]) (fun m => by first | rfl | (simp [entryFrame, mkF, argsToLocals, Value.category]; done)) ?_
  intro p e s m below meth c T0 X0 H hml hZ hown hnm hret hlk e0
  refine gIloadN X0 H d2_0 rfl 1 rfl ?_
  refine gAloadN X0 H d2_1 rfl rfl 2 rfl ?_
  refine gGetF X0 H hZ hown (hw _ wd15) Via.refl e0 F_w_Database_MARIADB_lowestMajor d2_2 5 rfl ?_
  intro T280 X280 e280
  refine gCmpN X280 H d2_5 (flt hk2).2.2.1 8 rfl ?_
  refine gIloadN X280 H d2_8 rfl 9 rfl ?_
  refine gAloadN X280 H d2_9 rfl rfl 10 rfl ?_
  refine gGetF X280 H hZ hown (hw _ wd15) Via.refl e280 F_w_Database_MARIADB_lowestMajor d2_10 13 rfl ?_
  intro T281 X281 e281
  refine gCmpN X281 H d2_13 (teq hk3).2 16 rfl ?_
  refine gIloadN X281 H d2_16 rfl 17 rfl ?_
  refine gAloadN X281 H d2_17 rfl rfl 18 rfl ?_
  refine gGetF X281 H hZ hown (hw _ wd21) Via.refl e281 F_w_Database_MARIADB_lowestMinor d2_18 21 rfl ?_
  intro T282 X282 e282
  refine gCmpN X282 H d2_21 (flt hk4).1 24 rfl ?_
  refine gIconst X282 H d2_24 (z := 1) rfl 25 rfl ?_
  refine gGoto X282 H d2_25 (by decide) 29 rfl ?_
  exact gRetN X282 H hlk hret (t := .boolean) (by simp) d2_29 e282 ⟨rfl, rfl, rfl⟩
theorem rm287_2 (B : Bg Z a0 w_Database_H2 w_Database_POSTGRESQL w_Database_MARIADB) (p1 : Int32) (p2 : Int32) (hk2 : ¬ ((10 : Int32) < (((10 : Int32) + (p1 &&& (3 : Int32))) - (2 : Int32)))) (hk3 : ¬ ((((10 : Int32) + (p1 &&& (3 : Int32))) - (2 : Int32)) = (10 : Int32))) :
    Con l Z (⟨"com/example/unfussy_repo/unfussyrepo/jdbc/Database", "takesSql", "(II)Z"⟩ : MethodName) prog_13_method_6_code 3 (some .boolean) ({ frames := 0, cells := 0, slots := 0, locals := 0 } : Room) #[(.ref w_Database_MARIADB), (.int (((10 : Int32) + (p1 &&& (3 : Int32))) - (2 : Int32))), (.int (((6 : Int32) + (p2 &&& (7 : Int32))) - (4 : Int32)))] Z.heap (fun v h' L => v = some (.int 0) ∧ h' = Z.heap ∧ L = []) := by
  have hw := B.1
  obtain ⟨S_w_Database_H2, E_w_Database_H2, S_w_Database_POSTGRESQL, E_w_Database_POSTGRESQL, S_w_Database_MARIADB, E_w_Database_MARIADB, F_w_Database_H2_lowestMajor, F_w_Database_POSTGRESQL_lowestMajor, F_w_Database_MARIADB_lowestMajor, F_w_Database_MARIADB_lowestMinor, F_w_Database_H2_lowestMinor, F_w_Database_POSTGRESQL_lowestMinor⟩ := B.2
  refine Con.of (plainFor_of_name pn2) (Ls := #[vR w_Database_MARIADB, vI (((10 : Int32) + (p1 &&& (3 : Int32))) - (2 : Int32)), vI (((6 : Int32) + (p2 &&& (7 : Int32))) - (4 : Int32))]) (fun m => by first | rfl | (simp [entryFrame, mkF, argsToLocals, Value.category]; done)) ?_
  intro p e s m below meth c T0 X0 H hml hZ hown hnm hret hlk e0
  refine gIloadN X0 H d2_0 rfl 1 rfl ?_
  refine gAloadN X0 H d2_1 rfl rfl 2 rfl ?_
  refine gGetF X0 H hZ hown (hw _ wd15) Via.refl e0 F_w_Database_MARIADB_lowestMajor d2_2 5 rfl ?_
  intro T285 X285 e285
  refine gCmpN X285 H d2_5 (flt hk2).2.2.1 8 rfl ?_
  refine gIloadN X285 H d2_8 rfl 9 rfl ?_
  refine gAloadN X285 H d2_9 rfl rfl 10 rfl ?_
  refine gGetF X285 H hZ hown (hw _ wd15) Via.refl e285 F_w_Database_MARIADB_lowestMajor d2_10 13 rfl ?_
  intro T286 X286 e286
  refine gCmpY X286 H d2_13 (feq hk3).2 (by decide) 28 rfl ?_
  refine gIconst X286 H d2_28 (z := 0) rfl 29 rfl ?_
  exact gRetN X286 H hlk hret (t := .boolean) (by simp) d2_29 e286 ⟨rfl, rfl, rfl⟩
theorem lawAll_2 (B : Bg Z a0 w_Database_H2 w_Database_POSTGRESQL w_Database_MARIADB) (p0 : Int32) (p1 : Int32) (p2 : Int32) (p3 : Int32) (ha0 : ((p0 &&& (2147483647 : Int32)) % (3 : Int32)) = (2 : Int32)) :
    Con l Z x code maxLocals ret room_1 #[(.int p0), (.int p1), (.int p2), (.int p3)] Z.heap (fun v h' L => v = some (.int 1) ∧ Fr Z.heap.size L) := by
  have hw := B.1
  obtain ⟨S_w_Database_H2, E_w_Database_H2, S_w_Database_POSTGRESQL, E_w_Database_POSTGRESQL, S_w_Database_MARIADB, E_w_Database_MARIADB, F_w_Database_H2_lowestMajor, F_w_Database_POSTGRESQL_lowestMajor, F_w_Database_MARIADB_lowestMajor, F_w_Database_MARIADB_lowestMinor, F_w_Database_H2_lowestMinor, F_w_Database_POSTGRESQL_lowestMinor⟩ := B.2
  refine Con.of (plainFor_of_name pn0) (Ls := #[vI p0, vI p1, vI p2, vI p3, .unset, .unset, .unset, .unset, .unset, .unset, .unset]) (fun m => by first | rfl | (simp [entryFrame, mkF, argsToLocals, Value.category, maxLocals]; done)) ?_
  intro p e s m below meth c T0 X0 H hml hZ hown hnm hret hlk e0
  refine gIloadN X0 H at_0 rfl 1 rfl ?_
  refine gLdc X0 H hZ hown (hw _ wd0) at_1 3 rfl ?_
  refine g_iand X0 H at_3 (z := (p0 &&& (2147483647 : Int32))) rfl 4 rfl ?_
  refine gIconst X0 H at_4 (z := 3) rfl 5 rfl ?_
  refine g_irem X0 H at_5 (by decide) (z := 2) ha0 6 rfl ?_
  refine gIstore X0 H at_6 (Ls' := #[vI p0, vI p1, vI p2, vI p3, vI 2, .unset, .unset, .unset, .unset, .unset, .unset]) rfl 8 rfl ?_
  refine gIload X0 H at_8 rfl 10 rfl ?_
  refine gIfY X0 H at_10 (by decide) (by decide) 27 rfl ?_
  refine gIload X0 H at_27 rfl 29 rfl ?_
  refine gIconst X0 H at_29 (z := 1) rfl 30 rfl ?_
  refine gCmpY X0 H at_30 (by decide) (by decide) 48 rfl ?_
  refine gGetS X0 H hZ hown (hw _ wd19) e0 S_w_Database_MARIADB at_48 51 rfl ?_
  intro T194 X194 e194
  refine gAstore X194 H at_51 rfl (Ls' := #[vI p0, vI p1, vI p2, vI p3, vI 2, vR w_Database_MARIADB, .unset, .unset, .unset, .unset, .unset]) rfl 53 rfl ?_
  refine gBipush X194 H at_53 (z := 10) rfl 55 rfl ?_
  refine gIstore X194 H at_55 (Ls' := #[vI p0, vI p1, vI p2, vI p3, vI 2, vR w_Database_MARIADB, vI 10, .unset, .unset, .unset, .unset]) rfl 57 rfl ?_
  refine gBipush X194 H at_57 (z := 6) rfl 59 rfl ?_
  refine gIstore X194 H at_59 (Ls' := #[vI p0, vI p1, vI p2, vI p3, vI 2, vR w_Database_MARIADB, vI 10, vI 6, .unset, .unset, .unset]) rfl 61 rfl ?_
  refine gIloadN X194 H at_61 rfl 62 rfl ?_
  refine gIstore X194 H at_62 (Ls' := #[vI p0, vI p1, vI p2, vI p3, vI 2, vR w_Database_MARIADB, vI 10, vI 6, vI p1, .unset, .unset]) rfl 64 rfl ?_
  refine gIloadN X194 H at_64 rfl 65 rfl ?_
  refine gIconst X194 H at_65 (z := 1) rfl 66 rfl ?_
  refine g_iand X194 H at_66 (z := (p3 &&& (1 : Int32))) rfl 67 rfl ?_
  by_cases hc195 : (p3 &&& (1 : Int32)) = (0 : Int32)
  · refine gIfY X194 H at_67 ((if0 _ _).trans (teq hc195).1) (by decide) 80 rfl ?_
    refine gIloadN X194 H at_80 rfl 81 rfl ?_
    refine gIstore X194 H at_81 (Ls' := #[vI p0, vI p1, vI p2, vI p3, vI 2, vR w_Database_MARIADB, vI 10, vI 6, vI p1, vI p2, .unset]) rfl 83 rfl ?_
    refine gIloadN X194 H at_83 rfl 84 rfl ?_
    refine gIconst X194 H at_84 (z := 2) rfl 85 rfl ?_
    refine g_iand X194 H at_85 (z := (p3 &&& (2 : Int32))) rfl 86 rfl ?_
    by_cases hc196 : (p3 &&& (2 : Int32)) = (0 : Int32)
    · refine gIfY X194 H at_86 ((if0 _ _).trans (teq hc196).1) (by decide) 100 rfl ?_
      refine gIload X194 H at_100 rfl 102 rfl ?_
      refine gIload X194 H at_102 rfl 104 rfl ?_
      refine gStatic X194 H hZ hown (hw _ wd4) (hw _ wd5) (by decide) (hw _ wd7) (hw _ wd6) (rm4_1 B p1 p2) e194 hml rfl pd0 rfl (W := 0) (argsL := [(.int p1), (.int p2)]) (rest := []) rfl rfl at_104 107 rfl ?_
      intro v197 T197 L197 hq197 X197
      obtain ⟨rfl, e197, rfl⟩ := hq197
      show Go _ _ _ _ (State.setTop _ (mkF _ 107 _ [(.long (((p1.toInt64) * (4294967296 : Int64)) + ((p2.toInt64) + (2147483648 : Int64))))]))
      refine gIload X197 H at_107 rfl 109 rfl ?_
      refine gIload X197 H at_109 rfl 111 rfl ?_
      refine gStatic X197 H hZ hown (hw _ wd4) (hw _ wd5) (by decide) (hw _ wd7) (hw _ wd6) (rm198_1 B) e197 hml rfl pd0 rfl (W := 2) (argsL := [(.int 10), (.int 6)]) (rest := [(.long (((p1.toInt64) * (4294967296 : Int64)) + ((p2.toInt64) + (2147483648 : Int64))))]) rfl rfl at_111 114 rfl ?_
      intro v199 T199 L199 hq199 X199
      obtain ⟨rfl, e199, rfl⟩ := hq199
      show Go _ _ _ _ (State.setTop _ (mkF _ 114 _ [(.long 45097156614), (.long (((p1.toInt64) * (4294967296 : Int64)) + ((p2.toInt64) + (2147483648 : Int64))))]))
      refine g_lcmp X199 H at_114 (z := (lcmpW (((p1.toInt64) * (4294967296 : Int64)) + ((p2.toInt64) + (2147483648 : Int64))) (45097156614 : Int64))) rfl 115 rfl ?_
      by_cases hc200 : (10 : Int32) < p1
      · refine gIfN X199 H at_115 ((if0 _ _).trans (flt (fun q => (key1 (lm := (10 : Int32)) p2 (6 : Int32) (by decide) hc200) ((lw_lt _ _).mp q))).1) 118 rfl ?_
        refine gIconst X199 H at_118 (z := 1) rfl 119 rfl ?_
        refine gGoto X199 H at_119 (by decide) 123 rfl ?_
        refine gIstore X199 H at_123 (Ls' := #[vI p0, vI p1, vI p2, vI p3, vI 2, vR w_Database_MARIADB, vI 10, vI 6, vI p1, vI p2, vI 1]) rfl 125 rfl ?_
        refine gAload X199 H at_125 rfl rfl 127 rfl ?_
        refine gIload X199 H at_127 rfl 129 rfl ?_
        refine gIload X199 H at_129 rfl 131 rfl ?_
        refine gVirt X199 H hZ hown (hw _ wd10) (hw _ wd11) (hw _ wd13) (hw _ wd12) (by decide) E_w_Database_MARIADB (hw _ wd14) (hw _ wd2) (rm202_2 B p1 p2 hc200) e199 hml rfl pd1 rfl (W := 0) (argsL := [(.int p1), (.int p2)]) (rest := []) rfl rfl at_131 134 rfl ?_
        intro v203 T203 L203 hq203 X203
        obtain ⟨rfl, e203, rfl⟩ := hq203
        show Go _ _ _ _ (State.setTop _ (mkF _ 134 _ [(.int 1)]))
        refine gIload X203 H at_134 rfl 136 rfl ?_
        refine gCmpN X203 H at_136 (by decide) 139 rfl ?_
        refine gIconst X203 H at_139 (z := 1) rfl 140 rfl ?_
        refine gGoto X203 H at_140 (by decide) 144 rfl ?_
        exact gRetN X203 H hlk hret (t := .boolean) (by simp) at_144 e203 ⟨rfl, Fr.nil _⟩
      · by_cases hc204 : p1 = (10 : Int32)
        · by_cases hc205 : p2 < (6 : Int32)
          · refine gIfY X199 H at_115 ((if0 _ _).trans (tlt ((lw_lt _ _).mpr (key3 (lm := (10 : Int32)) (lo := (6 : Int32)) (by decide) hc204 hc205))).1) (by decide) 122 rfl ?_
            refine gIconst X199 H at_122 (z := 0) rfl 123 rfl ?_
            refine gIstore X199 H at_123 (Ls' := #[vI p0, vI p1, vI p2, vI p3, vI 2, vR w_Database_MARIADB, vI 10, vI 6, vI p1, vI p2, vI 0]) rfl 125 rfl ?_
            refine gAload X199 H at_125 rfl rfl 127 rfl ?_
            refine gIload X199 H at_127 rfl 129 rfl ?_
            refine gIload X199 H at_129 rfl 131 rfl ?_
            refine gVirt X199 H hZ hown (hw _ wd10) (hw _ wd11) (hw _ wd13) (hw _ wd12) (by decide) E_w_Database_MARIADB (hw _ wd14) (hw _ wd2) (rm209_2 B p1 p2 hc200 hc204 hc205) e199 hml rfl pd1 rfl (W := 0) (argsL := [(.int p1), (.int p2)]) (rest := []) rfl rfl at_131 134 rfl ?_
            intro v210 T210 L210 hq210 X210
            obtain ⟨rfl, e210, rfl⟩ := hq210
            show Go _ _ _ _ (State.setTop _ (mkF _ 134 _ [(.int 0)]))
            refine gIload X210 H at_134 rfl 136 rfl ?_
            refine gCmpN X210 H at_136 (by decide) 139 rfl ?_
            refine gIconst X210 H at_139 (z := 1) rfl 140 rfl ?_
            refine gGoto X210 H at_140 (by decide) 144 rfl ?_
            exact gRetN X210 H hlk hret (t := .boolean) (by simp) at_144 e210 ⟨rfl, Fr.nil _⟩
          · refine gIfN X199 H at_115 ((if0 _ _).trans (flt (fun q => (key4 (lm := (10 : Int32)) (lo := (6 : Int32)) (by decide) hc204 hc205) ((lw_lt _ _).mp q))).1) 118 rfl ?_
            refine gIconst X199 H at_118 (z := 1) rfl 119 rfl ?_
            refine gGoto X199 H at_119 (by decide) 123 rfl ?_
            refine gIstore X199 H at_123 (Ls' := #[vI p0, vI p1, vI p2, vI p3, vI 2, vR w_Database_MARIADB, vI 10, vI 6, vI p1, vI p2, vI 1]) rfl 125 rfl ?_
            refine gAload X199 H at_125 rfl rfl 127 rfl ?_
            refine gIload X199 H at_127 rfl 129 rfl ?_
            refine gIload X199 H at_129 rfl 131 rfl ?_
            refine gVirt X199 H hZ hown (hw _ wd10) (hw _ wd11) (hw _ wd13) (hw _ wd12) (by decide) E_w_Database_MARIADB (hw _ wd14) (hw _ wd2) (rm214_2 B p1 p2 hc200 hc204 hc205) e199 hml rfl pd1 rfl (W := 0) (argsL := [(.int p1), (.int p2)]) (rest := []) rfl rfl at_131 134 rfl ?_
            intro v215 T215 L215 hq215 X215
            obtain ⟨rfl, e215, rfl⟩ := hq215
            show Go _ _ _ _ (State.setTop _ (mkF _ 134 _ [(.int 1)]))
            refine gIload X215 H at_134 rfl 136 rfl ?_
            refine gCmpN X215 H at_136 (by decide) 139 rfl ?_
            refine gIconst X215 H at_139 (z := 1) rfl 140 rfl ?_
            refine gGoto X215 H at_140 (by decide) 144 rfl ?_
            exact gRetN X215 H hlk hret (t := .boolean) (by simp) at_144 e215 ⟨rfl, Fr.nil _⟩
        · refine gIfY X199 H at_115 ((if0 _ _).trans (tlt ((lw_lt _ _).mpr (key2 (lm := (10 : Int32)) p2 (6 : Int32) (by decide) hc200 hc204))).1) (by decide) 122 rfl ?_
          refine gIconst X199 H at_122 (z := 0) rfl 123 rfl ?_
          refine gIstore X199 H at_123 (Ls' := #[vI p0, vI p1, vI p2, vI p3, vI 2, vR w_Database_MARIADB, vI 10, vI 6, vI p1, vI p2, vI 0]) rfl 125 rfl ?_
          refine gAload X199 H at_125 rfl rfl 127 rfl ?_
          refine gIload X199 H at_127 rfl 129 rfl ?_
          refine gIload X199 H at_129 rfl 131 rfl ?_
          refine gVirt X199 H hZ hown (hw _ wd10) (hw _ wd11) (hw _ wd13) (hw _ wd12) (by decide) E_w_Database_MARIADB (hw _ wd14) (hw _ wd2) (rm218_2 B p1 p2 hc200 hc204) e199 hml rfl pd1 rfl (W := 0) (argsL := [(.int p1), (.int p2)]) (rest := []) rfl rfl at_131 134 rfl ?_
          intro v219 T219 L219 hq219 X219
          obtain ⟨rfl, e219, rfl⟩ := hq219
          show Go _ _ _ _ (State.setTop _ (mkF _ 134 _ [(.int 0)]))
          refine gIload X219 H at_134 rfl 136 rfl ?_
          refine gCmpN X219 H at_136 (by decide) 139 rfl ?_
          refine gIconst X219 H at_139 (z := 1) rfl 140 rfl ?_
          refine gGoto X219 H at_140 (by decide) 144 rfl ?_
          exact gRetN X219 H hlk hret (t := .boolean) (by simp) at_144 e219 ⟨rfl, Fr.nil _⟩
    · refine gIfN X194 H at_86 ((if0 _ _).trans (feq hc196).1) 89 rfl ?_
      refine gIload X194 H at_89 rfl 91 rfl ?_
      refine gIloadN X194 H at_91 rfl 92 rfl ?_
      refine gBipush X194 H at_92 (z := 7) rfl 94 rfl ?_
      refine g_iand X194 H at_94 (z := (p2 &&& (7 : Int32))) rfl 95 rfl ?_
      refine g_iadd X194 H at_95 (z := ((6 : Int32) + (p2 &&& (7 : Int32)))) rfl 96 rfl ?_
      refine gIconst X194 H at_96 (z := 4) rfl 97 rfl ?_
      refine g_isub X194 H at_97 (z := (((6 : Int32) + (p2 &&& (7 : Int32))) - (4 : Int32))) rfl 98 rfl ?_
      refine gIstore X194 H at_98 (Ls' := #[vI p0, vI p1, vI p2, vI p3, vI 2, vR w_Database_MARIADB, vI 10, vI 6, vI p1, vI (((6 : Int32) + (p2 &&& (7 : Int32))) - (4 : Int32)), .unset]) rfl 100 rfl ?_
      refine gIload X194 H at_100 rfl 102 rfl ?_
      refine gIload X194 H at_102 rfl 104 rfl ?_
      refine gStatic X194 H hZ hown (hw _ wd4) (hw _ wd5) (by decide) (hw _ wd7) (hw _ wd6) (rm220_1 B p1 p2) e194 hml rfl pd0 rfl (W := 0) (argsL := [(.int p1), (.int (((6 : Int32) + (p2 &&& (7 : Int32))) - (4 : Int32)))]) (rest := []) rfl rfl at_104 107 rfl ?_
      intro v221 T221 L221 hq221 X221
      obtain ⟨rfl, e221, rfl⟩ := hq221
      show Go _ _ _ _ (State.setTop _ (mkF _ 107 _ [(.long (((p1.toInt64) * (4294967296 : Int64)) + (((((6 : Int32) + (p2 &&& (7 : Int32))) - (4 : Int32)).toInt64) + (2147483648 : Int64))))]))
      refine gIload X221 H at_107 rfl 109 rfl ?_
      refine gIload X221 H at_109 rfl 111 rfl ?_
      refine gStatic X221 H hZ hown (hw _ wd4) (hw _ wd5) (by decide) (hw _ wd7) (hw _ wd6) (rm198_1 B) e221 hml rfl pd0 rfl (W := 2) (argsL := [(.int 10), (.int 6)]) (rest := [(.long (((p1.toInt64) * (4294967296 : Int64)) + (((((6 : Int32) + (p2 &&& (7 : Int32))) - (4 : Int32)).toInt64) + (2147483648 : Int64))))]) rfl rfl at_111 114 rfl ?_
      intro v222 T222 L222 hq222 X222
      obtain ⟨rfl, e222, rfl⟩ := hq222
      show Go _ _ _ _ (State.setTop _ (mkF _ 114 _ [(.long 45097156614), (.long (((p1.toInt64) * (4294967296 : Int64)) + (((((6 : Int32) + (p2 &&& (7 : Int32))) - (4 : Int32)).toInt64) + (2147483648 : Int64))))]))
      refine g_lcmp X222 H at_114 (z := (lcmpW (((p1.toInt64) * (4294967296 : Int64)) + (((((6 : Int32) + (p2 &&& (7 : Int32))) - (4 : Int32)).toInt64) + (2147483648 : Int64))) (45097156614 : Int64))) rfl 115 rfl ?_
      by_cases hc223 : (10 : Int32) < p1
      · refine gIfN X222 H at_115 ((if0 _ _).trans (flt (fun q => (key1 (lm := (10 : Int32)) (((6 : Int32) + (p2 &&& (7 : Int32))) - (4 : Int32)) (6 : Int32) (by decide) hc223) ((lw_lt _ _).mp q))).1) 118 rfl ?_
        refine gIconst X222 H at_118 (z := 1) rfl 119 rfl ?_
        refine gGoto X222 H at_119 (by decide) 123 rfl ?_
        refine gIstore X222 H at_123 (Ls' := #[vI p0, vI p1, vI p2, vI p3, vI 2, vR w_Database_MARIADB, vI 10, vI 6, vI p1, vI (((6 : Int32) + (p2 &&& (7 : Int32))) - (4 : Int32)), vI 1]) rfl 125 rfl ?_
        refine gAload X222 H at_125 rfl rfl 127 rfl ?_
        refine gIload X222 H at_127 rfl 129 rfl ?_
        refine gIload X222 H at_129 rfl 131 rfl ?_
        refine gVirt X222 H hZ hown (hw _ wd10) (hw _ wd11) (hw _ wd13) (hw _ wd12) (by decide) E_w_Database_MARIADB (hw _ wd14) (hw _ wd2) (rm225_2 B p1 p2 hc223) e222 hml rfl pd1 rfl (W := 0) (argsL := [(.int p1), (.int (((6 : Int32) + (p2 &&& (7 : Int32))) - (4 : Int32)))]) (rest := []) rfl rfl at_131 134 rfl ?_
        intro v226 T226 L226 hq226 X226
        obtain ⟨rfl, e226, rfl⟩ := hq226
        show Go _ _ _ _ (State.setTop _ (mkF _ 134 _ [(.int 1)]))
        refine gIload X226 H at_134 rfl 136 rfl ?_
        refine gCmpN X226 H at_136 (by decide) 139 rfl ?_
        refine gIconst X226 H at_139 (z := 1) rfl 140 rfl ?_
        refine gGoto X226 H at_140 (by decide) 144 rfl ?_
        exact gRetN X226 H hlk hret (t := .boolean) (by simp) at_144 e226 ⟨rfl, Fr.nil _⟩
      · by_cases hc227 : p1 = (10 : Int32)
        · by_cases hc228 : (((6 : Int32) + (p2 &&& (7 : Int32))) - (4 : Int32)) < (6 : Int32)
          · refine gIfY X222 H at_115 ((if0 _ _).trans (tlt ((lw_lt _ _).mpr (key3 (lm := (10 : Int32)) (lo := (6 : Int32)) (by decide) hc227 hc228))).1) (by decide) 122 rfl ?_
            refine gIconst X222 H at_122 (z := 0) rfl 123 rfl ?_
            refine gIstore X222 H at_123 (Ls' := #[vI p0, vI p1, vI p2, vI p3, vI 2, vR w_Database_MARIADB, vI 10, vI 6, vI p1, vI (((6 : Int32) + (p2 &&& (7 : Int32))) - (4 : Int32)), vI 0]) rfl 125 rfl ?_
            refine gAload X222 H at_125 rfl rfl 127 rfl ?_
            refine gIload X222 H at_127 rfl 129 rfl ?_
            refine gIload X222 H at_129 rfl 131 rfl ?_
            refine gVirt X222 H hZ hown (hw _ wd10) (hw _ wd11) (hw _ wd13) (hw _ wd12) (by decide) E_w_Database_MARIADB (hw _ wd14) (hw _ wd2) (rm232_2 B p1 p2 hc223 hc227 hc228) e222 hml rfl pd1 rfl (W := 0) (argsL := [(.int p1), (.int (((6 : Int32) + (p2 &&& (7 : Int32))) - (4 : Int32)))]) (rest := []) rfl rfl at_131 134 rfl ?_
            intro v233 T233 L233 hq233 X233
            obtain ⟨rfl, e233, rfl⟩ := hq233
            show Go _ _ _ _ (State.setTop _ (mkF _ 134 _ [(.int 0)]))
            refine gIload X233 H at_134 rfl 136 rfl ?_
            refine gCmpN X233 H at_136 (by decide) 139 rfl ?_
            refine gIconst X233 H at_139 (z := 1) rfl 140 rfl ?_
            refine gGoto X233 H at_140 (by decide) 144 rfl ?_
            exact gRetN X233 H hlk hret (t := .boolean) (by simp) at_144 e233 ⟨rfl, Fr.nil _⟩
          · refine gIfN X222 H at_115 ((if0 _ _).trans (flt (fun q => (key4 (lm := (10 : Int32)) (lo := (6 : Int32)) (by decide) hc227 hc228) ((lw_lt _ _).mp q))).1) 118 rfl ?_
            refine gIconst X222 H at_118 (z := 1) rfl 119 rfl ?_
            refine gGoto X222 H at_119 (by decide) 123 rfl ?_
            refine gIstore X222 H at_123 (Ls' := #[vI p0, vI p1, vI p2, vI p3, vI 2, vR w_Database_MARIADB, vI 10, vI 6, vI p1, vI (((6 : Int32) + (p2 &&& (7 : Int32))) - (4 : Int32)), vI 1]) rfl 125 rfl ?_
            refine gAload X222 H at_125 rfl rfl 127 rfl ?_
            refine gIload X222 H at_127 rfl 129 rfl ?_
            refine gIload X222 H at_129 rfl 131 rfl ?_
            refine gVirt X222 H hZ hown (hw _ wd10) (hw _ wd11) (hw _ wd13) (hw _ wd12) (by decide) E_w_Database_MARIADB (hw _ wd14) (hw _ wd2) (rm237_2 B p1 p2 hc223 hc227 hc228) e222 hml rfl pd1 rfl (W := 0) (argsL := [(.int p1), (.int (((6 : Int32) + (p2 &&& (7 : Int32))) - (4 : Int32)))]) (rest := []) rfl rfl at_131 134 rfl ?_
            intro v238 T238 L238 hq238 X238
            obtain ⟨rfl, e238, rfl⟩ := hq238
            show Go _ _ _ _ (State.setTop _ (mkF _ 134 _ [(.int 1)]))
            refine gIload X238 H at_134 rfl 136 rfl ?_
            refine gCmpN X238 H at_136 (by decide) 139 rfl ?_
            refine gIconst X238 H at_139 (z := 1) rfl 140 rfl ?_
            refine gGoto X238 H at_140 (by decide) 144 rfl ?_
            exact gRetN X238 H hlk hret (t := .boolean) (by simp) at_144 e238 ⟨rfl, Fr.nil _⟩
        · refine gIfY X222 H at_115 ((if0 _ _).trans (tlt ((lw_lt _ _).mpr (key2 (lm := (10 : Int32)) (((6 : Int32) + (p2 &&& (7 : Int32))) - (4 : Int32)) (6 : Int32) (by decide) hc223 hc227))).1) (by decide) 122 rfl ?_
          refine gIconst X222 H at_122 (z := 0) rfl 123 rfl ?_
          refine gIstore X222 H at_123 (Ls' := #[vI p0, vI p1, vI p2, vI p3, vI 2, vR w_Database_MARIADB, vI 10, vI 6, vI p1, vI (((6 : Int32) + (p2 &&& (7 : Int32))) - (4 : Int32)), vI 0]) rfl 125 rfl ?_
          refine gAload X222 H at_125 rfl rfl 127 rfl ?_
          refine gIload X222 H at_127 rfl 129 rfl ?_
          refine gIload X222 H at_129 rfl 131 rfl ?_
          refine gVirt X222 H hZ hown (hw _ wd10) (hw _ wd11) (hw _ wd13) (hw _ wd12) (by decide) E_w_Database_MARIADB (hw _ wd14) (hw _ wd2) (rm241_2 B p1 p2 hc223 hc227) e222 hml rfl pd1 rfl (W := 0) (argsL := [(.int p1), (.int (((6 : Int32) + (p2 &&& (7 : Int32))) - (4 : Int32)))]) (rest := []) rfl rfl at_131 134 rfl ?_
          intro v242 T242 L242 hq242 X242
          obtain ⟨rfl, e242, rfl⟩ := hq242
          show Go _ _ _ _ (State.setTop _ (mkF _ 134 _ [(.int 0)]))
          refine gIload X242 H at_134 rfl 136 rfl ?_
          refine gCmpN X242 H at_136 (by decide) 139 rfl ?_
          refine gIconst X242 H at_139 (z := 1) rfl 140 rfl ?_
          refine gGoto X242 H at_140 (by decide) 144 rfl ?_
          exact gRetN X242 H hlk hret (t := .boolean) (by simp) at_144 e242 ⟨rfl, Fr.nil _⟩
  · refine gIfN X194 H at_67 ((if0 _ _).trans (feq hc195).1) 70 rfl ?_
    refine gIload X194 H at_70 rfl 72 rfl ?_
    refine gIloadN X194 H at_72 rfl 73 rfl ?_
    refine gIconst X194 H at_73 (z := 3) rfl 74 rfl ?_
    refine g_iand X194 H at_74 (z := (p1 &&& (3 : Int32))) rfl 75 rfl ?_
    refine g_iadd X194 H at_75 (z := ((10 : Int32) + (p1 &&& (3 : Int32)))) rfl 76 rfl ?_
    refine gIconst X194 H at_76 (z := 2) rfl 77 rfl ?_
    refine g_isub X194 H at_77 (z := (((10 : Int32) + (p1 &&& (3 : Int32))) - (2 : Int32))) rfl 78 rfl ?_
    refine gIstore X194 H at_78 (Ls' := #[vI p0, vI p1, vI p2, vI p3, vI 2, vR w_Database_MARIADB, vI 10, vI 6, vI (((10 : Int32) + (p1 &&& (3 : Int32))) - (2 : Int32)), .unset, .unset]) rfl 80 rfl ?_
    refine gIloadN X194 H at_80 rfl 81 rfl ?_
    refine gIstore X194 H at_81 (Ls' := #[vI p0, vI p1, vI p2, vI p3, vI 2, vR w_Database_MARIADB, vI 10, vI 6, vI (((10 : Int32) + (p1 &&& (3 : Int32))) - (2 : Int32)), vI p2, .unset]) rfl 83 rfl ?_
    refine gIloadN X194 H at_83 rfl 84 rfl ?_
    refine gIconst X194 H at_84 (z := 2) rfl 85 rfl ?_
    refine g_iand X194 H at_85 (z := (p3 &&& (2 : Int32))) rfl 86 rfl ?_
    by_cases hc243 : (p3 &&& (2 : Int32)) = (0 : Int32)
    · refine gIfY X194 H at_86 ((if0 _ _).trans (teq hc243).1) (by decide) 100 rfl ?_
      refine gIload X194 H at_100 rfl 102 rfl ?_
      refine gIload X194 H at_102 rfl 104 rfl ?_
      refine gStatic X194 H hZ hown (hw _ wd4) (hw _ wd5) (by decide) (hw _ wd7) (hw _ wd6) (rm148_1 B p1 p2) e194 hml rfl pd0 rfl (W := 0) (argsL := [(.int (((10 : Int32) + (p1 &&& (3 : Int32))) - (2 : Int32))), (.int p2)]) (rest := []) rfl rfl at_104 107 rfl ?_
      intro v244 T244 L244 hq244 X244
      obtain ⟨rfl, e244, rfl⟩ := hq244
      show Go _ _ _ _ (State.setTop _ (mkF _ 107 _ [(.long ((((((10 : Int32) + (p1 &&& (3 : Int32))) - (2 : Int32)).toInt64) * (4294967296 : Int64)) + ((p2.toInt64) + (2147483648 : Int64))))]))
      refine gIload X244 H at_107 rfl 109 rfl ?_
      refine gIload X244 H at_109 rfl 111 rfl ?_
      refine gStatic X244 H hZ hown (hw _ wd4) (hw _ wd5) (by decide) (hw _ wd7) (hw _ wd6) (rm198_1 B) e244 hml rfl pd0 rfl (W := 2) (argsL := [(.int 10), (.int 6)]) (rest := [(.long ((((((10 : Int32) + (p1 &&& (3 : Int32))) - (2 : Int32)).toInt64) * (4294967296 : Int64)) + ((p2.toInt64) + (2147483648 : Int64))))]) rfl rfl at_111 114 rfl ?_
      intro v245 T245 L245 hq245 X245
      obtain ⟨rfl, e245, rfl⟩ := hq245
      show Go _ _ _ _ (State.setTop _ (mkF _ 114 _ [(.long 45097156614), (.long ((((((10 : Int32) + (p1 &&& (3 : Int32))) - (2 : Int32)).toInt64) * (4294967296 : Int64)) + ((p2.toInt64) + (2147483648 : Int64))))]))
      refine g_lcmp X245 H at_114 (z := (lcmpW ((((((10 : Int32) + (p1 &&& (3 : Int32))) - (2 : Int32)).toInt64) * (4294967296 : Int64)) + ((p2.toInt64) + (2147483648 : Int64))) (45097156614 : Int64))) rfl 115 rfl ?_
      by_cases hc246 : (10 : Int32) < (((10 : Int32) + (p1 &&& (3 : Int32))) - (2 : Int32))
      · refine gIfN X245 H at_115 ((if0 _ _).trans (flt (fun q => (key1 (lm := (10 : Int32)) p2 (6 : Int32) (by decide) hc246) ((lw_lt _ _).mp q))).1) 118 rfl ?_
        refine gIconst X245 H at_118 (z := 1) rfl 119 rfl ?_
        refine gGoto X245 H at_119 (by decide) 123 rfl ?_
        refine gIstore X245 H at_123 (Ls' := #[vI p0, vI p1, vI p2, vI p3, vI 2, vR w_Database_MARIADB, vI 10, vI 6, vI (((10 : Int32) + (p1 &&& (3 : Int32))) - (2 : Int32)), vI p2, vI 1]) rfl 125 rfl ?_
        refine gAload X245 H at_125 rfl rfl 127 rfl ?_
        refine gIload X245 H at_127 rfl 129 rfl ?_
        refine gIload X245 H at_129 rfl 131 rfl ?_
        refine gVirt X245 H hZ hown (hw _ wd10) (hw _ wd11) (hw _ wd13) (hw _ wd12) (by decide) E_w_Database_MARIADB (hw _ wd14) (hw _ wd2) (rm248_2 B p1 p2 hc246) e245 hml rfl pd1 rfl (W := 0) (argsL := [(.int (((10 : Int32) + (p1 &&& (3 : Int32))) - (2 : Int32))), (.int p2)]) (rest := []) rfl rfl at_131 134 rfl ?_
        intro v249 T249 L249 hq249 X249
        obtain ⟨rfl, e249, rfl⟩ := hq249
        show Go _ _ _ _ (State.setTop _ (mkF _ 134 _ [(.int 1)]))
        refine gIload X249 H at_134 rfl 136 rfl ?_
        refine gCmpN X249 H at_136 (by decide) 139 rfl ?_
        refine gIconst X249 H at_139 (z := 1) rfl 140 rfl ?_
        refine gGoto X249 H at_140 (by decide) 144 rfl ?_
        exact gRetN X249 H hlk hret (t := .boolean) (by simp) at_144 e249 ⟨rfl, Fr.nil _⟩
      · by_cases hc250 : (((10 : Int32) + (p1 &&& (3 : Int32))) - (2 : Int32)) = (10 : Int32)
        · by_cases hc251 : p2 < (6 : Int32)
          · refine gIfY X245 H at_115 ((if0 _ _).trans (tlt ((lw_lt _ _).mpr (key3 (lm := (10 : Int32)) (lo := (6 : Int32)) (by decide) hc250 hc251))).1) (by decide) 122 rfl ?_
            refine gIconst X245 H at_122 (z := 0) rfl 123 rfl ?_
            refine gIstore X245 H at_123 (Ls' := #[vI p0, vI p1, vI p2, vI p3, vI 2, vR w_Database_MARIADB, vI 10, vI 6, vI (((10 : Int32) + (p1 &&& (3 : Int32))) - (2 : Int32)), vI p2, vI 0]) rfl 125 rfl ?_
            refine gAload X245 H at_125 rfl rfl 127 rfl ?_
            refine gIload X245 H at_127 rfl 129 rfl ?_
            refine gIload X245 H at_129 rfl 131 rfl ?_
            refine gVirt X245 H hZ hown (hw _ wd10) (hw _ wd11) (hw _ wd13) (hw _ wd12) (by decide) E_w_Database_MARIADB (hw _ wd14) (hw _ wd2) (rm255_2 B p1 p2 hc246 hc250 hc251) e245 hml rfl pd1 rfl (W := 0) (argsL := [(.int (((10 : Int32) + (p1 &&& (3 : Int32))) - (2 : Int32))), (.int p2)]) (rest := []) rfl rfl at_131 134 rfl ?_
            intro v256 T256 L256 hq256 X256
            obtain ⟨rfl, e256, rfl⟩ := hq256
            show Go _ _ _ _ (State.setTop _ (mkF _ 134 _ [(.int 0)]))
            refine gIload X256 H at_134 rfl 136 rfl ?_
            refine gCmpN X256 H at_136 (by decide) 139 rfl ?_
            refine gIconst X256 H at_139 (z := 1) rfl 140 rfl ?_
            refine gGoto X256 H at_140 (by decide) 144 rfl ?_
            exact gRetN X256 H hlk hret (t := .boolean) (by simp) at_144 e256 ⟨rfl, Fr.nil _⟩
          · refine gIfN X245 H at_115 ((if0 _ _).trans (flt (fun q => (key4 (lm := (10 : Int32)) (lo := (6 : Int32)) (by decide) hc250 hc251) ((lw_lt _ _).mp q))).1) 118 rfl ?_
            refine gIconst X245 H at_118 (z := 1) rfl 119 rfl ?_
            refine gGoto X245 H at_119 (by decide) 123 rfl ?_
            refine gIstore X245 H at_123 (Ls' := #[vI p0, vI p1, vI p2, vI p3, vI 2, vR w_Database_MARIADB, vI 10, vI 6, vI (((10 : Int32) + (p1 &&& (3 : Int32))) - (2 : Int32)), vI p2, vI 1]) rfl 125 rfl ?_
            refine gAload X245 H at_125 rfl rfl 127 rfl ?_
            refine gIload X245 H at_127 rfl 129 rfl ?_
            refine gIload X245 H at_129 rfl 131 rfl ?_
            refine gVirt X245 H hZ hown (hw _ wd10) (hw _ wd11) (hw _ wd13) (hw _ wd12) (by decide) E_w_Database_MARIADB (hw _ wd14) (hw _ wd2) (rm260_2 B p1 p2 hc246 hc250 hc251) e245 hml rfl pd1 rfl (W := 0) (argsL := [(.int (((10 : Int32) + (p1 &&& (3 : Int32))) - (2 : Int32))), (.int p2)]) (rest := []) rfl rfl at_131 134 rfl ?_
            intro v261 T261 L261 hq261 X261
            obtain ⟨rfl, e261, rfl⟩ := hq261
            show Go _ _ _ _ (State.setTop _ (mkF _ 134 _ [(.int 1)]))
            refine gIload X261 H at_134 rfl 136 rfl ?_
            refine gCmpN X261 H at_136 (by decide) 139 rfl ?_
            refine gIconst X261 H at_139 (z := 1) rfl 140 rfl ?_
            refine gGoto X261 H at_140 (by decide) 144 rfl ?_
            exact gRetN X261 H hlk hret (t := .boolean) (by simp) at_144 e261 ⟨rfl, Fr.nil _⟩
        · refine gIfY X245 H at_115 ((if0 _ _).trans (tlt ((lw_lt _ _).mpr (key2 (lm := (10 : Int32)) p2 (6 : Int32) (by decide) hc246 hc250))).1) (by decide) 122 rfl ?_
          refine gIconst X245 H at_122 (z := 0) rfl 123 rfl ?_
          refine gIstore X245 H at_123 (Ls' := #[vI p0, vI p1, vI p2, vI p3, vI 2, vR w_Database_MARIADB, vI 10, vI 6, vI (((10 : Int32) + (p1 &&& (3 : Int32))) - (2 : Int32)), vI p2, vI 0]) rfl 125 rfl ?_
          refine gAload X245 H at_125 rfl rfl 127 rfl ?_
          refine gIload X245 H at_127 rfl 129 rfl ?_
          refine gIload X245 H at_129 rfl 131 rfl ?_
          refine gVirt X245 H hZ hown (hw _ wd10) (hw _ wd11) (hw _ wd13) (hw _ wd12) (by decide) E_w_Database_MARIADB (hw _ wd14) (hw _ wd2) (rm264_2 B p1 p2 hc246 hc250) e245 hml rfl pd1 rfl (W := 0) (argsL := [(.int (((10 : Int32) + (p1 &&& (3 : Int32))) - (2 : Int32))), (.int p2)]) (rest := []) rfl rfl at_131 134 rfl ?_
          intro v265 T265 L265 hq265 X265
          obtain ⟨rfl, e265, rfl⟩ := hq265
          show Go _ _ _ _ (State.setTop _ (mkF _ 134 _ [(.int 0)]))
          refine gIload X265 H at_134 rfl 136 rfl ?_
          refine gCmpN X265 H at_136 (by decide) 139 rfl ?_
          refine gIconst X265 H at_139 (z := 1) rfl 140 rfl ?_
          refine gGoto X265 H at_140 (by decide) 144 rfl ?_
          exact gRetN X265 H hlk hret (t := .boolean) (by simp) at_144 e265 ⟨rfl, Fr.nil _⟩
    · refine gIfN X194 H at_86 ((if0 _ _).trans (feq hc243).1) 89 rfl ?_
      refine gIload X194 H at_89 rfl 91 rfl ?_
      refine gIloadN X194 H at_91 rfl 92 rfl ?_
      refine gBipush X194 H at_92 (z := 7) rfl 94 rfl ?_
      refine g_iand X194 H at_94 (z := (p2 &&& (7 : Int32))) rfl 95 rfl ?_
      refine g_iadd X194 H at_95 (z := ((6 : Int32) + (p2 &&& (7 : Int32)))) rfl 96 rfl ?_
      refine gIconst X194 H at_96 (z := 4) rfl 97 rfl ?_
      refine g_isub X194 H at_97 (z := (((6 : Int32) + (p2 &&& (7 : Int32))) - (4 : Int32))) rfl 98 rfl ?_
      refine gIstore X194 H at_98 (Ls' := #[vI p0, vI p1, vI p2, vI p3, vI 2, vR w_Database_MARIADB, vI 10, vI 6, vI (((10 : Int32) + (p1 &&& (3 : Int32))) - (2 : Int32)), vI (((6 : Int32) + (p2 &&& (7 : Int32))) - (4 : Int32)), .unset]) rfl 100 rfl ?_
      refine gIload X194 H at_100 rfl 102 rfl ?_
      refine gIload X194 H at_102 rfl 104 rfl ?_
      refine gStatic X194 H hZ hown (hw _ wd4) (hw _ wd5) (by decide) (hw _ wd7) (hw _ wd6) (rm266_1 B p1 p2) e194 hml rfl pd0 rfl (W := 0) (argsL := [(.int (((10 : Int32) + (p1 &&& (3 : Int32))) - (2 : Int32))), (.int (((6 : Int32) + (p2 &&& (7 : Int32))) - (4 : Int32)))]) (rest := []) rfl rfl at_104 107 rfl ?_
      intro v267 T267 L267 hq267 X267
      obtain ⟨rfl, e267, rfl⟩ := hq267
      show Go _ _ _ _ (State.setTop _ (mkF _ 107 _ [(.long ((((((10 : Int32) + (p1 &&& (3 : Int32))) - (2 : Int32)).toInt64) * (4294967296 : Int64)) + (((((6 : Int32) + (p2 &&& (7 : Int32))) - (4 : Int32)).toInt64) + (2147483648 : Int64))))]))
      refine gIload X267 H at_107 rfl 109 rfl ?_
      refine gIload X267 H at_109 rfl 111 rfl ?_
      refine gStatic X267 H hZ hown (hw _ wd4) (hw _ wd5) (by decide) (hw _ wd7) (hw _ wd6) (rm198_1 B) e267 hml rfl pd0 rfl (W := 2) (argsL := [(.int 10), (.int 6)]) (rest := [(.long ((((((10 : Int32) + (p1 &&& (3 : Int32))) - (2 : Int32)).toInt64) * (4294967296 : Int64)) + (((((6 : Int32) + (p2 &&& (7 : Int32))) - (4 : Int32)).toInt64) + (2147483648 : Int64))))]) rfl rfl at_111 114 rfl ?_
      intro v268 T268 L268 hq268 X268
      obtain ⟨rfl, e268, rfl⟩ := hq268
      show Go _ _ _ _ (State.setTop _ (mkF _ 114 _ [(.long 45097156614), (.long ((((((10 : Int32) + (p1 &&& (3 : Int32))) - (2 : Int32)).toInt64) * (4294967296 : Int64)) + (((((6 : Int32) + (p2 &&& (7 : Int32))) - (4 : Int32)).toInt64) + (2147483648 : Int64))))]))
      refine g_lcmp X268 H at_114 (z := (lcmpW ((((((10 : Int32) + (p1 &&& (3 : Int32))) - (2 : Int32)).toInt64) * (4294967296 : Int64)) + (((((6 : Int32) + (p2 &&& (7 : Int32))) - (4 : Int32)).toInt64) + (2147483648 : Int64))) (45097156614 : Int64))) rfl 115 rfl ?_
      by_cases hc269 : (10 : Int32) < (((10 : Int32) + (p1 &&& (3 : Int32))) - (2 : Int32))
      · refine gIfN X268 H at_115 ((if0 _ _).trans (flt (fun q => (key1 (lm := (10 : Int32)) (((6 : Int32) + (p2 &&& (7 : Int32))) - (4 : Int32)) (6 : Int32) (by decide) hc269) ((lw_lt _ _).mp q))).1) 118 rfl ?_
        refine gIconst X268 H at_118 (z := 1) rfl 119 rfl ?_
        refine gGoto X268 H at_119 (by decide) 123 rfl ?_
        refine gIstore X268 H at_123 (Ls' := #[vI p0, vI p1, vI p2, vI p3, vI 2, vR w_Database_MARIADB, vI 10, vI 6, vI (((10 : Int32) + (p1 &&& (3 : Int32))) - (2 : Int32)), vI (((6 : Int32) + (p2 &&& (7 : Int32))) - (4 : Int32)), vI 1]) rfl 125 rfl ?_
        refine gAload X268 H at_125 rfl rfl 127 rfl ?_
        refine gIload X268 H at_127 rfl 129 rfl ?_
        refine gIload X268 H at_129 rfl 131 rfl ?_
        refine gVirt X268 H hZ hown (hw _ wd10) (hw _ wd11) (hw _ wd13) (hw _ wd12) (by decide) E_w_Database_MARIADB (hw _ wd14) (hw _ wd2) (rm271_2 B p1 p2 hc269) e268 hml rfl pd1 rfl (W := 0) (argsL := [(.int (((10 : Int32) + (p1 &&& (3 : Int32))) - (2 : Int32))), (.int (((6 : Int32) + (p2 &&& (7 : Int32))) - (4 : Int32)))]) (rest := []) rfl rfl at_131 134 rfl ?_
        intro v272 T272 L272 hq272 X272
        obtain ⟨rfl, e272, rfl⟩ := hq272
        show Go _ _ _ _ (State.setTop _ (mkF _ 134 _ [(.int 1)]))
        refine gIload X272 H at_134 rfl 136 rfl ?_
        refine gCmpN X272 H at_136 (by decide) 139 rfl ?_
        refine gIconst X272 H at_139 (z := 1) rfl 140 rfl ?_
        refine gGoto X272 H at_140 (by decide) 144 rfl ?_
        exact gRetN X272 H hlk hret (t := .boolean) (by simp) at_144 e272 ⟨rfl, Fr.nil _⟩
      · by_cases hc273 : (((10 : Int32) + (p1 &&& (3 : Int32))) - (2 : Int32)) = (10 : Int32)
        · by_cases hc274 : (((6 : Int32) + (p2 &&& (7 : Int32))) - (4 : Int32)) < (6 : Int32)
          · refine gIfY X268 H at_115 ((if0 _ _).trans (tlt ((lw_lt _ _).mpr (key3 (lm := (10 : Int32)) (lo := (6 : Int32)) (by decide) hc273 hc274))).1) (by decide) 122 rfl ?_
            refine gIconst X268 H at_122 (z := 0) rfl 123 rfl ?_
            refine gIstore X268 H at_123 (Ls' := #[vI p0, vI p1, vI p2, vI p3, vI 2, vR w_Database_MARIADB, vI 10, vI 6, vI (((10 : Int32) + (p1 &&& (3 : Int32))) - (2 : Int32)), vI (((6 : Int32) + (p2 &&& (7 : Int32))) - (4 : Int32)), vI 0]) rfl 125 rfl ?_
            refine gAload X268 H at_125 rfl rfl 127 rfl ?_
            refine gIload X268 H at_127 rfl 129 rfl ?_
            refine gIload X268 H at_129 rfl 131 rfl ?_
            refine gVirt X268 H hZ hown (hw _ wd10) (hw _ wd11) (hw _ wd13) (hw _ wd12) (by decide) E_w_Database_MARIADB (hw _ wd14) (hw _ wd2) (rm278_2 B p1 p2 hc269 hc273 hc274) e268 hml rfl pd1 rfl (W := 0) (argsL := [(.int (((10 : Int32) + (p1 &&& (3 : Int32))) - (2 : Int32))), (.int (((6 : Int32) + (p2 &&& (7 : Int32))) - (4 : Int32)))]) (rest := []) rfl rfl at_131 134 rfl ?_
            intro v279 T279 L279 hq279 X279
            obtain ⟨rfl, e279, rfl⟩ := hq279
            show Go _ _ _ _ (State.setTop _ (mkF _ 134 _ [(.int 0)]))
            refine gIload X279 H at_134 rfl 136 rfl ?_
            refine gCmpN X279 H at_136 (by decide) 139 rfl ?_
            refine gIconst X279 H at_139 (z := 1) rfl 140 rfl ?_
            refine gGoto X279 H at_140 (by decide) 144 rfl ?_
            exact gRetN X279 H hlk hret (t := .boolean) (by simp) at_144 e279 ⟨rfl, Fr.nil _⟩
          · refine gIfN X268 H at_115 ((if0 _ _).trans (flt (fun q => (key4 (lm := (10 : Int32)) (lo := (6 : Int32)) (by decide) hc273 hc274) ((lw_lt _ _).mp q))).1) 118 rfl ?_
            refine gIconst X268 H at_118 (z := 1) rfl 119 rfl ?_
            refine gGoto X268 H at_119 (by decide) 123 rfl ?_
            refine gIstore X268 H at_123 (Ls' := #[vI p0, vI p1, vI p2, vI p3, vI 2, vR w_Database_MARIADB, vI 10, vI 6, vI (((10 : Int32) + (p1 &&& (3 : Int32))) - (2 : Int32)), vI (((6 : Int32) + (p2 &&& (7 : Int32))) - (4 : Int32)), vI 1]) rfl 125 rfl ?_
            refine gAload X268 H at_125 rfl rfl 127 rfl ?_
            refine gIload X268 H at_127 rfl 129 rfl ?_
            refine gIload X268 H at_129 rfl 131 rfl ?_
            refine gVirt X268 H hZ hown (hw _ wd10) (hw _ wd11) (hw _ wd13) (hw _ wd12) (by decide) E_w_Database_MARIADB (hw _ wd14) (hw _ wd2) (rm283_2 B p1 p2 hc269 hc273 hc274) e268 hml rfl pd1 rfl (W := 0) (argsL := [(.int (((10 : Int32) + (p1 &&& (3 : Int32))) - (2 : Int32))), (.int (((6 : Int32) + (p2 &&& (7 : Int32))) - (4 : Int32)))]) (rest := []) rfl rfl at_131 134 rfl ?_
            intro v284 T284 L284 hq284 X284
            obtain ⟨rfl, e284, rfl⟩ := hq284
            show Go _ _ _ _ (State.setTop _ (mkF _ 134 _ [(.int 1)]))
            refine gIload X284 H at_134 rfl 136 rfl ?_
            refine gCmpN X284 H at_136 (by decide) 139 rfl ?_
            refine gIconst X284 H at_139 (z := 1) rfl 140 rfl ?_
            refine gGoto X284 H at_140 (by decide) 144 rfl ?_
            exact gRetN X284 H hlk hret (t := .boolean) (by simp) at_144 e284 ⟨rfl, Fr.nil _⟩
        · refine gIfY X268 H at_115 ((if0 _ _).trans (tlt ((lw_lt _ _).mpr (key2 (lm := (10 : Int32)) (((6 : Int32) + (p2 &&& (7 : Int32))) - (4 : Int32)) (6 : Int32) (by decide) hc269 hc273))).1) (by decide) 122 rfl ?_
          refine gIconst X268 H at_122 (z := 0) rfl 123 rfl ?_
          refine gIstore X268 H at_123 (Ls' := #[vI p0, vI p1, vI p2, vI p3, vI 2, vR w_Database_MARIADB, vI 10, vI 6, vI (((10 : Int32) + (p1 &&& (3 : Int32))) - (2 : Int32)), vI (((6 : Int32) + (p2 &&& (7 : Int32))) - (4 : Int32)), vI 0]) rfl 125 rfl ?_
          refine gAload X268 H at_125 rfl rfl 127 rfl ?_
          refine gIload X268 H at_127 rfl 129 rfl ?_
          refine gIload X268 H at_129 rfl 131 rfl ?_
          refine gVirt X268 H hZ hown (hw _ wd10) (hw _ wd11) (hw _ wd13) (hw _ wd12) (by decide) E_w_Database_MARIADB (hw _ wd14) (hw _ wd2) (rm287_2 B p1 p2 hc269 hc273) e268 hml rfl pd1 rfl (W := 0) (argsL := [(.int (((10 : Int32) + (p1 &&& (3 : Int32))) - (2 : Int32))), (.int (((6 : Int32) + (p2 &&& (7 : Int32))) - (4 : Int32)))]) (rest := []) rfl rfl at_131 134 rfl ?_
          intro v288 T288 L288 hq288 X288
          obtain ⟨rfl, e288, rfl⟩ := hq288
          show Go _ _ _ _ (State.setTop _ (mkF _ 134 _ [(.int 0)]))
          refine gIload X288 H at_134 rfl 136 rfl ?_
          refine gCmpN X288 H at_136 (by decide) 139 rfl ?_
          refine gIconst X288 H at_139 (z := 1) rfl 140 rfl ?_
          refine gGoto X288 H at_140 (by decide) 144 rfl ?_
          exact gRetN X288 H hlk hret (t := .boolean) (by simp) at_144 e288 ⟨rfl, Fr.nil _⟩
theorem lawAll (B : Bg Z a0 w_Database_H2 w_Database_POSTGRESQL w_Database_MARIADB) (p0 : Int32) (p1 : Int32) (p2 : Int32) (p3 : Int32) :
    Con l Z x code maxLocals ret room_1 #[(.int p0), (.int p1), (.int p2), (.int p3)] Z.heap (fun v h' L => v = some (.int 1) ∧ Fr Z.heap.size L) := by
  rcases mod_cases p0 with ha0 | ha0 | ha0
  · exact lawAll_0 B p0 p1 p2 p3 ha0
  · exact lawAll_1 B p0 p1 p2 p3 ha0
  · exact lawAll_2 B p0 p1 p2 p3 ha0
end Walk
set_option maxHeartbeats 4000000 in
theorem comes_1 {Post : Tables → Env → Array Value → State → Outcome → State → Prop} (hpost : ∀ tb e args s v u, (limb_1_1.after args s (.returned v) u = true ∧ limb_1_2.after args s (.returned v) u = true ∧ True) → FrameEnd s (.returned v) u (Jvm.fieldLocs frame_1_writes args s ++ Jvm.arrayLocs frame_1_arrays args s ++ Jvm.staticLocs frame_1_statics s) 0 0 → Post tb e args s (.returned v) u) :
    ArmFor flags0 classFile x code maxLocals ret World_1 tables_1 room_1 Calls_1 rest_1 Pre_1 Post := by
  intro l hfl _ _ p e ha hc hk s m args below hf hA hF happ hP
  obtain ⟨hcalls, hrest, hpre⟩ := hP
  obtain ⟨-, -, -, hnamed, -, -, -, hat⟩ := (Spec.applies_iff hf).mp happ
  obtain ⟨hg, hn⟩ := and_e (Cond.before_iff.mp (show (Jvm.Cond.and given_1 narrow_1).before args s = true from hpre))
  obtain ⟨n1, n2⟩ := and_e hg
  obtain ⟨n3, n4⟩ := and_e n2
  obtain ⟨n5, n6⟩ := and_e n4
  obtain ⟨n7, n8⟩ := and_e n6
  obtain ⟨w0, w1, w2, w3, rfl⟩ : ∃ w0 w1 w2 w3 : Value, args = #[w0, w1, w2, w3] := by
    have hs : args.size = 4 := by simpa [Cond.value, given_1] using n1
    obtain ⟨L⟩ := args
    match L, hs with
    | [w0, w1, w2, w3], _ => exact ⟨w0, w1, w2, w3, rfl⟩
  have hfit : Fit s := fun {y c} hc i hi => by
    obtain ⟨ha, rfl⟩ := Array.getElem?_eq_some_iff.mp hc
    have q := List.all_eq_true.mp ((Array.all_eq_true_iff_forall_mem.mp hF) _ (Array.getElem_mem ha)) i (List.mem_range.mpr hi)
    simpa [Array.getElem?_eq_getElem hi] using q
  have hw := fun d (hd : d ∈ tables_1) => atoms_spec (ws := Jvm.Cond.code x code maxLocals ret :: tables_1) hat d (List.mem_cons_of_mem _ hd)
  obtain ⟨i0, ei0⟩ := is_v n3
  obtain rfl : w0 = (.int i0) := Option.some.inj ei0
  obtain ⟨i1, ei1⟩ := is_v n5
  obtain rfl : w1 = (.int i1) := Option.some.inj ei1
  obtain ⟨i2, ei2⟩ := is_v n7
  obtain rfl : w2 = (.int i2) := Option.some.inj ei2
  obtain ⟨i3, ei3⟩ := is_v n8
  obtain rfl : w3 = (.int i3) := Option.some.inj ei3
  obtain ⟨n9, n10⟩ := and_e hn
  obtain ⟨n11, n12⟩ := and_e n10
  obtain ⟨n13, n14⟩ := and_e n12
  obtain ⟨n15, n16⟩ := and_e n14
  obtain ⟨n17, n18⟩ := and_e n16
  obtain ⟨n19, n20⟩ := and_e n18
  obtain ⟨n21, n22⟩ := and_e n20
  obtain ⟨n23, n24⟩ := and_e n22
  obtain ⟨w_Database_H2, ev_w_Database_H2⟩ := exa_v n9
  obtain ⟨w_Database_POSTGRESQL, ev_w_Database_POSTGRESQL⟩ := exa_v n13
  obtain ⟨w_Database_MARIADB, ev_w_Database_MARIADB⟩ := exa_v n17
  have W : World s w_Database_H2 w_Database_POSTGRESQL w_Database_MARIADB := ⟨Sta.start ev_w_Database_H2 (Or.inr ⟨(hw _ wd2), (hw _ wd3)⟩), Exa.start ev_w_Database_H2 n9, Sta.start ev_w_Database_POSTGRESQL (Or.inr ⟨(hw _ wd2), (hw _ wd18)⟩), Exa.start ev_w_Database_POSTGRESQL n13, Sta.start ev_w_Database_MARIADB (Or.inr ⟨(hw _ wd2), (hw _ wd20)⟩), Exa.start ev_w_Database_MARIADB n17, eqI ev_w_Database_H2 n11, eqI ev_w_Database_POSTGRESQL n15, eqI ev_w_Database_MARIADB n19, eqI ev_w_Database_MARIADB n21, eqI ev_w_Database_H2 n23, eqI ev_w_Database_POSTGRESQL n24⟩
  have B : Bg s _ w_Database_H2 w_Database_POSTGRESQL w_Database_MARIADB := ⟨hw, W⟩
  obtain ⟨n, o, h1, h2, h3, _, L, rfl, ⟨rfl, N⟩, hq⟩ := (lawAll (l := l) B i0 i1 i2 i3) tables_1 p e ha hc hk s m _ below hf ((Spec.applies_iff_loose hf).mp happ).1 ⟨rfl, State.Warmed39.refl s, rfl⟩ trivial
  refine ⟨n, _, h1, h2, h3, hpost _ _ _ _ _ _ ⟨Cond.after_iff.mpr rfl, Cond.after_iff.mpr (eq_i res_at (Term.int_eval (1)) rfl), trivial⟩ ⟨hq.1, hq.2.1, (hq.2.2.sift fun y hy => Or.inr (N y hy)).mono (by decide) (by decide)⟩⟩
theorem main_1_1 : Claimed_1_1 := comes_1 fun _ _ _ _ _ _ h hF => ⟨h.1, hF⟩
theorem main_1_2 : Claimed_1_2 := comes_1 fun _ _ _ _ _ _ h hF => ⟨h.2.1, hF⟩
end Jvm.Pilot.@@N@@
namespace Jvm.Pilot.@@N@@
open Jvm Jvm.ClassFile Sem Op Lib Jvm.Free Jvm.Stand Jvm.Pilot.@@N@@.Jvm.D
/-! MADE BY PROGRAM (witnessworld.py) out of the Statement's table words and the real class files: 12 classes; the members and pool entries that the words name. The judged class is class 1, her method 2. -/
namespace start1
open Jvm.ClassFile
def u (s : String) : CpInfo := .utf8 (stringToUtf16 s)
/-- a pool by its gaps: so many unusable entries, then the entry; so many at the end -/
def gap : Nat → List CpInfo → List CpInfo
  | 0, r => r
  | n + 1, r => .unusable :: gap n r
def poolList (es : List (Nat × CpInfo)) (last : Nat) : List CpInfo := es.foldr (fun e r => gap e.1 (e.2 :: r)) (gap last [])
def pool (es : List (Nat × CpInfo)) (last : Nat) : Array CpInfo := ⟨poolList es last⟩
def fileOf (pool : Array CpInfo) (this : Nat) (attrs : Array Attribute := #[]) (ms : Array MethodInfo := #[]) (fl : Nat := 33) (sup : Nat := 0) (ifs : Array Nat := #[]) (fds : Array FieldInfo := #[]) : ClassFile where
  minorVersion := 0
  majorVersion := 65
  constantPool := pool
  accessFlags := fl
  thisClass := this
  superClass := sup
  interfaces := ifs
  fields := fds
  methods := ms
  attributes := attrs
def plain (name : String) (sup : Option ClassId) : Class where
  name := name
  kind := .ordinary
  loader := none
  accessFlags := 33
  super := sup
  interfaces := #[]
  cf := none
  fields := #[]
  methods := #[]
  instanceTypes := #[]
  staticTypes := #[]
  resolved := #[]
  callSites := []
  init := .initialized
  statics := none
  mirror := none

def pool0 : Array CpInfo := pool [(5, u "<init>"), (0, u "()V"), (1, .class_ 10), (1, u "java/lang/Object")] 113

def k0m0 : Method := { name := "<init>", desc := "()V", sig := { parameters := [], returnType := none }, accessFlags := 1, code := none }
/-- java/lang/Object -/
def k0 : Class := { plain "java/lang/Object" none with
  accessFlags := 33
  interfaces := #[]
  cf := some (fileOf pool0 8 #[] #[{ accessFlags := 1, nameIndex := 5, descriptorIndex := 6, attributes := #[] }] 33 0 #[] #[])
  fields := #[]
  methods := #[k0m0]
  instanceTypes := #[]
  staticTypes := #[]
  resolved := Array.replicate 124 none
  statics := none }

def pool1 : Array CpInfo := pool [(2, .class_ 4), (1, u "java/lang/Object"), (0, u "<init>"), (0, u "()V"), (0, .long 4294967296), (1, .long 2147483648), (1, .integer 2147483647), (0, .fieldref 13 14), (0, .class_ 15), (0, .nameAndType 16 17), (0, u "com/example/unfussy_repo/unfussyrepo/jdbc/Database"), (0, u "H2"), (0, u "Lcom/example/unfussy_repo/unfussyrepo/jdbc/Database;"), (0, .fieldref 13 19), (0, .nameAndType 20 17), (0, u "POSTGRESQL"), (0, .fieldref 13 22), (0, .nameAndType 23 17), (0, u "MARIADB"), (0, .methodref 25 26), (0, .class_ 27), (0, .nameAndType 28 29), (0, u "com/example/unfussy_repo/unfussyrepo/jdbc/DatabaseTakesSqlPinLaw"), (0, u "key"), (0, u "(II)J"), (0, .methodref 13 31), (0, .nameAndType 32 33), (0, u "takesSql"), (0, u "(II)Z"), (2, u "law"), (0, u "(IIII)Z")] 3

def k1m0 : Method := { name := "<init>", desc := "()V", sig := { parameters := [], returnType := none }, accessFlags := 1, code := none }
def k1c1 : Code := { maxStack := 6, maxLocals := 2, code := method_2_code, exceptionTable := #[], attributes := #[] }
def k1m1 : Method := { name := "key", desc := "(II)J", sig := { parameters := [.int, .int], returnType := some .long }, accessFlags := 10, code := some k1c1 }
def k1c2 : Code := { maxStack := 4, maxLocals := 11, code := code, exceptionTable := #[], attributes := #[] }
def k1m2 : Method := { name := "law", desc := "(IIII)Z", sig := { parameters := [.int, .int, .int, .int], returnType := some .boolean }, accessFlags := 9, code := some k1c2 }
/-- com/example/unfussy_repo/unfussyrepo/jdbc/DatabaseTakesSqlPinLaw -/
def k1 : Class := { plain "com/example/unfussy_repo/unfussyrepo/jdbc/DatabaseTakesSqlPinLaw" (some 0) with
  accessFlags := 49
  interfaces := #[]
  cf := some (fileOf pool1 25 #[] #[{ accessFlags := 1, nameIndex := 5, descriptorIndex := 6, attributes := #[] }, { accessFlags := 10, nameIndex := 28, descriptorIndex := 29, attributes := #[] }, { accessFlags := 9, nameIndex := 36, descriptorIndex := 37, attributes := #[] }] 49 2 #[] #[])
  fields := #[]
  methods := #[k1m0, k1m1, k1m2]
  instanceTypes := #[]
  staticTypes := #[]
  resolved := Array.replicate 41 none
  statics := none }

def pool2 : Array CpInfo := pool [(1, .class_ 2), (0, u "java/lang/constant/Constable"), (0, .class_ 4), (0, u "java/lang/Object")] 6

/-- java/lang/constant/Constable -/
def k2 : Class := { plain "java/lang/constant/Constable" (some 0) with
  accessFlags := 1537
  interfaces := #[]
  cf := some (fileOf pool2 1 #[] #[] 1537 3 #[] #[])
  fields := #[]
  methods := #[]
  instanceTypes := #[]
  staticTypes := #[]
  resolved := Array.replicate 11 none
  statics := none }

def pool3 : Array CpInfo := pool [(1, .class_ 2), (0, u "java/lang/Comparable"), (0, .class_ 4), (0, u "java/lang/Object")] 7

/-- java/lang/Comparable -/
def k3 : Class := { plain "java/lang/Comparable" (some 0) with
  accessFlags := 1537
  interfaces := #[]
  cf := some (fileOf pool3 1 #[] #[] 1537 3 #[] #[])
  fields := #[]
  methods := #[]
  instanceTypes := #[]
  staticTypes := #[]
  resolved := Array.replicate 12 none
  statics := none }

def pool4 : Array CpInfo := pool [(1, .class_ 2), (0, u "java/io/Serializable"), (0, .class_ 4), (0, u "java/lang/Object")] 2

/-- java/io/Serializable -/
def k4 : Class := { plain "java/io/Serializable" (some 0) with
  accessFlags := 1537
  interfaces := #[]
  cf := some (fileOf pool4 1 #[] #[] 1537 3 #[] #[])
  fields := #[]
  methods := #[]
  instanceTypes := #[]
  staticTypes := #[]
  resolved := Array.replicate 7 none
  statics := none }

def pool5 : Array CpInfo := pool [(2, .class_ 4), (1, u "java/lang/Enum"), (0, u "name"), (0, u "Ljava/lang/String;"), (2, u "ordinal"), (0, u "I"), (1, .class_ 14), (1, u "java/lang/Object"), (4, u "hash"), (86, .class_ 108), (1, u "java/lang/Enum$EnumDesc"), (2, .class_ 112), (0, u "java/lang/constant/Constable"), (0, .class_ 114), (0, u "java/lang/Comparable"), (0, .class_ 116), (0, u "java/io/Serializable")] 87

/-- java/lang/Enum -/
def k5 : Class := { plain "java/lang/Enum" (some 0) with
  accessFlags := 1057
  interfaces := #[2, 3, 4]
  cf := some (fileOf pool5 2 #[.nestMembers #[106]] #[] 1057 12 #[111, 113, 115] #[{ accessFlags := 18, nameIndex := 5, descriptorIndex := 6, attributes := #[] }, { accessFlags := 18, nameIndex := 9, descriptorIndex := 10, attributes := #[] }, { accessFlags := 2, nameIndex := 19, descriptorIndex := 10, attributes := #[] }])
  fields := #[{ name := "name", type := (.object "java/lang/String"), accessFlags := 18, slot := 0, constantValue := 0 }, { name := "ordinal", type := .int, accessFlags := 18, slot := 1, constantValue := 0 }, { name := "hash", type := .int, accessFlags := 2, slot := 2, constantValue := 0 }]
  methods := #[]
  instanceTypes := #[(.object "java/lang/String"), .int, .int]
  staticTypes := #[]
  resolved := Array.replicate 204 none
  statics := none }

def pool6 : Array CpInfo := pool [(1, .class_ 2), (0, u "com/example/unfussy_repo/unfussyrepo/jdbc/Database"), (2, u "H2"), (0, u "Lcom/example/unfussy_repo/unfussyrepo/jdbc/Database;"), (2, u "POSTGRESQL"), (2, u "MARIADB"), (2, u "$VALUES"), (0, u "[Lcom/example/unfussy_repo/unfussyrepo/jdbc/Database;"), (6, .class_ 25), (1, u "java/lang/Enum"), (8, u "product"), (0, u "Ljava/lang/String;"), (0, .fieldref 1 37), (0, .nameAndType 38 39), (0, u "lowestMajor"), (0, u "I"), (0, .fieldref 1 41), (0, .nameAndType 42 39), (0, u "lowestMinor"), (63, u "takesSql"), (0, u "(II)Z")] 21

def k6c0 : Code := { maxStack := 2, maxLocals := 3, code := prog_13_method_6_code, exceptionTable := #[], attributes := #[] }
def k6m0 : Method := { name := "takesSql", desc := "(II)Z", sig := { parameters := [.int, .int], returnType := some .boolean }, accessFlags := 0, code := some k6c0 }
/-- com/example/unfussy_repo/unfussyrepo/jdbc/Database -/
def k6 : Class := { plain "com/example/unfussy_repo/unfussyrepo/jdbc/Database" (some 5) with
  accessFlags := 16433
  interfaces := #[]
  cf := some (fileOf pool6 1 #[] #[{ accessFlags := 0, nameIndex := 106, descriptorIndex := 107, attributes := #[] }] 16433 23 #[] #[{ accessFlags := 16409, nameIndex := 5, descriptorIndex := 6, attributes := #[] }, { accessFlags := 16409, nameIndex := 9, descriptorIndex := 6, attributes := #[] }, { accessFlags := 16409, nameIndex := 12, descriptorIndex := 6, attributes := #[] }, { accessFlags := 18, nameIndex := 34, descriptorIndex := 35, attributes := #[] }, { accessFlags := 18, nameIndex := 38, descriptorIndex := 39, attributes := #[] }, { accessFlags := 18, nameIndex := 42, descriptorIndex := 39, attributes := #[] }, { accessFlags := 4122, nameIndex := 15, descriptorIndex := 16, attributes := #[] }])
  fields := #[{ name := "H2", type := (.object "com/example/unfussy_repo/unfussyrepo/jdbc/Database"), accessFlags := 16409, slot := 0, constantValue := 0 }, { name := "POSTGRESQL", type := (.object "com/example/unfussy_repo/unfussyrepo/jdbc/Database"), accessFlags := 16409, slot := 1, constantValue := 0 }, { name := "MARIADB", type := (.object "com/example/unfussy_repo/unfussyrepo/jdbc/Database"), accessFlags := 16409, slot := 2, constantValue := 0 }, { name := "product", type := (.object "java/lang/String"), accessFlags := 18, slot := 3, constantValue := 0 }, { name := "lowestMajor", type := .int, accessFlags := 18, slot := 4, constantValue := 0 }, { name := "lowestMinor", type := .int, accessFlags := 18, slot := 5, constantValue := 0 }, { name := "$VALUES", type := (.array (.object "com/example/unfussy_repo/unfussyrepo/jdbc/Database")), accessFlags := 4122, slot := 3, constantValue := 0 }]
  methods := #[k6m0]
  instanceTypes := #[(.object "java/lang/String"), .int, .int, (.object "java/lang/String"), .int, .int]
  staticTypes := #[(.object "com/example/unfussy_repo/unfussyrepo/jdbc/Database"), (.object "com/example/unfussy_repo/unfussyrepo/jdbc/Database"), (.object "com/example/unfussy_repo/unfussyrepo/jdbc/Database"), (.array (.object "com/example/unfussy_repo/unfussyrepo/jdbc/Database"))]
  resolved := Array.replicate 129 none
  statics := some 0 }

def pool7 : Array CpInfo := pool [(1, u "java/lang/Cloneable"), (0, .class_ 1), (0, u "java/lang/Object"), (0, .class_ 3)] 3

/-- java/lang/Cloneable -/
def k7 : Class := { plain "java/lang/Cloneable" (some 0) with
  accessFlags := 1537
  interfaces := #[]
  cf := some (fileOf pool7 2 #[] #[] 1537 4 #[] #[])
  fields := #[]
  methods := #[]
  instanceTypes := #[]
  staticTypes := #[]
  resolved := Array.replicate 8 none
  statics := none }

/-- the primitive byte -/
def k8 : Class := { plain "byte" none with kind := .primitive 'B', accessFlags := 0x411 }
/-- [B -/
def k9 : Class := { plain "[B" (some 0) with kind := .array 8 .byte, interfaces := #[7, 4], accessFlags := 1041 }

/-- the primitive int -/
def k10 : Class := { plain "int" none with kind := .primitive 'I', accessFlags := 0x411 }
/-- [I -/
def k11 : Class := { plain "[I" (some 0) with kind := .array 10 .int, interfaces := #[7, 4], accessFlags := 1041 }

def heap : Heap := #[{ cls := 6, slots := #[.ref 1, .ref 2, .ref 3, .null], vm := .statics 6 },
  { cls := 6, slots := #[.null, .int 0, .int 0, .null, .int 2, .int 0], vm := .none },
  { cls := 6, slots := #[.null, .int 0, .int 0, .null, .int 10, .int 5], vm := .none },
  { cls := 6, slots := #[.null, .int 0, .int 0, .null, .int 10, .int 6], vm := .none }]
def classes : Array Class := #[k0, k1, k2, k3, k4, k5, k6, k7, k8, k9, k10, k11]
def interned : List (Array UInt16 × Addr) := []
def slotsUsed : Nat := 22
def theMethod : MethodId := ⟨1, 2⟩
def args0 : Array Value := #[.int 5, .int 5, .int 5, .int 5]
def aboutOver (below : List Frame) : State where
  vm := { classes := classes, interned := interned.toArray }
  heap := heap
  slotsUsed := slotsUsed
  threads := #[{ frames := .invoking theMethod args0 :: below }]
def below0 : List Frame := [.native { method := ⟨0, 0⟩, args := #[] }]
def about1 : State := aboutOver below0
def p0 : Program := .bare "" "" ""
def e0 : Env := launch0.env 0 0 0
theorem w_frames : about1.frames = Frame.invoking theMethod args0 :: below0 := rfl
set_option maxRecDepth 65536 in
theorem w_args : argsFit about1.vm theMethod args0 = true := by decide +kernel
set_option maxRecDepth 65536 in
theorem w_heap : heapFits about1 = true := by decide +kernel
set_option maxRecDepth 65536 in
theorem w_runnable : about1.curStatus? = some .runnable := by decide +kernel
set_option maxRecDepth 65536 in
theorem w_alone : about1.alone = true := by decide +kernel
set_option maxRecDepth 65536 in
theorem w_named : about1.methodNamed? x = some theMethod := by decide +kernel
set_option maxRecDepth 65536 in
theorem w_hears : about1.hears theMethod below0 = true := by decide +kernel
set_option maxRecDepth 65536 in
theorem w_ripe : about1.ripe theMethod args0 below0 = true := by decide +kernel
theorem w_running : about1.status = .running := rfl
set_option maxRecDepth 65536 in
theorem w_room : about1.hasRoom e0.platform room_1 = true :=
  launch0.hasRoom_least _ room_1 (by decide +kernel) (by decide +kernel) (by decide +kernel) (by decide +kernel) (by decide +kernel) (by decide +kernel)
theorem allAtoms_all (ts : List Jvm.Cond) (a : Array Jvm.Value) (st : Jvm.State) : (allAtoms ts).before a st = ts.all (fun c => c.before a st) := by
  induction ts with
  | nil => rfl
  | cons c t ih =>
    show (Jvm.Cond.and c (allAtoms t)).before a st = _
    rw [Jvm.Cond.before_and, ih, List.all_cons]
def words1 : List Jvm.Cond := Jvm.Cond.code x code maxLocals ret :: tables_1
/-- a 'code' word, met by the world's own term for the bytes: nothing is compared byte by byte -/
theorem code_word {y : MethodName} {bytes : ByteArray} {mx : Nat} {rt : Option FieldType} {a : Array Value} {s : State} {m : MethodId} {meth : Method} {c : Code} (h1 : s.methodNamed? y = some m) (h2 : s.vm.method? m = some meth) (h3 : meth.code = some c) (h4 : c.code = bytes)
    (h5 : (c.maxLocals == mx && c.exceptionTable.isEmpty && decide (c.maxStack ≤ mostOperands) && decide (meth.sig.returnType = rt) && !meth.locks && decide (parseMethodDescriptor y.desc = some meth.sig)) = true) : (Jvm.Cond.code y bytes mx rt).before a s = true := by
  simp only [Bool.and_eq_true, beq_iff_eq, Bool.not_eq_true', decide_eq_true_eq] at h5
  obtain ⟨⟨⟨⟨⟨g1, g2⟩, g3⟩, g4⟩, g5⟩, g6⟩ := h5
  simp [Cond.before, Cond.holds, Cond.value, h1, h2, h3, h4, g1, g2, g3, g4, g5, g6]
def isCode : Jvm.Cond → Bool
  | .code _ _ _ _ => true
  | _ => false
theorem all_split {L : List Jvm.Cond} {P : Jvm.Cond → Bool} (h1 : L.all (fun c => isCode c || P c) = true) (h2 : ∀ c ∈ L.filter isCode, P c = true) : L.all P = true := by
  refine List.all_eq_true.mpr fun c hc => ?_
  have h := List.all_eq_true.mp h1 c hc
  rcases Bool.eq_false_or_eq_true (isCode c) with hi | hi
  · exact h2 c (List.mem_filter.mpr ⟨hc, hi⟩)
  · simpa [hi] using h
set_option maxRecDepth 65536 in
theorem w_c0 : (Jvm.Cond.code x code maxLocals ret).before args0 about1 = true := code_word (m := ⟨1, 2⟩) (meth := k1m2) (c := k1c2) (by decide +kernel) rfl rfl rfl (by decide +kernel)
set_option maxRecDepth 65536 in
theorem w_c1 : (Jvm.Cond.code ({ cls := "com/example/unfussy_repo/unfussyrepo/jdbc/DatabaseTakesSqlPinLaw", name := "key", desc := "(II)J" } : Jvm.MethodName) method_2_code (2 : Nat) (Option.some Jvm.ClassFile.FieldType.long)).before args0 about1 = true := code_word (m := ⟨1, 1⟩) (meth := k1m1) (c := k1c1) (by decide +kernel) rfl rfl rfl (by decide +kernel)
set_option maxRecDepth 65536 in
theorem w_c2 : (Jvm.Cond.code ({ cls := "com/example/unfussy_repo/unfussyrepo/jdbc/Database", name := "takesSql", desc := "(II)Z" } : Jvm.MethodName) prog_13_method_6_code (3 : Nat) (Option.some Jvm.ClassFile.FieldType.boolean)).before args0 about1 = true := code_word (m := ⟨6, 0⟩) (meth := k6m0) (c := k6c0) (by decide +kernel) rfl rfl rfl (by decide +kernel)
def codes1 : List Jvm.Cond := [Jvm.Cond.code x code maxLocals ret, Jvm.Cond.code ({ cls := "com/example/unfussy_repo/unfussyrepo/jdbc/DatabaseTakesSqlPinLaw", name := "key", desc := "(II)J" } : Jvm.MethodName) method_2_code (2 : Nat) (Option.some Jvm.ClassFile.FieldType.long), Jvm.Cond.code ({ cls := "com/example/unfussy_repo/unfussyrepo/jdbc/Database", name := "takesSql", desc := "(II)Z" } : Jvm.MethodName) prog_13_method_6_code (3 : Nat) (Option.some Jvm.ClassFile.FieldType.boolean)]
set_option maxRecDepth 65536 in
theorem codes_eq : words1.filter isCode = codes1 := rfl
theorem w_codes : ∀ c ∈ words1.filter isCode, c.before args0 about1 = true := by
  rw [codes_eq]
  intro c hc
  simp only [codes1, List.mem_cons, List.not_mem_nil, or_false] at hc
  rcases hc with rfl | rfl | rfl
  · exact w_c0
  · exact w_c1
  · exact w_c2
set_option maxRecDepth 65536 in
theorem w_t1 : words1.all (fun c => isCode c || c.before args0 about1) = true := by decide +kernel
theorem w_tables : (allAtoms (Jvm.Cond.code x code maxLocals ret :: tables_1)).before args0 about1 = true := by
  rw [allAtoms_all]
  show words1.all (fun c => c.before args0 about1) = true
  refine all_split ?_ w_codes
  rw [w_t1]
set_option maxRecDepth 65536 in
theorem w_case : (Jvm.Cond.and given_1 narrow_1).before args0 about1 = true := by decide +kernel
theorem w_applies : (headSpec (Jvm.Cond.code x code maxLocals ret :: tables_1) room_1).applies x e0.platform about1 = true :=
  (Spec.applies_iff w_frames).mpr ⟨w_running, w_runnable, w_alone, w_named, w_hears, w_ripe, w_room, w_tables⟩
theorem atStart : AtStart classFile x code maxLocals ret World_1 tables_1 room_1 Calls_1 rest_1 Pre_1 launch0 p0 e0 about1 theMethod args0 below0 :=
  ⟨lists_1, trivial, launch0.admits_env _ _ _, launch0.least_env, fairChoices_fair.cas, fairChoices_fair.clock, w_frames, w_args, w_heap, w_applies, trivial, trivial, w_case⟩
end start1
theorem witness_1 : WitnessClaimed_1 := ⟨start1.p0, start1.e0, start1.about1, start1.theMethod, start1.args0, start1.below0, start1.atStart⟩
end Jvm.Pilot.@@N@@
