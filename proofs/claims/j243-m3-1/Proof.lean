import JvmDerived
import JvmDerived.Pilot.@@N@@Statement
import JvmDerived.Pilot.@@N@@Code
set_option linter.unusedVariables false
set_option linter.unusedSimpArgs false
set_option maxRecDepth 65536
set_option maxHeartbeats 8000000
namespace Jvm.Pilot.@@N@@
open Jvm Jvm.ClassFile Sem Op Lib Jvm.Free Jvm.Stand Jvm.LawKit Jvm.RoadKit Bundle Jvm.Pilot.@@N@@.Jvm.D
abbrev vI (x : Int32) : Slot := .val (.int x)
abbrev vJ (x : Int64) : Slot := .val (.long x)
abbrev vR (x : Addr) : Slot := .val (.ref x)
abbrev vN : Slot := .val .null
/-- the run from S comes to an end at which K holds -/
def Go (p : Program) (e : Env) (below : List Frame) (K : State → Outcome → Prop) (S : State) : Prop := ∃ t o, Steps p.tables e below S t ∧ K t o
theorem Go.via {p : Program} {e : Env} {below : List Frame} {K : State → Outcome → Prop} {A B : State} (h : ∀ t, Steps p.tables e below B t → Steps p.tables e below A t) (g : Go p e below K B) : Go p e below K A := by
  obtain ⟨t, o, h1, h2⟩ := g; exact ⟨t, o, h t h1, h2⟩
/-- a method's end: what it returned, the heap and the places written answer Q -/
def EndK (s : State) (below : List Frame) (Q : Option Value → Heap → List Loc → Prop) (C S : Nat) (t : State) (o : Outcome) : Prop := t.status = .running ∧ Ended t below o ∧ ∃ v L, o = .returned v ∧ Q v t.heap L ∧ FrameEnd s o t L C S
/-- a method's contract -/
def Con (l : Launch) (Z : State) (y : MethodName) (bytes : ByteArray) (maxL : Nat) (ret : Option FieldType) (rm : Room) (as : Array Value) (h : Heap) (Q : Option Value → Heap → List Loc → Prop) : Prop :=
  ∀ ws, MetFree l y (head1 (Jvm.Cond.code y bytes maxL ret :: ws) rm) (fun a U => a = as ∧ Z.Warmed39 U.vm ∧ U.heap = h) (fun _ _ _ _ _ => True) (fun _ U o U' => ∃ v L, o = .returned v ∧ Q v U'.heap L ∧ FrameEnd U o U' L rm.cells rm.slots)
theorem Con.of {l : Launch} {Z : State} {y : MethodName} {bytes : ByteArray} {maxL : Nat} {ret : Option FieldType} {rm : Room} {as : Array Value} {h : Heap} {Q : Option Value → Heap → List Loc → Prop} {Ls : Array Slot} (hp : plainFor y = true) (hfr : ∀ m, entryFrame m as maxL = mkF m 0 Ls [])
    (body : ∀ (p : Program) (e : Env) (s : State) (m : MethodId) (below : List Frame) (meth : Method) (c : Code) (T : State), Stand p l e rm s m as below meth c T [] 0 0 → p.tables.exec = Jvm.exec ∧ c.code = bytes → c.maxLocals = maxL → Z.Warmed39 s.vm → s.vm.findClass y.cls = some m.cls → meth.name = y.name → meth.sig.returnType = ret → meth.locks = false → T.heap = h → Go p e below (EndK s below Q rm.cells rm.slots) (T.setTop (mkF m 0 Ls []))) :
    Con l Z y bytes maxL ret rm as h Q := by
  intro ws
  refine MetFree.of_bodySF hp hisR ?_
  intro p e s m args below meth c s₁ Bd hml hP hK
  obtain ⟨rfl, hZ, hh⟩ := hP
  have e0 : s₁.heap = h := by rw [← hh, Bd.state]; rfl
  obtain ⟨t, o, h1, h2⟩ := body p e s m below meth c s₁ (Stand.of_body Bd) ⟨Bd.exec, Bd.bytes⟩ hml hZ (findClass_of_methodNamed Bd.named) (name_of_methodNamed Bd.named Bd.method).1 Bd.returns Bd.notSynchronized e0
  exact ⟨t, o, castTop (hfr m) h1, h2⟩
section Steps
variable {p : Program} {l : Launch} {e : Env} {R : Room} {s : State} {m : MethodId} {args : Array Value} {below : List Frame} {meth : Method} {c : Code} {T : State} {locs : List Loc} {cells slots : Nat} {K : State → Outcome → Prop} {Z : State} {a0 : Array Value} {h : Heap} {bs : ByteArray} {Ls Ls' : Array Slot} {st : List Value} {pc pc' : Nat}

theorem gIloadN (X : Stand p l e R s m args below meth c T locs cells slots) (H : p.tables.exec = Jvm.exec ∧ c.code = bs) {k : Fin 4} {v : Int32} (hd : decode bs pc = .ok (.iload_n k, 1)) (hl : Ls[k.val]? = some (.val (.int v))) (pc' : Nat) (hp : pc + 1 = pc') (g : Go p e below K (T.setTop (mkF m pc' Ls (.int v :: st)))) : Go p e below K (T.setTop (mkF m pc Ls (st))) := by
  subst hp
  exact Go.via (fun t k => XS.iloadN (g := mkF m pc Ls (st)) X.here H.1 rfl (hb H.2 hd) hl k) g

theorem gAloadN (X : Stand p l e R s m args below meth c T locs cells slots) (H : p.tables.exec = Jvm.exec ∧ c.code = bs) {k : Fin 4} {v : Value} (hd : decode bs pc = .ok (.aload_n k, 1)) (hl : Ls[k.val]? = some (.val v)) (hv : v.isRef = true) (pc' : Nat) (hp : pc + 1 = pc') (g : Go p e below K (T.setTop (mkF m pc' Ls (v :: st)))) : Go p e below K (T.setTop (mkF m pc Ls (st))) := by
  subst hp
  exact Go.via (fun t k => XS.aloadN (g := mkF m pc Ls (st)) X.here H.1 rfl (hb H.2 hd) hl hv k) g

theorem gIstoreN (X : Stand p l e R s m args below meth c T locs cells slots) (H : p.tables.exec = Jvm.exec ∧ c.code = bs) {k : Fin 4} {v : Int32} (hd : decode bs pc = .ok (.istore_n k, 1)) (hl : storeLocals Ls k.val (.int v) = some Ls') (pc' : Nat) (hp : pc + 1 = pc') (g : Go p e below K (T.setTop (mkF m pc' Ls' (st)))) : Go p e below K (T.setTop (mkF m pc Ls (.int v :: st))) := by
  subst hp
  exact Go.via (fun t k => XS.istoreN (g := mkF m pc Ls (.int v :: st)) X.here H.1 rfl (hb H.2 hd) rfl hl k) g

theorem gIload (X : Stand p l e R s m args below meth c T locs cells slots) (H : p.tables.exec = Jvm.exec ∧ c.code = bs) {k : Nat} {v : Int32} (hd : decode bs pc = .ok (.iload k, 2)) (hl : Ls[k]? = some (.val (.int v))) (pc' : Nat) (hp : pc + 2 = pc') (g : Go p e below K (T.setTop (mkF m pc' Ls (.int v :: st)))) : Go p e below K (T.setTop (mkF m pc Ls (st))) := by
  subst hp
  exact Go.via (fun t k => XS.iload (g := mkF m pc Ls (st)) X.here H.1 rfl (hb H.2 hd) hl k) g

theorem gAload (X : Stand p l e R s m args below meth c T locs cells slots) (H : p.tables.exec = Jvm.exec ∧ c.code = bs) {k : Nat} {v : Value} (hd : decode bs pc = .ok (.aload k, 2)) (hl : Ls[k]? = some (.val v)) (hv : v.isRef = true) (pc' : Nat) (hp : pc + 2 = pc') (g : Go p e below K (T.setTop (mkF m pc' Ls (v :: st)))) : Go p e below K (T.setTop (mkF m pc Ls (st))) := by
  subst hp
  exact Go.via (fun t k => XS.aload (g := mkF m pc Ls (st)) X.here H.1 rfl (hb H.2 hd) hl hv k) g

theorem gIstore (X : Stand p l e R s m args below meth c T locs cells slots) (H : p.tables.exec = Jvm.exec ∧ c.code = bs) {k : Nat} {v : Int32} (hd : decode bs pc = .ok (.istore k, 2)) (hl : storeLocals Ls k (.int v) = some Ls') (pc' : Nat) (hp : pc + 2 = pc') (g : Go p e below K (T.setTop (mkF m pc' Ls' (st)))) : Go p e below K (T.setTop (mkF m pc Ls (.int v :: st))) := by
  subst hp
  exact Go.via (fun t k => XS.istore (g := mkF m pc Ls (.int v :: st)) X.here H.1 rfl (hb H.2 hd) rfl hl k) g

theorem gAstore (X : Stand p l e R s m args below meth c T locs cells slots) (H : p.tables.exec = Jvm.exec ∧ c.code = bs) {k : Nat} {v : Value} (hd : decode bs pc = .ok (.astore k, 2)) (hv : v.isRef = true) (hl : storeLocals Ls k v = some Ls') (pc' : Nat) (hp : pc + 2 = pc') (g : Go p e below K (T.setTop (mkF m pc' Ls' (st)))) : Go p e below K (T.setTop (mkF m pc Ls (v :: st))) := by
  subst hp
  exact Go.via (fun t k => XS.astore (g := mkF m pc Ls (v :: st)) X.here H.1 rfl (hb H.2 hd) rfl hv hl k) g

theorem gIconst (X : Stand p l e R s m args below meth c T locs cells slots) (H : p.tables.exec = Jvm.exec ∧ c.code = bs) {i : Int} {z : Int32} (hd : decode bs pc = .ok (.iconst i, 1)) (hz : Int32.ofInt i = z) (pc' : Nat) (hp : pc + 1 = pc') (g : Go p e below K (T.setTop (mkF m pc' Ls (.int z :: st)))) : Go p e below K (T.setTop (mkF m pc Ls (st))) := by
  subst hp hz
  exact Go.via (fun t k => XS.iconst (g := mkF m pc Ls (st)) X.here H.1 rfl (hb H.2 hd) k) g

theorem gBipush (X : Stand p l e R s m args below meth c T locs cells slots) (H : p.tables.exec = Jvm.exec ∧ c.code = bs) {i : Int} {z : Int32} (hd : decode bs pc = .ok (.bipush i, 2)) (hz : (Int8.ofInt i).toInt32 = z) (pc' : Nat) (hp : pc + 2 = pc') (g : Go p e below K (T.setTop (mkF m pc' Ls (.int z :: st)))) : Go p e below K (T.setTop (mkF m pc Ls (st))) := by
  subst hp hz
  exact Go.via (fun t k => XS.bipush (g := mkF m pc Ls (st)) X.here H.1 rfl (hb H.2 hd) k) g

theorem g_iadd (X : Stand p l e R s m args below meth c T locs cells slots) (H : p.tables.exec = Jvm.exec ∧ c.code = bs) {x y z : Int32} (hd : decode bs pc = .ok (.iadd, 1)) (hz : x + y = z) (pc' : Nat) (hp : pc + 1 = pc') (g : Go p e below K (T.setTop (mkF m pc' Ls (.int z :: st)))) : Go p e below K (T.setTop (mkF m pc Ls (.int y :: .int x :: st))) := by
  subst hp hz
  exact Go.via (fun t k => XS.iadd (g := mkF m pc Ls (.int y :: .int x :: st)) X.here H.1 rfl (hb H.2 hd) rfl k) g

theorem g_isub (X : Stand p l e R s m args below meth c T locs cells slots) (H : p.tables.exec = Jvm.exec ∧ c.code = bs) {x y z : Int32} (hd : decode bs pc = .ok (.isub, 1)) (hz : x - y = z) (pc' : Nat) (hp : pc + 1 = pc') (g : Go p e below K (T.setTop (mkF m pc' Ls (.int z :: st)))) : Go p e below K (T.setTop (mkF m pc Ls (.int y :: .int x :: st))) := by
  subst hp hz
  exact Go.via (fun t k => XS.isub (g := mkF m pc Ls (.int y :: .int x :: st)) X.here H.1 rfl (hb H.2 hd) rfl k) g

theorem g_iand (X : Stand p l e R s m args below meth c T locs cells slots) (H : p.tables.exec = Jvm.exec ∧ c.code = bs) {x y z : Int32} (hd : decode bs pc = .ok (.iand, 1)) (hz : x &&& y = z) (pc' : Nat) (hp : pc + 1 = pc') (g : Go p e below K (T.setTop (mkF m pc' Ls (.int z :: st)))) : Go p e below K (T.setTop (mkF m pc Ls (.int y :: .int x :: st))) := by
  subst hp hz
  exact Go.via (fun t k => XS.iand (g := mkF m pc Ls (.int y :: .int x :: st)) X.here H.1 rfl (hb H.2 hd) rfl k) g

theorem g_irem (X : Stand p l e R s m args below meth c T locs cells slots) (H : p.tables.exec = Jvm.exec ∧ c.code = bs) {x y z : Int32} (hd : decode bs pc = .ok (.irem, 1)) (hy : y ≠ 0) (hz : x % y = z) (pc' : Nat) (hp : pc + 1 = pc') (g : Go p e below K (T.setTop (mkF m pc' Ls (.int z :: st)))) : Go p e below K (T.setTop (mkF m pc Ls (.int y :: .int x :: st))) := by
  subst hp hz
  exact Go.via (fun t k => iremM (g := mkF m pc Ls (.int y :: .int x :: st)) X H.1 rfl (hb H.2 hd) rfl hy k) g

theorem g_i2s (X : Stand p l e R s m args below meth c T locs cells slots) (H : p.tables.exec = Jvm.exec ∧ c.code = bs) {x : Int32} {z : Int32} (hd : decode bs pc = .ok (.i2s, 1)) (hz : x.toInt16.toInt32 = z) (pc' : Nat) (hp : pc + 1 = pc') (g : Go p e below K (T.setTop (mkF m pc' Ls (.int z :: st)))) : Go p e below K (T.setTop (mkF m pc Ls (.int x :: st))) := by
  subst hp hz
  exact Go.via (fun t k => XS.i2s (g := mkF m pc Ls (.int x :: st)) X.here H.1 rfl (hb H.2 hd) rfl k) g

theorem gGoto (X : Stand p l e R s m args below meth c T locs cells slots) (H : p.tables.exec = Jvm.exec ∧ c.code = bs)  {o : Int} (hd : decode bs pc = .ok (.goto o, 3)) (ho : 0 ≤ (pc : Int) + o) (pc' : Nat) (hp : ((pc : Int) + o).toNat = pc') (g : Go p e below K (T.setTop (mkF m pc' Ls (st)))) : Go p e below K (T.setTop (mkF m pc Ls (st))) :=
  Go.via (fun t k => XS.goto (g := mkF m pc Ls (st)) X.here H.1 rfl rfl (hb H.2 hd) ho hp k) g

theorem gIfY (X : Stand p l e R s m args below meth c T locs cells slots) (H : p.tables.exec = Jvm.exec ∧ c.code = bs) {cd : ClassFile.Cond} {x : Int32} {o : Int} (hd : decode bs pc = .ok (.ifCond cd o, 3)) (hc : ifCond.holds cd x = true) (ho : 0 ≤ (pc : Int) + o) (pc' : Nat) (hp : ((pc : Int) + o).toNat = pc') (g : Go p e below K (T.setTop (mkF m pc' Ls (st)))) : Go p e below K (T.setTop (mkF m pc Ls (.int x :: st))) :=
  Go.via (fun t k => XS.ifYes (g := mkF m pc Ls (.int x :: st)) X.here H.1 rfl rfl (hb H.2 hd) rfl hc ho hp k) g

theorem gCmpY (X : Stand p l e R s m args below meth c T locs cells slots) (H : p.tables.exec = Jvm.exec ∧ c.code = bs) {cd : ClassFile.Cond} {x y : Int32} {o : Int} (hd : decode bs pc = .ok (.if_icmp cd o, 3)) (hc : if_icmp.holds cd x y = true) (ho : 0 ≤ (pc : Int) + o) (pc' : Nat) (hp : ((pc : Int) + o).toNat = pc') (g : Go p e below K (T.setTop (mkF m pc' Ls (st)))) : Go p e below K (T.setTop (mkF m pc Ls (.int y :: .int x :: st))) :=
  Go.via (fun t k => XS.icmpYes (g := mkF m pc Ls (.int y :: .int x :: st)) X.here H.1 rfl rfl (hb H.2 hd) rfl hc ho hp k) g

theorem gIfN (X : Stand p l e R s m args below meth c T locs cells slots) (H : p.tables.exec = Jvm.exec ∧ c.code = bs) {o : Int} {cd : ClassFile.Cond} {x : Int32} (hd : decode bs pc = .ok (.ifCond cd o, 3)) (hc : ifCond.holds cd x = false) (pc' : Nat) (hp : pc + 3 = pc') (g : Go p e below K (T.setTop (mkF m pc' Ls (st)))) : Go p e below K (T.setTop (mkF m pc Ls (.int x :: st))) := by
  subst hp
  exact Go.via (fun t k => XS.ifNo (g := mkF m pc Ls (.int x :: st)) X.here H.1 rfl (hb H.2 hd) rfl hc k) g

theorem gCmpN (X : Stand p l e R s m args below meth c T locs cells slots) (H : p.tables.exec = Jvm.exec ∧ c.code = bs) {o : Int} {cd : ClassFile.Cond} {x y : Int32} (hd : decode bs pc = .ok (.if_icmp cd o, 3)) (hc : if_icmp.holds cd x y = false) (pc' : Nat) (hp : pc + 3 = pc') (g : Go p e below K (T.setTop (mkF m pc' Ls (st)))) : Go p e below K (T.setTop (mkF m pc Ls (.int y :: .int x :: st))) := by
  subst hp
  exact Go.via (fun t k => XS.icmpNo (g := mkF m pc Ls (.int y :: .int x :: st)) X.here H.1 rfl (hb H.2 hd) rfl hc k) g

theorem gLdc (X : Stand p l e R s m args below meth c T locs cells slots) (H : p.tables.exec = Jvm.exec ∧ c.code = bs) (hZ : Z.Warmed39 s.vm) {own : String} {index : Nat} (hown : s.vm.findClass own = some m.cls) {v : Int32} (w : (Cond.constant own index v).before a0 Z = true) (hd : decode bs pc = .ok (.ldc index, 2)) (pc' : Nat) (hp : pc + 2 = pc') (g : Go p e below K (T.setTop (mkF m pc' Ls (.int v :: st)))) : Go p e below K (T.setTop (mkF m pc Ls (st))) := by
  subst hp
  exact Go.via (X.ldcInt H.1 hown (mvT hZ w) (g := mkF m pc Ls st) rfl (hb H.2 hd)) g

theorem gGetS (X : Stand p l e R s m args below meth c T locs cells slots) (H : p.tables.exec = Jvm.exec ∧ c.code = bs) (hZ : Z.Warmed39 s.vm) {own : String} {index : Nat} (hown : s.vm.findClass own = some m.cls) {O n d : String} {v : Value} (w : (Cond.fieldLink own index O n d).before a0 Z = true) (eT : T.heap = h) (F : Sta Z h O n d v) (hd : decode bs pc = .ok (.getstatic index, 3)) (pc' : Nat) (hp : pc + 3 = pc') (g : ∀ T', Stand p l e R s m args below meth c T' locs cells slots → T'.heap = h → Go p e below K (T'.setTop (mkF m pc' Ls (v :: st)))) : Go p e below K (T.setTop (mkF m pc Ls (st))) := by
  subst hp
  obtain ⟨T', X', e', k⟩ := getS2 X H.1 hZ hown (host := "") (Or.inl w) Via.refl eT F (g := mkF m pc Ls st) rfl (hb H.2 hd)
  exact Go.via k (g T' X' e')

theorem gGetF (X : Stand p l e R s m args below meth c T locs cells slots) (H : p.tables.exec = Jvm.exec ∧ c.code = bs) (hZ : Z.Warmed39 s.vm) {own : String} {index : Nat} (hown : s.vm.findClass own = some m.cls) {R0 O n d : String} {a : Addr} {v : Value} (w : (Cond.fieldLink own index R0 n d).before a0 Z = true) (via : Via Z R0 O n d) (eT : T.heap = h) (F : Fld Z h a O n d v) (hd : decode bs pc = .ok (.getfield index, 3)) (pc' : Nat) (hp : pc + 3 = pc') (g : ∀ T', Stand p l e R s m args below meth c T' locs cells slots → T'.heap = h → Go p e below K (T'.setTop (mkF m pc' Ls (v :: st)))) : Go p e below K (T.setTop (mkF m pc Ls (.ref a :: st))) := by
  subst hp
  obtain ⟨T', X', e', k⟩ := getF X H.1 hZ hown (host := "") (Or.inl w) via eT F (g := mkF m pc Ls (.ref a :: st)) rfl rfl (hb H.2 hd)
  exact Go.via k (g T' X' e')

theorem gRetN (X : Stand p l e R s m args below meth c T locs cells slots) (H : p.tables.exec = Jvm.exec ∧ c.code = bs) (hlk : meth.locks = false) {Q : Option Value → Heap → List Loc → Prop} {C S : Nat} {t : FieldType} {z : Int32} (hret : meth.sig.returnType = some t) (ht : t = .boolean ∨ t = .byte ∨ t = .char ∨ t = .short) (hd : decode bs pc = .ok (.ireturn, 1)) (eT : T.heap = h) (q : Q (some (.int (nar t z))) h locs) (hC : cells ≤ C := by decide) (hS : slots ≤ S := by decide) : Go p e below (EndK s below Q C S) (T.setTop (mkF m pc Ls (.int z :: st))) := by
  subst eT
  obtain ⟨fs, hr, hrun, hended, hW, hsame⟩ := X.leave (v := (some (.int (nar t z)))) (fun h => by rw [hret] at h; cases h) hlk
  exact ⟨_, _, retN X H.1 hret ht (hb H.2 hd) hr, hrun, hended, _, _, rfl, q, ⟨_, rfl⟩, hW, hsame.mono hC hS⟩

theorem gVirt (X : Stand p l e R s m args below meth c T locs cells slots) (H : p.tables.exec = Jvm.exec ∧ c.code = bs) (hZ : Z.Warmed39 s.vm) {own : String} {index : Nat} (hown : s.vm.findClass own = some m.cls) {C : String} {y : MethodName} {bytes : ByteArray} {maxL : Nat} {ret : Option FieldType} {rm : Room} {as : Array Value} {Q : Option Value → Heap → List Loc → Prop} {W maxO : Nat} {argsL rest : List Value} {ps : List FieldType} {r : Option FieldType} (wl : (Cond.methodLink own index y).before a0 Z = true) (wd : (Cond.declares y).before a0 Z = true) (wse : (Cond.selects C y y).before a0 Z = true) (wi : (Cond.instanceMethod y).before a0 Z = true) (hy : y.cls ≠ "java/lang/invoke/MethodHandle" ∧ y.cls ≠ "java/lang/invoke/VarHandle") {b : Addr} (E : Exa Z h b C) (wc : (Cond.code y bytes maxL ret).before a0 Z = true) (wz : (Cond.initialized (y).cls).before a0 Z = true) (M : Con l Z y bytes maxL ret rm as h Q) (eT : T.heap = h) (hml : c.maxLocals = maxO) (hs : Ls.size = maxO) (hpd : parseMethodDescriptor y.desc = some ⟨ps, r⟩) (hlen : argsL.length = ps.length) (hstack : st = argsL.reverse ++ .ref b :: rest) (has : (.ref b :: argsL).toArray = as) (hd : decode bs pc = .ok (.invokevirtual index, 3)) (pc' : Nat) (hp : pc + 3 = pc')
    (g : ∀ v T' L, Q v T'.heap L → Stand p l e R s m args below meth c T' (locs ++ L) (cells + rm.cells) (slots + rm.slots) → Go p e below K (T'.setTop (mkF m pc' Ls (v.toList ++ rest)))) (hW : (rest.map fun v => v.category).sum ≤ W := by exact Nat.le_of_eq rfl) (hf : rm.frames + 1 ≤ R.frames := by decide) (hl : W + (maxL + 11) + rm.locals ≤ R.locals := by decide) (hc : cells + rm.cells ≤ R.cells := by decide) (hsl : slots + rm.slots ≤ R.slots := by decide) : Go p e below K (T.setTop (mkF m pc Ls (st))) := by
  subst hp has
  obtain ⟨cB, kB, q1, q2, q3⟩ := isOf hZ eT E
  obtain ⟨v, _, ⟨T', L', k', n'⟩, -, X', ⟨L, hQ, l', y', z'⟩, k⟩ := X.virtualBack H.1 (y := y) (z := y) hown (mvT hZ wl) (mvT hZ wd) (notFace_of_selects (args := #[]) (mvT hZ wse)) (mvT hZ wse) (mvT hZ wi) hy (backOf (W := W) (M []) hZ wc wz hf hl) q1 q3 (g := mkF m pc Ls st) rfl (hs.trans hml.symm) (Steps.refl _) (argsL := argsL) (rest := rest) (lenOf hpd hlen) hstack (by show 2 * 0 + _ ≤ _; omega) (hb H.2 hd) (fun _ _ => ⟨rfl, eT, hc, hsl⟩)
  dsimp only [Pt.U, Pt.locs, Pt.cells, Pt.slots] at X' l' y' z' k hQ
  subst l' y' z'
  exact Go.via (fun t q => k.trans q) (g v T' L hQ X')

end Steps
theorem eqI {args : Array Value} {s : State} {t : Term} {w : Addr} {C n d : String} {k : Int32} (ev : t.eval args s none [] s = some (.ref w)) (q : (Jvm.Cond.eq (.field t C n d) (.int k)).value args s none s [] = some true) : Fld s s.heap w C n d (.int k) := by
  refine Fld.start ?_
  rw [← fld_at (args := args) (first := s) (o := none) (idx := []) ev]
  obtain ⟨x, y, h1, h2, k1, k2⟩ := cmp_v (Or.inl q)
  obtain rfl : y = .int k := (Option.some.inj ((Term.int_eval k).symm.trans h2)).symm
  obtain ⟨z, rfl⟩ := k2
  simp [Cond.value, h1, h2] at q
  rw [h1, q]
theorem eqR {args : Array Value} {s : State} {t t' : Term} {w w' : Addr} {C n d : String} (ev : t.eval args s none [] s = some (.ref w)) (ev' : t'.eval args s none [] s = some (.ref w')) (q : (Jvm.Cond.eq (.field t C n d) t').value args s none s [] = some true) : Fld s s.heap w C n d (.ref w') := by
  refine Fld.start ?_
  rw [← fld_at (args := args) (first := s) (o := none) (idx := []) ev]
  obtain ⟨x, y, h1, h2, k1, k2⟩ := cmp_v (Or.inl q)
  obtain rfl : y = .ref w' := (Option.some.inj (ev'.symm.trans h2)).symm
  have hx : x.isRef = true := k2.2
  have := gotT (eq_R h1 h2 hx rfl) q
  rw [h1, this]
theorem eqN {args : Array Value} {s : State} {t : Term} {w : Addr} {C n d : String} (ev : t.eval args s none [] s = some (.ref w)) (q : (Jvm.Cond.eq (.field t C n d) .null).value args s none s [] = some true) : Fld s s.heap w C n d .null := by
  refine Fld.start ?_
  rw [← fld_at (args := args) (first := s) (o := none) (idx := []) ev]
  exact null_v q
theorem fldE {args : Array Value} {s : State} {t : Term} {w w' : Addr} {C n d : String} (ev : t.eval args s none [] s = some (.ref w)) (ev' : (Term.field t C n d).eval args s none [] s = some (.ref w')) : Fld s s.heap w C n d (.ref w') :=
  Fld.start ((fld_at (args := args) (first := s) (o := none) (idx := []) ev).symm.trans ev')
theorem t32_ne {a b : Int32} (h : a < b) : ¬ (a = b) := by rw [Int32.lt_iff_toInt_lt] at h; rw [← Int32.toInt_inj]; omega
theorem t32_as {a b : Int32} (h : a < b) : ¬ (b < a) := by rw [Int32.lt_iff_toInt_lt] at *; omega
theorem t32_ir {a b : Int32} (h : a = b) : ¬ (a < b) := by subst h; rw [Int32.lt_iff_toInt_lt]; omega
theorem t32_tot {a b : Int32} (h : ¬ (a < b)) (h2 : ¬ (a = b)) : b < a := by rw [Int32.lt_iff_toInt_lt] at *; rw [← Int32.toInt_inj] at h2; omega
theorem t32_eq {a b : Int32} (h : ¬ (a < b)) (h2 : ¬ (b < a)) : a = b := by rw [Int32.lt_iff_toInt_lt] at *; rw [← Int32.toInt_inj]; omega
theorem t64_ne {a b : Int64} (h : a < b) : ¬ (a = b) := by rw [Int64.lt_iff_toInt_lt] at h; rw [← Int64.toInt_inj]; omega
theorem t64_as {a b : Int64} (h : a < b) : ¬ (b < a) := by rw [Int64.lt_iff_toInt_lt] at *; omega
theorem t64_ir {a b : Int64} (h : a = b) : ¬ (a < b) := by subst h; rw [Int64.lt_iff_toInt_lt]; omega
theorem t64_tot {a b : Int64} (h : ¬ (a < b)) (h2 : ¬ (a = b)) : b < a := by rw [Int64.lt_iff_toInt_lt] at *; rw [← Int64.toInt_inj] at h2; omega
theorem t64_eq {a b : Int64} (h : ¬ (a < b)) (h2 : ¬ (b < a)) : a = b := by rw [Int64.lt_iff_toInt_lt] at *; rw [← Int64.toInt_inj]; omega

theorem wd0 : (Jvm.Cond.constant "com/example/rolling_quorum/rollingquorum/protocol/ApiKeySupportsPinLaw" (7 : Nat) (2147483647 : Int32)) ∈ tables_1 := List.mem_of_getElem? (i := 0) rfl
theorem wd1 : (Jvm.Cond.fieldLink "com/example/rolling_quorum/rollingquorum/protocol/ApiKeySupportsPinLaw" (8 : Nat) "com/example/rolling_quorum/rollingquorum/protocol/ApiKey" "PRODUCE" "Lcom/example/rolling_quorum/rollingquorum/protocol/ApiKey;") ∈ tables_1 := List.mem_of_getElem? (i := 1) rfl
theorem wd2 : (Jvm.Cond.initialized "com/example/rolling_quorum/rollingquorum/protocol/ApiKey") ∈ tables_1 := List.mem_of_getElem? (i := 2) rfl
theorem wd3 : (Jvm.Cond.laysStatic "com/example/rolling_quorum/rollingquorum/protocol/ApiKey" "PRODUCE" "Lcom/example/rolling_quorum/rollingquorum/protocol/ApiKey;") ∈ tables_1 := List.mem_of_getElem? (i := 3) rfl
theorem wd4 : (Jvm.Cond.methodLink "com/example/rolling_quorum/rollingquorum/protocol/ApiKeySupportsPinLaw" (29 : Nat) ({ cls := "com/example/rolling_quorum/rollingquorum/protocol/ApiKey", name := "supports", desc := "(S)Z" } : Jvm.MethodName)) ∈ tables_1 := List.mem_of_getElem? (i := 4) rfl
theorem wd5 : (Jvm.Cond.declares ({ cls := "com/example/rolling_quorum/rollingquorum/protocol/ApiKey", name := "supports", desc := "(S)Z" } : Jvm.MethodName)) ∈ tables_1 := List.mem_of_getElem? (i := 5) rfl
theorem wd6 : (Jvm.Cond.instanceMethod ({ cls := "com/example/rolling_quorum/rollingquorum/protocol/ApiKey", name := "supports", desc := "(S)Z" } : Jvm.MethodName)) ∈ tables_1 := List.mem_of_getElem? (i := 6) rfl
theorem wd7 : (Jvm.Cond.selects "com/example/rolling_quorum/rollingquorum/protocol/ApiKey" ({ cls := "com/example/rolling_quorum/rollingquorum/protocol/ApiKey", name := "supports", desc := "(S)Z" } : Jvm.MethodName) ({ cls := "com/example/rolling_quorum/rollingquorum/protocol/ApiKey", name := "supports", desc := "(S)Z" } : Jvm.MethodName)) ∈ tables_1 := List.mem_of_getElem? (i := 7) rfl
theorem wd8 : (Jvm.Cond.code ({ cls := "com/example/rolling_quorum/rollingquorum/protocol/ApiKey", name := "supports", desc := "(S)Z" } : Jvm.MethodName) prog_29_method_8_code (2 : Nat) (Option.some Jvm.ClassFile.FieldType.boolean)) ∈ tables_1 := List.mem_of_getElem? (i := 8) rfl
theorem wd9 : (Jvm.Cond.fieldLink "com/example/rolling_quorum/rollingquorum/protocol/ApiKey" (45 : Nat) "com/example/rolling_quorum/rollingquorum/protocol/ApiKey" "minVersion" "S") ∈ tables_1 := List.mem_of_getElem? (i := 9) rfl
theorem wd11 : (Jvm.Cond.fieldLink "com/example/rolling_quorum/rollingquorum/protocol/ApiKeySupportsPinLaw" (14 : Nat) "com/example/rolling_quorum/rollingquorum/protocol/ApiKey" "FETCH" "Lcom/example/rolling_quorum/rollingquorum/protocol/ApiKey;") ∈ tables_1 := List.mem_of_getElem? (i := 11) rfl
theorem wd12 : (Jvm.Cond.laysStatic "com/example/rolling_quorum/rollingquorum/protocol/ApiKey" "FETCH" "Lcom/example/rolling_quorum/rollingquorum/protocol/ApiKey;") ∈ tables_1 := List.mem_of_getElem? (i := 12) rfl
theorem wd13 : (Jvm.Cond.fieldLink "com/example/rolling_quorum/rollingquorum/protocol/ApiKeySupportsPinLaw" (17 : Nat) "com/example/rolling_quorum/rollingquorum/protocol/ApiKey" "LIST_OFFSETS" "Lcom/example/rolling_quorum/rollingquorum/protocol/ApiKey;") ∈ tables_1 := List.mem_of_getElem? (i := 13) rfl
theorem wd14 : (Jvm.Cond.laysStatic "com/example/rolling_quorum/rollingquorum/protocol/ApiKey" "LIST_OFFSETS" "Lcom/example/rolling_quorum/rollingquorum/protocol/ApiKey;") ∈ tables_1 := List.mem_of_getElem? (i := 14) rfl
theorem wd15 : (Jvm.Cond.fieldLink "com/example/rolling_quorum/rollingquorum/protocol/ApiKey" (48 : Nat) "com/example/rolling_quorum/rollingquorum/protocol/ApiKey" "maxVersion" "S") ∈ tables_1 := List.mem_of_getElem? (i := 15) rfl
theorem wd17 : (Jvm.Cond.fieldLink "com/example/rolling_quorum/rollingquorum/protocol/ApiKeySupportsPinLaw" (26 : Nat) "com/example/rolling_quorum/rollingquorum/protocol/ApiKey" "OFFSET_FOR_LEADER_EPOCH" "Lcom/example/rolling_quorum/rollingquorum/protocol/ApiKey;") ∈ tables_1 := List.mem_of_getElem? (i := 17) rfl
theorem wd18 : (Jvm.Cond.laysStatic "com/example/rolling_quorum/rollingquorum/protocol/ApiKey" "OFFSET_FOR_LEADER_EPOCH" "Lcom/example/rolling_quorum/rollingquorum/protocol/ApiKey;") ∈ tables_1 := List.mem_of_getElem? (i := 18) rfl
theorem wd19 : (Jvm.Cond.fieldLink "com/example/rolling_quorum/rollingquorum/protocol/ApiKeySupportsPinLaw" (20 : Nat) "com/example/rolling_quorum/rollingquorum/protocol/ApiKey" "METADATA" "Lcom/example/rolling_quorum/rollingquorum/protocol/ApiKey;") ∈ tables_1 := List.mem_of_getElem? (i := 19) rfl
theorem wd20 : (Jvm.Cond.laysStatic "com/example/rolling_quorum/rollingquorum/protocol/ApiKey" "METADATA" "Lcom/example/rolling_quorum/rollingquorum/protocol/ApiKey;") ∈ tables_1 := List.mem_of_getElem? (i := 20) rfl
theorem wd21 : (Jvm.Cond.fieldLink "com/example/rolling_quorum/rollingquorum/protocol/ApiKeySupportsPinLaw" (23 : Nat) "com/example/rolling_quorum/rollingquorum/protocol/ApiKey" "API_VERSIONS" "Lcom/example/rolling_quorum/rollingquorum/protocol/ApiKey;") ∈ tables_1 := List.mem_of_getElem? (i := 21) rfl
theorem wd22 : (Jvm.Cond.laysStatic "com/example/rolling_quorum/rollingquorum/protocol/ApiKey" "API_VERSIONS" "Lcom/example/rolling_quorum/rollingquorum/protocol/ApiKey;") ∈ tables_1 := List.mem_of_getElem? (i := 22) rfl
theorem d1_0 : decode prog_29_method_8_code 0 = .ok (.iload_n 1, 1) := by decide +kernel
theorem d1_1 : decode prog_29_method_8_code 1 = .ok (.aload_n 0, 1) := by decide +kernel
theorem d1_2 : decode prog_29_method_8_code 2 = .ok (.getfield 45, 3) := by decide +kernel
theorem d1_5 : decode prog_29_method_8_code 5 = .ok (.if_icmp .lt 15, 3) := by decide +kernel
theorem d1_8 : decode prog_29_method_8_code 8 = .ok (.iload_n 1, 1) := by decide +kernel
theorem d1_9 : decode prog_29_method_8_code 9 = .ok (.aload_n 0, 1) := by decide +kernel
theorem d1_10 : decode prog_29_method_8_code 10 = .ok (.getfield 48, 3) := by decide +kernel
theorem d1_13 : decode prog_29_method_8_code 13 = .ok (.if_icmp .gt 7, 3) := by decide +kernel
theorem d1_16 : decode prog_29_method_8_code 16 = .ok (.iconst 1, 1) := by decide +kernel
theorem d1_17 : decode prog_29_method_8_code 17 = .ok (.goto 4, 3) := by decide +kernel
theorem d1_20 : decode prog_29_method_8_code 20 = .ok (.iconst 0, 1) := by decide +kernel
theorem d1_21 : decode prog_29_method_8_code 21 = .ok (.ireturn, 1) := by decide +kernel
theorem pd0 : parseMethodDescriptor "(S)Z" = some ⟨[.short], some .boolean⟩ := by decide +kernel
theorem pn0 : plainName "com/example/rolling_quorum/rollingquorum/protocol/ApiKeySupportsPinLaw" = true := by first | (simp [plainName, overriddenIn]; done) | decide +kernel
theorem pn1 : plainName "com/example/rolling_quorum/rollingquorum/protocol/ApiKey" = true := by first | (simp [plainName, overriddenIn]; done) | decide +kernel
def World (Z : State) (w_ApiKey_PRODUCE w_ApiKey_FETCH w_ApiKey_LIST_OFFSETS w_ApiKey_OFFSET_FOR_LEADER_EPOCH w_ApiKey_METADATA w_ApiKey_API_VERSIONS : Addr) : Prop :=
  Sta Z Z.heap "com/example/rolling_quorum/rollingquorum/protocol/ApiKey" "PRODUCE" "Lcom/example/rolling_quorum/rollingquorum/protocol/ApiKey;" (.ref w_ApiKey_PRODUCE) ∧
  Exa Z Z.heap w_ApiKey_PRODUCE "com/example/rolling_quorum/rollingquorum/protocol/ApiKey" ∧
  Sta Z Z.heap "com/example/rolling_quorum/rollingquorum/protocol/ApiKey" "FETCH" "Lcom/example/rolling_quorum/rollingquorum/protocol/ApiKey;" (.ref w_ApiKey_FETCH) ∧
  Exa Z Z.heap w_ApiKey_FETCH "com/example/rolling_quorum/rollingquorum/protocol/ApiKey" ∧
  Sta Z Z.heap "com/example/rolling_quorum/rollingquorum/protocol/ApiKey" "LIST_OFFSETS" "Lcom/example/rolling_quorum/rollingquorum/protocol/ApiKey;" (.ref w_ApiKey_LIST_OFFSETS) ∧
  Exa Z Z.heap w_ApiKey_LIST_OFFSETS "com/example/rolling_quorum/rollingquorum/protocol/ApiKey" ∧
  Sta Z Z.heap "com/example/rolling_quorum/rollingquorum/protocol/ApiKey" "OFFSET_FOR_LEADER_EPOCH" "Lcom/example/rolling_quorum/rollingquorum/protocol/ApiKey;" (.ref w_ApiKey_OFFSET_FOR_LEADER_EPOCH) ∧
  Exa Z Z.heap w_ApiKey_OFFSET_FOR_LEADER_EPOCH "com/example/rolling_quorum/rollingquorum/protocol/ApiKey" ∧
  Sta Z Z.heap "com/example/rolling_quorum/rollingquorum/protocol/ApiKey" "METADATA" "Lcom/example/rolling_quorum/rollingquorum/protocol/ApiKey;" (.ref w_ApiKey_METADATA) ∧
  Exa Z Z.heap w_ApiKey_METADATA "com/example/rolling_quorum/rollingquorum/protocol/ApiKey" ∧
  Sta Z Z.heap "com/example/rolling_quorum/rollingquorum/protocol/ApiKey" "API_VERSIONS" "Lcom/example/rolling_quorum/rollingquorum/protocol/ApiKey;" (.ref w_ApiKey_API_VERSIONS) ∧
  Exa Z Z.heap w_ApiKey_API_VERSIONS "com/example/rolling_quorum/rollingquorum/protocol/ApiKey" ∧
  Fld Z Z.heap w_ApiKey_PRODUCE "com/example/rolling_quorum/rollingquorum/protocol/ApiKey" "minVersion" "S" (.int 3) ∧
  Fld Z Z.heap w_ApiKey_FETCH "com/example/rolling_quorum/rollingquorum/protocol/ApiKey" "minVersion" "S" (.int 4) ∧
  Fld Z Z.heap w_ApiKey_LIST_OFFSETS "com/example/rolling_quorum/rollingquorum/protocol/ApiKey" "minVersion" "S" (.int 1) ∧
  Fld Z Z.heap w_ApiKey_LIST_OFFSETS "com/example/rolling_quorum/rollingquorum/protocol/ApiKey" "maxVersion" "S" (.int 2) ∧
  Fld Z Z.heap w_ApiKey_OFFSET_FOR_LEADER_EPOCH "com/example/rolling_quorum/rollingquorum/protocol/ApiKey" "minVersion" "S" (.int 3) ∧
  Fld Z Z.heap w_ApiKey_OFFSET_FOR_LEADER_EPOCH "com/example/rolling_quorum/rollingquorum/protocol/ApiKey" "maxVersion" "S" (.int 3) ∧
  Fld Z Z.heap w_ApiKey_FETCH "com/example/rolling_quorum/rollingquorum/protocol/ApiKey" "maxVersion" "S" (.int 11) ∧
  Fld Z Z.heap w_ApiKey_METADATA "com/example/rolling_quorum/rollingquorum/protocol/ApiKey" "minVersion" "S" (.int 0) ∧
  Fld Z Z.heap w_ApiKey_API_VERSIONS "com/example/rolling_quorum/rollingquorum/protocol/ApiKey" "minVersion" "S" (.int 0) ∧
  Fld Z Z.heap w_ApiKey_API_VERSIONS "com/example/rolling_quorum/rollingquorum/protocol/ApiKey" "maxVersion" "S" (.int 3) ∧
  Fld Z Z.heap w_ApiKey_PRODUCE "com/example/rolling_quorum/rollingquorum/protocol/ApiKey" "maxVersion" "S" (.int 7) ∧
  Fld Z Z.heap w_ApiKey_METADATA "com/example/rolling_quorum/rollingquorum/protocol/ApiKey" "maxVersion" "S" (.int 4)
abbrev Bg (Z : State) (a0 : Array Value) (w_ApiKey_PRODUCE w_ApiKey_FETCH w_ApiKey_LIST_OFFSETS w_ApiKey_OFFSET_FOR_LEADER_EPOCH w_ApiKey_METADATA w_ApiKey_API_VERSIONS : Addr) : Prop := (∀ d ∈ tables_1, d.before a0 Z = true) ∧ World Z w_ApiKey_PRODUCE w_ApiKey_FETCH w_ApiKey_LIST_OFFSETS w_ApiKey_OFFSET_FOR_LEADER_EPOCH w_ApiKey_METADATA w_ApiKey_API_VERSIONS
theorem mod_cases (k : Int32) : ((k &&& (2147483647 : Int32)) % (6 : Int32)) = (0 : Int32) ∨ ((k &&& (2147483647 : Int32)) % (6 : Int32)) = (1 : Int32) ∨ ((k &&& (2147483647 : Int32)) % (6 : Int32)) = (2 : Int32) ∨ ((k &&& (2147483647 : Int32)) % (6 : Int32)) = (3 : Int32) ∨ ((k &&& (2147483647 : Int32)) % (6 : Int32)) = (4 : Int32) ∨ ((k &&& (2147483647 : Int32)) % (6 : Int32)) = (5 : Int32) := by
  have h1 := c_mask k (2147483647 : Int32) 31 (by decide) (by decide)
  have h2 := (c_irem (k &&& (2147483647 : Int32)) (6 : Int32) 6 (by decide)).1 (by omega)
  simp only [← Int32.toInt_inj]
  have e : ∀ i : Fin 6, (Int32.ofNat i.1).toInt = (i.1 : Int) := by decide
  have e0 : (0 : Int32).toInt = 0 := by decide
  have e1 : (1 : Int32).toInt = 1 := by decide
  have e2 : (2 : Int32).toInt = 2 := by decide
  have e3 : (3 : Int32).toInt = 3 := by decide
  have e4 : (4 : Int32).toInt = 4 := by decide
  have e5 : (5 : Int32).toInt = 5 := by decide
  omega
section Walk
variable {l : Launch} {Z : State} {a0 : Array Value} {w_ApiKey_PRODUCE w_ApiKey_FETCH w_ApiKey_LIST_OFFSETS w_ApiKey_OFFSET_FOR_LEADER_EPOCH w_ApiKey_METADATA w_ApiKey_API_VERSIONS : Addr}
theorem rm6_1 (B : Bg Z a0 w_ApiKey_PRODUCE w_ApiKey_FETCH w_ApiKey_LIST_OFFSETS w_ApiKey_OFFSET_FOR_LEADER_EPOCH w_ApiKey_METADATA w_ApiKey_API_VERSIONS) (p2 : Int32) (hk1 : ((((3 : Int32) + (p2 &&& (7 : Int32))) - (3 : Int32)).toInt16.toInt32) < (3 : Int32)) :
    Con l Z (⟨"com/example/rolling_quorum/rollingquorum/protocol/ApiKey", "supports", "(S)Z"⟩ : MethodName) prog_29_method_8_code 2 (some .boolean) ({ frames := 0, cells := 0, slots := 0, locals := 0 } : Room) #[(.ref w_ApiKey_PRODUCE), (.int ((((3 : Int32) + (p2 &&& (7 : Int32))) - (3 : Int32)).toInt16.toInt32))] Z.heap (fun v h' L => v = some (.int 0) ∧ h' = Z.heap ∧ L = []) := by
  have hw := B.1
  obtain ⟨S_w_ApiKey_PRODUCE, E_w_ApiKey_PRODUCE, S_w_ApiKey_FETCH, E_w_ApiKey_FETCH, S_w_ApiKey_LIST_OFFSETS, E_w_ApiKey_LIST_OFFSETS, S_w_ApiKey_OFFSET_FOR_LEADER_EPOCH, E_w_ApiKey_OFFSET_FOR_LEADER_EPOCH, S_w_ApiKey_METADATA, E_w_ApiKey_METADATA, S_w_ApiKey_API_VERSIONS, E_w_ApiKey_API_VERSIONS, F_w_ApiKey_PRODUCE_minVersion, F_w_ApiKey_FETCH_minVersion, F_w_ApiKey_LIST_OFFSETS_minVersion, F_w_ApiKey_LIST_OFFSETS_maxVersion, F_w_ApiKey_OFFSET_FOR_LEADER_EPOCH_minVersion, F_w_ApiKey_OFFSET_FOR_LEADER_EPOCH_maxVersion, F_w_ApiKey_FETCH_maxVersion, F_w_ApiKey_METADATA_minVersion, F_w_ApiKey_API_VERSIONS_minVersion, F_w_ApiKey_API_VERSIONS_maxVersion, F_w_ApiKey_PRODUCE_maxVersion, F_w_ApiKey_METADATA_maxVersion⟩ := B.2
  refine Con.of (plainFor_of_name pn1) (Ls := #[vR w_ApiKey_PRODUCE, vI ((((3 : Int32) + (p2 &&& (7 : Int32))) - (3 : Int32)).toInt16.toInt32)]) (fun m => by first | rfl | (simp [entryFrame, mkF, argsToLocals, Value.category]; done)) ?_
  intro p e s m below meth c T0 X0 H hml hZ hown hnm hret hlk e0
  refine gIloadN X0 H d1_0 rfl 1 rfl ?_
  refine gAloadN X0 H d1_1 rfl rfl 2 rfl ?_
  refine gGetF X0 H hZ hown (hw _ wd9) Via.refl e0 F_w_ApiKey_PRODUCE_minVersion d1_2 5 rfl ?_
  intro T5 X5 e5
  refine gCmpY X5 H d1_5 (tlt hk1).1 (by decide) 20 rfl ?_
  refine gIconst X5 H d1_20 (z := 0) rfl 21 rfl ?_
  exact gRetN X5 H hlk hret (t := .boolean) (by simp) d1_21 e5 ⟨rfl, rfl, rfl⟩
theorem rm12_1 (B : Bg Z a0 w_ApiKey_PRODUCE w_ApiKey_FETCH w_ApiKey_LIST_OFFSETS w_ApiKey_OFFSET_FOR_LEADER_EPOCH w_ApiKey_METADATA w_ApiKey_API_VERSIONS) (p2 : Int32) (hk1 : ¬ (((((3 : Int32) + (p2 &&& (7 : Int32))) - (3 : Int32)).toInt16.toInt32) < (3 : Int32))) (hk2 : (7 : Int32) < ((((3 : Int32) + (p2 &&& (7 : Int32))) - (3 : Int32)).toInt16.toInt32)) :
    Con l Z (⟨"com/example/rolling_quorum/rollingquorum/protocol/ApiKey", "supports", "(S)Z"⟩ : MethodName) prog_29_method_8_code 2 (some .boolean) ({ frames := 0, cells := 0, slots := 0, locals := 0 } : Room) #[(.ref w_ApiKey_PRODUCE), (.int ((((3 : Int32) + (p2 &&& (7 : Int32))) - (3 : Int32)).toInt16.toInt32))] Z.heap (fun v h' L => v = some (.int 0) ∧ h' = Z.heap ∧ L = []) := by
  have hw := B.1
  obtain ⟨S_w_ApiKey_PRODUCE, E_w_ApiKey_PRODUCE, S_w_ApiKey_FETCH, E_w_ApiKey_FETCH, S_w_ApiKey_LIST_OFFSETS, E_w_ApiKey_LIST_OFFSETS, S_w_ApiKey_OFFSET_FOR_LEADER_EPOCH, E_w_ApiKey_OFFSET_FOR_LEADER_EPOCH, S_w_ApiKey_METADATA, E_w_ApiKey_METADATA, S_w_ApiKey_API_VERSIONS, E_w_ApiKey_API_VERSIONS, F_w_ApiKey_PRODUCE_minVersion, F_w_ApiKey_FETCH_minVersion, F_w_ApiKey_LIST_OFFSETS_minVersion, F_w_ApiKey_LIST_OFFSETS_maxVersion, F_w_ApiKey_OFFSET_FOR_LEADER_EPOCH_minVersion, F_w_ApiKey_OFFSET_FOR_LEADER_EPOCH_maxVersion, F_w_ApiKey_FETCH_maxVersion, F_w_ApiKey_METADATA_minVersion, F_w_ApiKey_API_VERSIONS_minVersion, F_w_ApiKey_API_VERSIONS_maxVersion, F_w_ApiKey_PRODUCE_maxVersion, F_w_ApiKey_METADATA_maxVersion⟩ := B.2
  refine Con.of (plainFor_of_name pn1) (Ls := #[vR w_ApiKey_PRODUCE, vI ((((3 : Int32) + (p2 &&& (7 : Int32))) - (3 : Int32)).toInt16.toInt32)]) (fun m => by first | rfl | (simp [entryFrame, mkF, argsToLocals, Value.category]; done)) ?_
  intro p e s m below meth c T0 X0 H hml hZ hown hnm hret hlk e0
  refine gIloadN X0 H d1_0 rfl 1 rfl ?_
  refine gAloadN X0 H d1_1 rfl rfl 2 rfl ?_
  refine gGetF X0 H hZ hown (hw _ wd9) Via.refl e0 F_w_ApiKey_PRODUCE_minVersion d1_2 5 rfl ?_
  intro T10 X10 e10
  refine gCmpN X10 H d1_5 (flt hk1).1 8 rfl ?_
  refine gIloadN X10 H d1_8 rfl 9 rfl ?_
  refine gAloadN X10 H d1_9 rfl rfl 10 rfl ?_
  refine gGetF X10 H hZ hown (hw _ wd15) Via.refl e10 F_w_ApiKey_PRODUCE_maxVersion d1_10 13 rfl ?_
  intro T11 X11 e11
  refine gCmpY X11 H d1_13 (tlt hk2).2.2.1 (by decide) 20 rfl ?_
  refine gIconst X11 H d1_20 (z := 0) rfl 21 rfl ?_
  exact gRetN X11 H hlk hret (t := .boolean) (by simp) d1_21 e11 ⟨rfl, rfl, rfl⟩
theorem rm16_1 (B : Bg Z a0 w_ApiKey_PRODUCE w_ApiKey_FETCH w_ApiKey_LIST_OFFSETS w_ApiKey_OFFSET_FOR_LEADER_EPOCH w_ApiKey_METADATA w_ApiKey_API_VERSIONS) (p2 : Int32) (hk1 : ¬ (((((3 : Int32) + (p2 &&& (7 : Int32))) - (3 : Int32)).toInt16.toInt32) < (3 : Int32))) (hk2 : ¬ ((7 : Int32) < ((((3 : Int32) + (p2 &&& (7 : Int32))) - (3 : Int32)).toInt16.toInt32))) :
    Con l Z (⟨"com/example/rolling_quorum/rollingquorum/protocol/ApiKey", "supports", "(S)Z"⟩ : MethodName) prog_29_method_8_code 2 (some .boolean) ({ frames := 0, cells := 0, slots := 0, locals := 0 } : Room) #[(.ref w_ApiKey_PRODUCE), (.int ((((3 : Int32) + (p2 &&& (7 : Int32))) - (3 : Int32)).toInt16.toInt32))] Z.heap (fun v h' L => v = some (.int 1) ∧ h' = Z.heap ∧ L = []) := by
  have hw := B.1
  obtain ⟨S_w_ApiKey_PRODUCE, E_w_ApiKey_PRODUCE, S_w_ApiKey_FETCH, E_w_ApiKey_FETCH, S_w_ApiKey_LIST_OFFSETS, E_w_ApiKey_LIST_OFFSETS, S_w_ApiKey_OFFSET_FOR_LEADER_EPOCH, E_w_ApiKey_OFFSET_FOR_LEADER_EPOCH, S_w_ApiKey_METADATA, E_w_ApiKey_METADATA, S_w_ApiKey_API_VERSIONS, E_w_ApiKey_API_VERSIONS, F_w_ApiKey_PRODUCE_minVersion, F_w_ApiKey_FETCH_minVersion, F_w_ApiKey_LIST_OFFSETS_minVersion, F_w_ApiKey_LIST_OFFSETS_maxVersion, F_w_ApiKey_OFFSET_FOR_LEADER_EPOCH_minVersion, F_w_ApiKey_OFFSET_FOR_LEADER_EPOCH_maxVersion, F_w_ApiKey_FETCH_maxVersion, F_w_ApiKey_METADATA_minVersion, F_w_ApiKey_API_VERSIONS_minVersion, F_w_ApiKey_API_VERSIONS_maxVersion, F_w_ApiKey_PRODUCE_maxVersion, F_w_ApiKey_METADATA_maxVersion⟩ := B.2
  refine Con.of (plainFor_of_name pn1) (Ls := #[vR w_ApiKey_PRODUCE, vI ((((3 : Int32) + (p2 &&& (7 : Int32))) - (3 : Int32)).toInt16.toInt32)]) (fun m => by first | rfl | (simp [entryFrame, mkF, argsToLocals, Value.category]; done)) ?_
  intro p e s m below meth c T0 X0 H hml hZ hown hnm hret hlk e0
  refine gIloadN X0 H d1_0 rfl 1 rfl ?_
  refine gAloadN X0 H d1_1 rfl rfl 2 rfl ?_
  refine gGetF X0 H hZ hown (hw _ wd9) Via.refl e0 F_w_ApiKey_PRODUCE_minVersion d1_2 5 rfl ?_
  intro T14 X14 e14
  refine gCmpN X14 H d1_5 (flt hk1).1 8 rfl ?_
  refine gIloadN X14 H d1_8 rfl 9 rfl ?_
  refine gAloadN X14 H d1_9 rfl rfl 10 rfl ?_
  refine gGetF X14 H hZ hown (hw _ wd15) Via.refl e14 F_w_ApiKey_PRODUCE_maxVersion d1_10 13 rfl ?_
  intro T15 X15 e15
  refine gCmpN X15 H d1_13 (flt hk2).2.2.1 16 rfl ?_
  refine gIconst X15 H d1_16 (z := 1) rfl 17 rfl ?_
  refine gGoto X15 H d1_17 (by decide) 21 rfl ?_
  exact gRetN X15 H hlk hret (t := .boolean) (by simp) d1_21 e15 ⟨rfl, rfl, rfl⟩
theorem rm22_1 (B : Bg Z a0 w_ApiKey_PRODUCE w_ApiKey_FETCH w_ApiKey_LIST_OFFSETS w_ApiKey_OFFSET_FOR_LEADER_EPOCH w_ApiKey_METADATA w_ApiKey_API_VERSIONS) (p2 : Int32) (hk2 : ((((7 : Int32) + (p2 &&& (7 : Int32))) - (4 : Int32)).toInt16.toInt32) < (3 : Int32)) :
    Con l Z (⟨"com/example/rolling_quorum/rollingquorum/protocol/ApiKey", "supports", "(S)Z"⟩ : MethodName) prog_29_method_8_code 2 (some .boolean) ({ frames := 0, cells := 0, slots := 0, locals := 0 } : Room) #[(.ref w_ApiKey_PRODUCE), (.int ((((7 : Int32) + (p2 &&& (7 : Int32))) - (4 : Int32)).toInt16.toInt32))] Z.heap (fun v h' L => v = some (.int 0) ∧ h' = Z.heap ∧ L = []) := by
  have hw := B.1
  obtain ⟨S_w_ApiKey_PRODUCE, E_w_ApiKey_PRODUCE, S_w_ApiKey_FETCH, E_w_ApiKey_FETCH, S_w_ApiKey_LIST_OFFSETS, E_w_ApiKey_LIST_OFFSETS, S_w_ApiKey_OFFSET_FOR_LEADER_EPOCH, E_w_ApiKey_OFFSET_FOR_LEADER_EPOCH, S_w_ApiKey_METADATA, E_w_ApiKey_METADATA, S_w_ApiKey_API_VERSIONS, E_w_ApiKey_API_VERSIONS, F_w_ApiKey_PRODUCE_minVersion, F_w_ApiKey_FETCH_minVersion, F_w_ApiKey_LIST_OFFSETS_minVersion, F_w_ApiKey_LIST_OFFSETS_maxVersion, F_w_ApiKey_OFFSET_FOR_LEADER_EPOCH_minVersion, F_w_ApiKey_OFFSET_FOR_LEADER_EPOCH_maxVersion, F_w_ApiKey_FETCH_maxVersion, F_w_ApiKey_METADATA_minVersion, F_w_ApiKey_API_VERSIONS_minVersion, F_w_ApiKey_API_VERSIONS_maxVersion, F_w_ApiKey_PRODUCE_maxVersion, F_w_ApiKey_METADATA_maxVersion⟩ := B.2
  refine Con.of (plainFor_of_name pn1) (Ls := #[vR w_ApiKey_PRODUCE, vI ((((7 : Int32) + (p2 &&& (7 : Int32))) - (4 : Int32)).toInt16.toInt32)]) (fun m => by first | rfl | (simp [entryFrame, mkF, argsToLocals, Value.category]; done)) ?_
  intro p e s m below meth c T0 X0 H hml hZ hown hnm hret hlk e0
  refine gIloadN X0 H d1_0 rfl 1 rfl ?_
  refine gAloadN X0 H d1_1 rfl rfl 2 rfl ?_
  refine gGetF X0 H hZ hown (hw _ wd9) Via.refl e0 F_w_ApiKey_PRODUCE_minVersion d1_2 5 rfl ?_
  intro T21 X21 e21
  refine gCmpY X21 H d1_5 (tlt hk2).1 (by decide) 20 rfl ?_
  refine gIconst X21 H d1_20 (z := 0) rfl 21 rfl ?_
  exact gRetN X21 H hlk hret (t := .boolean) (by simp) d1_21 e21 ⟨rfl, rfl, rfl⟩
theorem rm28_1 (B : Bg Z a0 w_ApiKey_PRODUCE w_ApiKey_FETCH w_ApiKey_LIST_OFFSETS w_ApiKey_OFFSET_FOR_LEADER_EPOCH w_ApiKey_METADATA w_ApiKey_API_VERSIONS) (p2 : Int32) (hk2 : ¬ (((((7 : Int32) + (p2 &&& (7 : Int32))) - (4 : Int32)).toInt16.toInt32) < (3 : Int32))) (hk3 : (7 : Int32) < ((((7 : Int32) + (p2 &&& (7 : Int32))) - (4 : Int32)).toInt16.toInt32)) :
    Con l Z (⟨"com/example/rolling_quorum/rollingquorum/protocol/ApiKey", "supports", "(S)Z"⟩ : MethodName) prog_29_method_8_code 2 (some .boolean) ({ frames := 0, cells := 0, slots := 0, locals := 0 } : Room) #[(.ref w_ApiKey_PRODUCE), (.int ((((7 : Int32) + (p2 &&& (7 : Int32))) - (4 : Int32)).toInt16.toInt32))] Z.heap (fun v h' L => v = some (.int 0) ∧ h' = Z.heap ∧ L = []) := by
  have hw := B.1
  obtain ⟨S_w_ApiKey_PRODUCE, E_w_ApiKey_PRODUCE, S_w_ApiKey_FETCH, E_w_ApiKey_FETCH, S_w_ApiKey_LIST_OFFSETS, E_w_ApiKey_LIST_OFFSETS, S_w_ApiKey_OFFSET_FOR_LEADER_EPOCH, E_w_ApiKey_OFFSET_FOR_LEADER_EPOCH, S_w_ApiKey_METADATA, E_w_ApiKey_METADATA, S_w_ApiKey_API_VERSIONS, E_w_ApiKey_API_VERSIONS, F_w_ApiKey_PRODUCE_minVersion, F_w_ApiKey_FETCH_minVersion, F_w_ApiKey_LIST_OFFSETS_minVersion, F_w_ApiKey_LIST_OFFSETS_maxVersion, F_w_ApiKey_OFFSET_FOR_LEADER_EPOCH_minVersion, F_w_ApiKey_OFFSET_FOR_LEADER_EPOCH_maxVersion, F_w_ApiKey_FETCH_maxVersion, F_w_ApiKey_METADATA_minVersion, F_w_ApiKey_API_VERSIONS_minVersion, F_w_ApiKey_API_VERSIONS_maxVersion, F_w_ApiKey_PRODUCE_maxVersion, F_w_ApiKey_METADATA_maxVersion⟩ := B.2
  refine Con.of (plainFor_of_name pn1) (Ls := #[vR w_ApiKey_PRODUCE, vI ((((7 : Int32) + (p2 &&& (7 : Int32))) - (4 : Int32)).toInt16.toInt32)]) (fun m => by first | rfl | (simp [entryFrame, mkF, argsToLocals, Value.category]; done)) ?_
  intro p e s m below meth c T0 X0 H hml hZ hown hnm hret hlk e0
  refine gIloadN X0 H d1_0 rfl 1 rfl ?_
  refine gAloadN X0 H d1_1 rfl rfl 2 rfl ?_
  refine gGetF X0 H hZ hown (hw _ wd9) Via.refl e0 F_w_ApiKey_PRODUCE_minVersion d1_2 5 rfl ?_
  intro T26 X26 e26
  refine gCmpN X26 H d1_5 (flt hk2).1 8 rfl ?_
  refine gIloadN X26 H d1_8 rfl 9 rfl ?_
  refine gAloadN X26 H d1_9 rfl rfl 10 rfl ?_
  refine gGetF X26 H hZ hown (hw _ wd15) Via.refl e26 F_w_ApiKey_PRODUCE_maxVersion d1_10 13 rfl ?_
  intro T27 X27 e27
  refine gCmpY X27 H d1_13 (tlt hk3).2.2.1 (by decide) 20 rfl ?_
  refine gIconst X27 H d1_20 (z := 0) rfl 21 rfl ?_
  exact gRetN X27 H hlk hret (t := .boolean) (by simp) d1_21 e27 ⟨rfl, rfl, rfl⟩
theorem rm32_1 (B : Bg Z a0 w_ApiKey_PRODUCE w_ApiKey_FETCH w_ApiKey_LIST_OFFSETS w_ApiKey_OFFSET_FOR_LEADER_EPOCH w_ApiKey_METADATA w_ApiKey_API_VERSIONS) (p2 : Int32) (hk2 : ¬ (((((7 : Int32) + (p2 &&& (7 : Int32))) - (4 : Int32)).toInt16.toInt32) < (3 : Int32))) (hk3 : ¬ ((7 : Int32) < ((((7 : Int32) + (p2 &&& (7 : Int32))) - (4 : Int32)).toInt16.toInt32))) :
    Con l Z (⟨"com/example/rolling_quorum/rollingquorum/protocol/ApiKey", "supports", "(S)Z"⟩ : MethodName) prog_29_method_8_code 2 (some .boolean) ({ frames := 0, cells := 0, slots := 0, locals := 0 } : Room) #[(.ref w_ApiKey_PRODUCE), (.int ((((7 : Int32) + (p2 &&& (7 : Int32))) - (4 : Int32)).toInt16.toInt32))] Z.heap (fun v h' L => v = some (.int 1) ∧ h' = Z.heap ∧ L = []) := by
  have hw := B.1
  obtain ⟨S_w_ApiKey_PRODUCE, E_w_ApiKey_PRODUCE, S_w_ApiKey_FETCH, E_w_ApiKey_FETCH, S_w_ApiKey_LIST_OFFSETS, E_w_ApiKey_LIST_OFFSETS, S_w_ApiKey_OFFSET_FOR_LEADER_EPOCH, E_w_ApiKey_OFFSET_FOR_LEADER_EPOCH, S_w_ApiKey_METADATA, E_w_ApiKey_METADATA, S_w_ApiKey_API_VERSIONS, E_w_ApiKey_API_VERSIONS, F_w_ApiKey_PRODUCE_minVersion, F_w_ApiKey_FETCH_minVersion, F_w_ApiKey_LIST_OFFSETS_minVersion, F_w_ApiKey_LIST_OFFSETS_maxVersion, F_w_ApiKey_OFFSET_FOR_LEADER_EPOCH_minVersion, F_w_ApiKey_OFFSET_FOR_LEADER_EPOCH_maxVersion, F_w_ApiKey_FETCH_maxVersion, F_w_ApiKey_METADATA_minVersion, F_w_ApiKey_API_VERSIONS_minVersion, F_w_ApiKey_API_VERSIONS_maxVersion, F_w_ApiKey_PRODUCE_maxVersion, F_w_ApiKey_METADATA_maxVersion⟩ := B.2
  refine Con.of (plainFor_of_name pn1) (Ls := #[vR w_ApiKey_PRODUCE, vI ((((7 : Int32) + (p2 &&& (7 : Int32))) - (4 : Int32)).toInt16.toInt32)]) (fun m => by first | rfl | (simp [entryFrame, mkF, argsToLocals, Value.category]; done)) ?_
  intro p e s m below meth c T0 X0 H hml hZ hown hnm hret hlk e0
  refine gIloadN X0 H d1_0 rfl 1 rfl ?_
  refine gAloadN X0 H d1_1 rfl rfl 2 rfl ?_
  refine gGetF X0 H hZ hown (hw _ wd9) Via.refl e0 F_w_ApiKey_PRODUCE_minVersion d1_2 5 rfl ?_
  intro T30 X30 e30
  refine gCmpN X30 H d1_5 (flt hk2).1 8 rfl ?_
  refine gIloadN X30 H d1_8 rfl 9 rfl ?_
  refine gAloadN X30 H d1_9 rfl rfl 10 rfl ?_
  refine gGetF X30 H hZ hown (hw _ wd15) Via.refl e30 F_w_ApiKey_PRODUCE_maxVersion d1_10 13 rfl ?_
  intro T31 X31 e31
  refine gCmpN X31 H d1_13 (flt hk3).2.2.1 16 rfl ?_
  refine gIconst X31 H d1_16 (z := 1) rfl 17 rfl ?_
  refine gGoto X31 H d1_17 (by decide) 21 rfl ?_
  exact gRetN X31 H hlk hret (t := .boolean) (by simp) d1_21 e31 ⟨rfl, rfl, rfl⟩
theorem rm37_1 (B : Bg Z a0 w_ApiKey_PRODUCE w_ApiKey_FETCH w_ApiKey_LIST_OFFSETS w_ApiKey_OFFSET_FOR_LEADER_EPOCH w_ApiKey_METADATA w_ApiKey_API_VERSIONS) (p2 : Int32) (hk2 : (p2.toInt16.toInt32) < (3 : Int32)) :
    Con l Z (⟨"com/example/rolling_quorum/rollingquorum/protocol/ApiKey", "supports", "(S)Z"⟩ : MethodName) prog_29_method_8_code 2 (some .boolean) ({ frames := 0, cells := 0, slots := 0, locals := 0 } : Room) #[(.ref w_ApiKey_PRODUCE), (.int (p2.toInt16.toInt32))] Z.heap (fun v h' L => v = some (.int 0) ∧ h' = Z.heap ∧ L = []) := by
  have hw := B.1
  obtain ⟨S_w_ApiKey_PRODUCE, E_w_ApiKey_PRODUCE, S_w_ApiKey_FETCH, E_w_ApiKey_FETCH, S_w_ApiKey_LIST_OFFSETS, E_w_ApiKey_LIST_OFFSETS, S_w_ApiKey_OFFSET_FOR_LEADER_EPOCH, E_w_ApiKey_OFFSET_FOR_LEADER_EPOCH, S_w_ApiKey_METADATA, E_w_ApiKey_METADATA, S_w_ApiKey_API_VERSIONS, E_w_ApiKey_API_VERSIONS, F_w_ApiKey_PRODUCE_minVersion, F_w_ApiKey_FETCH_minVersion, F_w_ApiKey_LIST_OFFSETS_minVersion, F_w_ApiKey_LIST_OFFSETS_maxVersion, F_w_ApiKey_OFFSET_FOR_LEADER_EPOCH_minVersion, F_w_ApiKey_OFFSET_FOR_LEADER_EPOCH_maxVersion, F_w_ApiKey_FETCH_maxVersion, F_w_ApiKey_METADATA_minVersion, F_w_ApiKey_API_VERSIONS_minVersion, F_w_ApiKey_API_VERSIONS_maxVersion, F_w_ApiKey_PRODUCE_maxVersion, F_w_ApiKey_METADATA_maxVersion⟩ := B.2
  refine Con.of (plainFor_of_name pn1) (Ls := #[vR w_ApiKey_PRODUCE, vI (p2.toInt16.toInt32)]) (fun m => by first | rfl | (simp [entryFrame, mkF, argsToLocals, Value.category]; done)) ?_
  intro p e s m below meth c T0 X0 H hml hZ hown hnm hret hlk e0
  refine gIloadN X0 H d1_0 rfl 1 rfl ?_
  refine gAloadN X0 H d1_1 rfl rfl 2 rfl ?_
  refine gGetF X0 H hZ hown (hw _ wd9) Via.refl e0 F_w_ApiKey_PRODUCE_minVersion d1_2 5 rfl ?_
  intro T36 X36 e36
  refine gCmpY X36 H d1_5 (tlt hk2).1 (by decide) 20 rfl ?_
  refine gIconst X36 H d1_20 (z := 0) rfl 21 rfl ?_
  exact gRetN X36 H hlk hret (t := .boolean) (by simp) d1_21 e36 ⟨rfl, rfl, rfl⟩
theorem rm43_1 (B : Bg Z a0 w_ApiKey_PRODUCE w_ApiKey_FETCH w_ApiKey_LIST_OFFSETS w_ApiKey_OFFSET_FOR_LEADER_EPOCH w_ApiKey_METADATA w_ApiKey_API_VERSIONS) (p2 : Int32) (hk2 : ¬ ((p2.toInt16.toInt32) < (3 : Int32))) (hk3 : (7 : Int32) < (p2.toInt16.toInt32)) :
    Con l Z (⟨"com/example/rolling_quorum/rollingquorum/protocol/ApiKey", "supports", "(S)Z"⟩ : MethodName) prog_29_method_8_code 2 (some .boolean) ({ frames := 0, cells := 0, slots := 0, locals := 0 } : Room) #[(.ref w_ApiKey_PRODUCE), (.int (p2.toInt16.toInt32))] Z.heap (fun v h' L => v = some (.int 0) ∧ h' = Z.heap ∧ L = []) := by
  have hw := B.1
  obtain ⟨S_w_ApiKey_PRODUCE, E_w_ApiKey_PRODUCE, S_w_ApiKey_FETCH, E_w_ApiKey_FETCH, S_w_ApiKey_LIST_OFFSETS, E_w_ApiKey_LIST_OFFSETS, S_w_ApiKey_OFFSET_FOR_LEADER_EPOCH, E_w_ApiKey_OFFSET_FOR_LEADER_EPOCH, S_w_ApiKey_METADATA, E_w_ApiKey_METADATA, S_w_ApiKey_API_VERSIONS, E_w_ApiKey_API_VERSIONS, F_w_ApiKey_PRODUCE_minVersion, F_w_ApiKey_FETCH_minVersion, F_w_ApiKey_LIST_OFFSETS_minVersion, F_w_ApiKey_LIST_OFFSETS_maxVersion, F_w_ApiKey_OFFSET_FOR_LEADER_EPOCH_minVersion, F_w_ApiKey_OFFSET_FOR_LEADER_EPOCH_maxVersion, F_w_ApiKey_FETCH_maxVersion, F_w_ApiKey_METADATA_minVersion, F_w_ApiKey_API_VERSIONS_minVersion, F_w_ApiKey_API_VERSIONS_maxVersion, F_w_ApiKey_PRODUCE_maxVersion, F_w_ApiKey_METADATA_maxVersion⟩ := B.2
  refine Con.of (plainFor_of_name pn1) (Ls := #[vR w_ApiKey_PRODUCE, vI (p2.toInt16.toInt32)]) (fun m => by first | rfl | (simp [entryFrame, mkF, argsToLocals, Value.category]; done)) ?_
  intro p e s m below meth c T0 X0 H hml hZ hown hnm hret hlk e0
  refine gIloadN X0 H d1_0 rfl 1 rfl ?_
  refine gAloadN X0 H d1_1 rfl rfl 2 rfl ?_
  refine gGetF X0 H hZ hown (hw _ wd9) Via.refl e0 F_w_ApiKey_PRODUCE_minVersion d1_2 5 rfl ?_
  intro T41 X41 e41
  refine gCmpN X41 H d1_5 (flt hk2).1 8 rfl ?_
  refine gIloadN X41 H d1_8 rfl 9 rfl ?_
  refine gAloadN X41 H d1_9 rfl rfl 10 rfl ?_
  refine gGetF X41 H hZ hown (hw _ wd15) Via.refl e41 F_w_ApiKey_PRODUCE_maxVersion d1_10 13 rfl ?_
  intro T42 X42 e42
  refine gCmpY X42 H d1_13 (tlt hk3).2.2.1 (by decide) 20 rfl ?_
  refine gIconst X42 H d1_20 (z := 0) rfl 21 rfl ?_
  exact gRetN X42 H hlk hret (t := .boolean) (by simp) d1_21 e42 ⟨rfl, rfl, rfl⟩
theorem rm47_1 (B : Bg Z a0 w_ApiKey_PRODUCE w_ApiKey_FETCH w_ApiKey_LIST_OFFSETS w_ApiKey_OFFSET_FOR_LEADER_EPOCH w_ApiKey_METADATA w_ApiKey_API_VERSIONS) (p2 : Int32) (hk2 : ¬ ((p2.toInt16.toInt32) < (3 : Int32))) (hk3 : ¬ ((7 : Int32) < (p2.toInt16.toInt32))) :
    Con l Z (⟨"com/example/rolling_quorum/rollingquorum/protocol/ApiKey", "supports", "(S)Z"⟩ : MethodName) prog_29_method_8_code 2 (some .boolean) ({ frames := 0, cells := 0, slots := 0, locals := 0 } : Room) #[(.ref w_ApiKey_PRODUCE), (.int (p2.toInt16.toInt32))] Z.heap (fun v h' L => v = some (.int 1) ∧ h' = Z.heap ∧ L = []) := by
  have hw := B.1
  obtain ⟨S_w_ApiKey_PRODUCE, E_w_ApiKey_PRODUCE, S_w_ApiKey_FETCH, E_w_ApiKey_FETCH, S_w_ApiKey_LIST_OFFSETS, E_w_ApiKey_LIST_OFFSETS, S_w_ApiKey_OFFSET_FOR_LEADER_EPOCH, E_w_ApiKey_OFFSET_FOR_LEADER_EPOCH, S_w_ApiKey_METADATA, E_w_ApiKey_METADATA, S_w_ApiKey_API_VERSIONS, E_w_ApiKey_API_VERSIONS, F_w_ApiKey_PRODUCE_minVersion, F_w_ApiKey_FETCH_minVersion, F_w_ApiKey_LIST_OFFSETS_minVersion, F_w_ApiKey_LIST_OFFSETS_maxVersion, F_w_ApiKey_OFFSET_FOR_LEADER_EPOCH_minVersion, F_w_ApiKey_OFFSET_FOR_LEADER_EPOCH_maxVersion, F_w_ApiKey_FETCH_maxVersion, F_w_ApiKey_METADATA_minVersion, F_w_ApiKey_API_VERSIONS_minVersion, F_w_ApiKey_API_VERSIONS_maxVersion, F_w_ApiKey_PRODUCE_maxVersion, F_w_ApiKey_METADATA_maxVersion⟩ := B.2
  refine Con.of (plainFor_of_name pn1) (Ls := #[vR w_ApiKey_PRODUCE, vI (p2.toInt16.toInt32)]) (fun m => by first | rfl | (simp [entryFrame, mkF, argsToLocals, Value.category]; done)) ?_
  intro p e s m below meth c T0 X0 H hml hZ hown hnm hret hlk e0
  refine gIloadN X0 H d1_0 rfl 1 rfl ?_
  refine gAloadN X0 H d1_1 rfl rfl 2 rfl ?_
  refine gGetF X0 H hZ hown (hw _ wd9) Via.refl e0 F_w_ApiKey_PRODUCE_minVersion d1_2 5 rfl ?_
  intro T45 X45 e45
  refine gCmpN X45 H d1_5 (flt hk2).1 8 rfl ?_
  refine gIloadN X45 H d1_8 rfl 9 rfl ?_
  refine gAloadN X45 H d1_9 rfl rfl 10 rfl ?_
  refine gGetF X45 H hZ hown (hw _ wd15) Via.refl e45 F_w_ApiKey_PRODUCE_maxVersion d1_10 13 rfl ?_
  intro T46 X46 e46
  refine gCmpN X46 H d1_13 (flt hk3).2.2.1 16 rfl ?_
  refine gIconst X46 H d1_16 (z := 1) rfl 17 rfl ?_
  refine gGoto X46 H d1_17 (by decide) 21 rfl ?_
  exact gRetN X46 H hlk hret (t := .boolean) (by simp) d1_21 e46 ⟨rfl, rfl, rfl⟩
theorem lawAll_0 (B : Bg Z a0 w_ApiKey_PRODUCE w_ApiKey_FETCH w_ApiKey_LIST_OFFSETS w_ApiKey_OFFSET_FOR_LEADER_EPOCH w_ApiKey_METADATA w_ApiKey_API_VERSIONS) (p0 : Int32) (p1 : Int32) (p2 : Int32) (ha0 : ((p0 &&& (2147483647 : Int32)) % (6 : Int32)) = (0 : Int32)) :
    Con l Z x code maxLocals ret room_1 #[(.int p0), (.int p1), (.int p2)] Z.heap (fun v h' L => v = some (.int 1) ∧ Fr Z.heap.size L) := by
  have hw := B.1
  obtain ⟨S_w_ApiKey_PRODUCE, E_w_ApiKey_PRODUCE, S_w_ApiKey_FETCH, E_w_ApiKey_FETCH, S_w_ApiKey_LIST_OFFSETS, E_w_ApiKey_LIST_OFFSETS, S_w_ApiKey_OFFSET_FOR_LEADER_EPOCH, E_w_ApiKey_OFFSET_FOR_LEADER_EPOCH, S_w_ApiKey_METADATA, E_w_ApiKey_METADATA, S_w_ApiKey_API_VERSIONS, E_w_ApiKey_API_VERSIONS, F_w_ApiKey_PRODUCE_minVersion, F_w_ApiKey_FETCH_minVersion, F_w_ApiKey_LIST_OFFSETS_minVersion, F_w_ApiKey_LIST_OFFSETS_maxVersion, F_w_ApiKey_OFFSET_FOR_LEADER_EPOCH_minVersion, F_w_ApiKey_OFFSET_FOR_LEADER_EPOCH_maxVersion, F_w_ApiKey_FETCH_maxVersion, F_w_ApiKey_METADATA_minVersion, F_w_ApiKey_API_VERSIONS_minVersion, F_w_ApiKey_API_VERSIONS_maxVersion, F_w_ApiKey_PRODUCE_maxVersion, F_w_ApiKey_METADATA_maxVersion⟩ := B.2
  refine Con.of (plainFor_of_name pn0) (Ls := #[vI p0, vI p1, vI p2, .unset, .unset, .unset, .unset, .unset, .unset, .unset, .unset, .unset]) (fun m => by first | rfl | (simp [entryFrame, mkF, argsToLocals, Value.category, maxLocals]; done)) ?_
  intro p e s m below meth c T0 X0 H hml hZ hown hnm hret hlk e0
  refine gIloadN X0 H at_0 rfl 1 rfl ?_
  refine gLdc X0 H hZ hown (hw _ wd0) at_1 3 rfl ?_
  refine g_iand X0 H at_3 (z := (p0 &&& (2147483647 : Int32))) rfl 4 rfl ?_
  refine gBipush X0 H at_4 (z := 6) rfl 6 rfl ?_
  refine g_irem X0 H at_6 (by decide) (z := 0) ha0 7 rfl ?_
  refine gIstoreN X0 H at_7 (Ls' := #[vI p0, vI p1, vI p2, vI 0, .unset, .unset, .unset, .unset, .unset, .unset, .unset, .unset]) rfl 8 rfl ?_
  refine gIloadN X0 H at_8 rfl 9 rfl ?_
  refine gIfN X0 H at_9 (by decide) 12 rfl ?_
  refine gGetS X0 H hZ hown (hw _ wd1) e0 S_w_ApiKey_PRODUCE at_12 15 rfl ?_
  intro T1 X1 e1
  refine gAstore X1 H at_15 rfl (Ls' := #[vI p0, vI p1, vI p2, vI 0, vR w_ApiKey_PRODUCE, .unset, .unset, .unset, .unset, .unset, .unset, .unset]) rfl 17 rfl ?_
  refine gIconst X1 H at_17 (z := 3) rfl 18 rfl ?_
  refine gIstore X1 H at_18 (Ls' := #[vI p0, vI p1, vI p2, vI 0, vR w_ApiKey_PRODUCE, vI 3, .unset, .unset, .unset, .unset, .unset, .unset]) rfl 20 rfl ?_
  refine gBipush X1 H at_20 (z := 7) rfl 22 rfl ?_
  refine gIstore X1 H at_22 (Ls' := #[vI p0, vI p1, vI p2, vI 0, vR w_ApiKey_PRODUCE, vI 3, vI 7, .unset, .unset, .unset, .unset, .unset]) rfl 24 rfl ?_
  refine gGoto X1 H at_24 (by decide) 115 rfl ?_
  refine gIloadN X1 H at_115 rfl 116 rfl ?_
  refine gIconst X1 H at_116 (z := 3) rfl 117 rfl ?_
  refine g_iand X1 H at_117 (z := (p1 &&& (3 : Int32))) rfl 118 rfl ?_
  refine gIstore X1 H at_118 (Ls' := #[vI p0, vI p1, vI p2, vI 0, vR w_ApiKey_PRODUCE, vI 3, vI 7, vI (p1 &&& (3 : Int32)), .unset, .unset, .unset, .unset]) rfl 120 rfl ?_
  refine gIload X1 H at_120 rfl 122 rfl ?_
  refine gIconst X1 H at_122 (z := 1) rfl 123 rfl ?_
  by_cases hc2 : (p1 &&& (3 : Int32)) = (1 : Int32)
  · refine gCmpN X1 H at_123 (teq hc2).2 126 rfl ?_
    refine gIload X1 H at_126 rfl 128 rfl ?_
    refine gIloadN X1 H at_128 rfl 129 rfl ?_
    refine gBipush X1 H at_129 (z := 7) rfl 131 rfl ?_
    refine g_iand X1 H at_131 (z := (p2 &&& (7 : Int32))) rfl 132 rfl ?_
    refine g_iadd X1 H at_132 (z := ((3 : Int32) + (p2 &&& (7 : Int32)))) rfl 133 rfl ?_
    refine gIconst X1 H at_133 (z := 3) rfl 134 rfl ?_
    refine g_isub X1 H at_134 (z := (((3 : Int32) + (p2 &&& (7 : Int32))) - (3 : Int32))) rfl 135 rfl ?_
    refine g_i2s X1 H at_135 (z := ((((3 : Int32) + (p2 &&& (7 : Int32))) - (3 : Int32)).toInt16.toInt32)) rfl 136 rfl ?_
    refine gIstore X1 H at_136 (Ls' := #[vI p0, vI p1, vI p2, vI 0, vR w_ApiKey_PRODUCE, vI 3, vI 7, vI (p1 &&& (3 : Int32)), vI ((((3 : Int32) + (p2 &&& (7 : Int32))) - (3 : Int32)).toInt16.toInt32), .unset, .unset, .unset]) rfl 138 rfl ?_
    refine gGoto X1 H at_138 (by decide) 166 rfl ?_
    refine gIload X1 H at_166 rfl 168 rfl ?_
    refine gIload X1 H at_168 rfl 170 rfl ?_
    by_cases hc3 : ((((3 : Int32) + (p2 &&& (7 : Int32))) - (3 : Int32)).toInt16.toInt32) < (3 : Int32)
    · refine gCmpN X1 H at_170 (tlt hc3).2.1 173 rfl ?_
      refine gIconst X1 H at_173 (z := 1) rfl 174 rfl ?_
      refine gGoto X1 H at_174 (by decide) 178 rfl ?_
      refine gIstore X1 H at_178 (Ls' := #[vI p0, vI p1, vI p2, vI 0, vR w_ApiKey_PRODUCE, vI 3, vI 7, vI (p1 &&& (3 : Int32)), vI ((((3 : Int32) + (p2 &&& (7 : Int32))) - (3 : Int32)).toInt16.toInt32), vI 1, .unset, .unset]) rfl 180 rfl ?_
      refine gIload X1 H at_180 rfl 182 rfl ?_
      refine gIload X1 H at_182 rfl 184 rfl ?_
      by_cases hc4 : (7 : Int32) < ((((3 : Int32) + (p2 &&& (7 : Int32))) - (3 : Int32)).toInt16.toInt32)
      · refine gCmpN X1 H at_184 (tlt hc4).2.2.2 187 rfl ?_
        refine gIconst X1 H at_187 (z := 1) rfl 188 rfl ?_
        refine gGoto X1 H at_188 (by decide) 192 rfl ?_
        refine gIstore X1 H at_192 (Ls' := #[vI p0, vI p1, vI p2, vI 0, vR w_ApiKey_PRODUCE, vI 3, vI 7, vI (p1 &&& (3 : Int32)), vI ((((3 : Int32) + (p2 &&& (7 : Int32))) - (3 : Int32)).toInt16.toInt32), vI 1, vI 1, .unset]) rfl 194 rfl ?_
        refine gIload X1 H at_194 rfl 196 rfl ?_
        refine gIfY X1 H at_196 (by decide) (by decide) 208 rfl ?_
        refine gIconst X1 H at_208 (z := 0) rfl 209 rfl ?_
        refine gIstore X1 H at_209 (Ls' := #[vI p0, vI p1, vI p2, vI 0, vR w_ApiKey_PRODUCE, vI 3, vI 7, vI (p1 &&& (3 : Int32)), vI ((((3 : Int32) + (p2 &&& (7 : Int32))) - (3 : Int32)).toInt16.toInt32), vI 1, vI 1, vI 0]) rfl 211 rfl ?_
        refine gAload X1 H at_211 rfl rfl 213 rfl ?_
        refine gIload X1 H at_213 rfl 215 rfl ?_
        refine gVirt X1 H hZ hown (hw _ wd4) (hw _ wd5) (hw _ wd7) (hw _ wd6) (by decide) E_w_ApiKey_PRODUCE (hw _ wd8) (hw _ wd2) (rm6_1 B p2 hc3) e1 hml rfl pd0 rfl (W := 0) (argsL := [(.int ((((3 : Int32) + (p2 &&& (7 : Int32))) - (3 : Int32)).toInt16.toInt32))]) (rest := []) rfl rfl at_215 218 rfl ?_
        intro v7 T7 L7 hq7 X7
        obtain ⟨rfl, e7, rfl⟩ := hq7
        show Go _ _ _ _ (State.setTop _ (mkF _ 218 _ [(.int 0)]))
        refine gIload X7 H at_218 rfl 220 rfl ?_
        refine gCmpN X7 H at_220 (by decide) 223 rfl ?_
        refine gIconst X7 H at_223 (z := 1) rfl 224 rfl ?_
        refine gGoto X7 H at_224 (by decide) 228 rfl ?_
        exact gRetN X7 H hlk hret (t := .boolean) (by simp) at_228 e7 ⟨rfl, Fr.nil _⟩
      · refine gCmpY X1 H at_184 (flt hc4).2.2.2 (by decide) 191 rfl ?_
        refine gIconst X1 H at_191 (z := 0) rfl 192 rfl ?_
        refine gIstore X1 H at_192 (Ls' := #[vI p0, vI p1, vI p2, vI 0, vR w_ApiKey_PRODUCE, vI 3, vI 7, vI (p1 &&& (3 : Int32)), vI ((((3 : Int32) + (p2 &&& (7 : Int32))) - (3 : Int32)).toInt16.toInt32), vI 1, vI 0, .unset]) rfl 194 rfl ?_
        refine gIload X1 H at_194 rfl 196 rfl ?_
        refine gIfY X1 H at_196 (by decide) (by decide) 208 rfl ?_
        refine gIconst X1 H at_208 (z := 0) rfl 209 rfl ?_
        refine gIstore X1 H at_209 (Ls' := #[vI p0, vI p1, vI p2, vI 0, vR w_ApiKey_PRODUCE, vI 3, vI 7, vI (p1 &&& (3 : Int32)), vI ((((3 : Int32) + (p2 &&& (7 : Int32))) - (3 : Int32)).toInt16.toInt32), vI 1, vI 0, vI 0]) rfl 211 rfl ?_
        refine gAload X1 H at_211 rfl rfl 213 rfl ?_
        refine gIload X1 H at_213 rfl 215 rfl ?_
        refine gVirt X1 H hZ hown (hw _ wd4) (hw _ wd5) (hw _ wd7) (hw _ wd6) (by decide) E_w_ApiKey_PRODUCE (hw _ wd8) (hw _ wd2) (rm6_1 B p2 hc3) e1 hml rfl pd0 rfl (W := 0) (argsL := [(.int ((((3 : Int32) + (p2 &&& (7 : Int32))) - (3 : Int32)).toInt16.toInt32))]) (rest := []) rfl rfl at_215 218 rfl ?_
        intro v8 T8 L8 hq8 X8
        obtain ⟨rfl, e8, rfl⟩ := hq8
        show Go _ _ _ _ (State.setTop _ (mkF _ 218 _ [(.int 0)]))
        refine gIload X8 H at_218 rfl 220 rfl ?_
        refine gCmpN X8 H at_220 (by decide) 223 rfl ?_
        refine gIconst X8 H at_223 (z := 1) rfl 224 rfl ?_
        refine gGoto X8 H at_224 (by decide) 228 rfl ?_
        exact gRetN X8 H hlk hret (t := .boolean) (by simp) at_228 e8 ⟨rfl, Fr.nil _⟩
    · refine gCmpY X1 H at_170 (flt hc3).2.1 (by decide) 177 rfl ?_
      refine gIconst X1 H at_177 (z := 0) rfl 178 rfl ?_
      refine gIstore X1 H at_178 (Ls' := #[vI p0, vI p1, vI p2, vI 0, vR w_ApiKey_PRODUCE, vI 3, vI 7, vI (p1 &&& (3 : Int32)), vI ((((3 : Int32) + (p2 &&& (7 : Int32))) - (3 : Int32)).toInt16.toInt32), vI 0, .unset, .unset]) rfl 180 rfl ?_
      refine gIload X1 H at_180 rfl 182 rfl ?_
      refine gIload X1 H at_182 rfl 184 rfl ?_
      by_cases hc9 : (7 : Int32) < ((((3 : Int32) + (p2 &&& (7 : Int32))) - (3 : Int32)).toInt16.toInt32)
      · refine gCmpN X1 H at_184 (tlt hc9).2.2.2 187 rfl ?_
        refine gIconst X1 H at_187 (z := 1) rfl 188 rfl ?_
        refine gGoto X1 H at_188 (by decide) 192 rfl ?_
        refine gIstore X1 H at_192 (Ls' := #[vI p0, vI p1, vI p2, vI 0, vR w_ApiKey_PRODUCE, vI 3, vI 7, vI (p1 &&& (3 : Int32)), vI ((((3 : Int32) + (p2 &&& (7 : Int32))) - (3 : Int32)).toInt16.toInt32), vI 0, vI 1, .unset]) rfl 194 rfl ?_
        refine gIload X1 H at_194 rfl 196 rfl ?_
        refine gIfN X1 H at_196 (by decide) 199 rfl ?_
        refine gIload X1 H at_199 rfl 201 rfl ?_
        refine gIfY X1 H at_201 (by decide) (by decide) 208 rfl ?_
        refine gIconst X1 H at_208 (z := 0) rfl 209 rfl ?_
        refine gIstore X1 H at_209 (Ls' := #[vI p0, vI p1, vI p2, vI 0, vR w_ApiKey_PRODUCE, vI 3, vI 7, vI (p1 &&& (3 : Int32)), vI ((((3 : Int32) + (p2 &&& (7 : Int32))) - (3 : Int32)).toInt16.toInt32), vI 0, vI 1, vI 0]) rfl 211 rfl ?_
        refine gAload X1 H at_211 rfl rfl 213 rfl ?_
        refine gIload X1 H at_213 rfl 215 rfl ?_
        refine gVirt X1 H hZ hown (hw _ wd4) (hw _ wd5) (hw _ wd7) (hw _ wd6) (by decide) E_w_ApiKey_PRODUCE (hw _ wd8) (hw _ wd2) (rm12_1 B p2 hc3 hc9) e1 hml rfl pd0 rfl (W := 0) (argsL := [(.int ((((3 : Int32) + (p2 &&& (7 : Int32))) - (3 : Int32)).toInt16.toInt32))]) (rest := []) rfl rfl at_215 218 rfl ?_
        intro v13 T13 L13 hq13 X13
        obtain ⟨rfl, e13, rfl⟩ := hq13
        show Go _ _ _ _ (State.setTop _ (mkF _ 218 _ [(.int 0)]))
        refine gIload X13 H at_218 rfl 220 rfl ?_
        refine gCmpN X13 H at_220 (by decide) 223 rfl ?_
        refine gIconst X13 H at_223 (z := 1) rfl 224 rfl ?_
        refine gGoto X13 H at_224 (by decide) 228 rfl ?_
        exact gRetN X13 H hlk hret (t := .boolean) (by simp) at_228 e13 ⟨rfl, Fr.nil _⟩
      · refine gCmpY X1 H at_184 (flt hc9).2.2.2 (by decide) 191 rfl ?_
        refine gIconst X1 H at_191 (z := 0) rfl 192 rfl ?_
        refine gIstore X1 H at_192 (Ls' := #[vI p0, vI p1, vI p2, vI 0, vR w_ApiKey_PRODUCE, vI 3, vI 7, vI (p1 &&& (3 : Int32)), vI ((((3 : Int32) + (p2 &&& (7 : Int32))) - (3 : Int32)).toInt16.toInt32), vI 0, vI 0, .unset]) rfl 194 rfl ?_
        refine gIload X1 H at_194 rfl 196 rfl ?_
        refine gIfN X1 H at_196 (by decide) 199 rfl ?_
        refine gIload X1 H at_199 rfl 201 rfl ?_
        refine gIfN X1 H at_201 (by decide) 204 rfl ?_
        refine gIconst X1 H at_204 (z := 1) rfl 205 rfl ?_
        refine gGoto X1 H at_205 (by decide) 209 rfl ?_
        refine gIstore X1 H at_209 (Ls' := #[vI p0, vI p1, vI p2, vI 0, vR w_ApiKey_PRODUCE, vI 3, vI 7, vI (p1 &&& (3 : Int32)), vI ((((3 : Int32) + (p2 &&& (7 : Int32))) - (3 : Int32)).toInt16.toInt32), vI 0, vI 0, vI 1]) rfl 211 rfl ?_
        refine gAload X1 H at_211 rfl rfl 213 rfl ?_
        refine gIload X1 H at_213 rfl 215 rfl ?_
        refine gVirt X1 H hZ hown (hw _ wd4) (hw _ wd5) (hw _ wd7) (hw _ wd6) (by decide) E_w_ApiKey_PRODUCE (hw _ wd8) (hw _ wd2) (rm16_1 B p2 hc3 hc9) e1 hml rfl pd0 rfl (W := 0) (argsL := [(.int ((((3 : Int32) + (p2 &&& (7 : Int32))) - (3 : Int32)).toInt16.toInt32))]) (rest := []) rfl rfl at_215 218 rfl ?_
        intro v17 T17 L17 hq17 X17
        obtain ⟨rfl, e17, rfl⟩ := hq17
        show Go _ _ _ _ (State.setTop _ (mkF _ 218 _ [(.int 1)]))
        refine gIload X17 H at_218 rfl 220 rfl ?_
        refine gCmpN X17 H at_220 (by decide) 223 rfl ?_
        refine gIconst X17 H at_223 (z := 1) rfl 224 rfl ?_
        refine gGoto X17 H at_224 (by decide) 228 rfl ?_
        exact gRetN X17 H hlk hret (t := .boolean) (by simp) at_228 e17 ⟨rfl, Fr.nil _⟩
  · refine gCmpY X1 H at_123 (feq hc2).2 (by decide) 141 rfl ?_
    refine gIload X1 H at_141 rfl 143 rfl ?_
    refine gIconst X1 H at_143 (z := 2) rfl 144 rfl ?_
    by_cases hc18 : (p1 &&& (3 : Int32)) = (2 : Int32)
    · refine gCmpN X1 H at_144 (teq hc18).2 147 rfl ?_
      refine gIload X1 H at_147 rfl 149 rfl ?_
      refine gIloadN X1 H at_149 rfl 150 rfl ?_
      refine gBipush X1 H at_150 (z := 7) rfl 152 rfl ?_
      refine g_iand X1 H at_152 (z := (p2 &&& (7 : Int32))) rfl 153 rfl ?_
      refine g_iadd X1 H at_153 (z := ((7 : Int32) + (p2 &&& (7 : Int32)))) rfl 154 rfl ?_
      refine gIconst X1 H at_154 (z := 4) rfl 155 rfl ?_
      refine g_isub X1 H at_155 (z := (((7 : Int32) + (p2 &&& (7 : Int32))) - (4 : Int32))) rfl 156 rfl ?_
      refine g_i2s X1 H at_156 (z := ((((7 : Int32) + (p2 &&& (7 : Int32))) - (4 : Int32)).toInt16.toInt32)) rfl 157 rfl ?_
      refine gIstore X1 H at_157 (Ls' := #[vI p0, vI p1, vI p2, vI 0, vR w_ApiKey_PRODUCE, vI 3, vI 7, vI (p1 &&& (3 : Int32)), vI ((((7 : Int32) + (p2 &&& (7 : Int32))) - (4 : Int32)).toInt16.toInt32), .unset, .unset, .unset]) rfl 159 rfl ?_
      refine gGoto X1 H at_159 (by decide) 166 rfl ?_
      refine gIload X1 H at_166 rfl 168 rfl ?_
      refine gIload X1 H at_168 rfl 170 rfl ?_
      by_cases hc19 : ((((7 : Int32) + (p2 &&& (7 : Int32))) - (4 : Int32)).toInt16.toInt32) < (3 : Int32)
      · refine gCmpN X1 H at_170 (tlt hc19).2.1 173 rfl ?_
        refine gIconst X1 H at_173 (z := 1) rfl 174 rfl ?_
        refine gGoto X1 H at_174 (by decide) 178 rfl ?_
        refine gIstore X1 H at_178 (Ls' := #[vI p0, vI p1, vI p2, vI 0, vR w_ApiKey_PRODUCE, vI 3, vI 7, vI (p1 &&& (3 : Int32)), vI ((((7 : Int32) + (p2 &&& (7 : Int32))) - (4 : Int32)).toInt16.toInt32), vI 1, .unset, .unset]) rfl 180 rfl ?_
        refine gIload X1 H at_180 rfl 182 rfl ?_
        refine gIload X1 H at_182 rfl 184 rfl ?_
        by_cases hc20 : (7 : Int32) < ((((7 : Int32) + (p2 &&& (7 : Int32))) - (4 : Int32)).toInt16.toInt32)
        · refine gCmpN X1 H at_184 (tlt hc20).2.2.2 187 rfl ?_
          refine gIconst X1 H at_187 (z := 1) rfl 188 rfl ?_
          refine gGoto X1 H at_188 (by decide) 192 rfl ?_
          refine gIstore X1 H at_192 (Ls' := #[vI p0, vI p1, vI p2, vI 0, vR w_ApiKey_PRODUCE, vI 3, vI 7, vI (p1 &&& (3 : Int32)), vI ((((7 : Int32) + (p2 &&& (7 : Int32))) - (4 : Int32)).toInt16.toInt32), vI 1, vI 1, .unset]) rfl 194 rfl ?_
          refine gIload X1 H at_194 rfl 196 rfl ?_
          refine gIfY X1 H at_196 (by decide) (by decide) 208 rfl ?_
          refine gIconst X1 H at_208 (z := 0) rfl 209 rfl ?_
          refine gIstore X1 H at_209 (Ls' := #[vI p0, vI p1, vI p2, vI 0, vR w_ApiKey_PRODUCE, vI 3, vI 7, vI (p1 &&& (3 : Int32)), vI ((((7 : Int32) + (p2 &&& (7 : Int32))) - (4 : Int32)).toInt16.toInt32), vI 1, vI 1, vI 0]) rfl 211 rfl ?_
          refine gAload X1 H at_211 rfl rfl 213 rfl ?_
          refine gIload X1 H at_213 rfl 215 rfl ?_
          refine gVirt X1 H hZ hown (hw _ wd4) (hw _ wd5) (hw _ wd7) (hw _ wd6) (by decide) E_w_ApiKey_PRODUCE (hw _ wd8) (hw _ wd2) (rm22_1 B p2 hc19) e1 hml rfl pd0 rfl (W := 0) (argsL := [(.int ((((7 : Int32) + (p2 &&& (7 : Int32))) - (4 : Int32)).toInt16.toInt32))]) (rest := []) rfl rfl at_215 218 rfl ?_
          intro v23 T23 L23 hq23 X23
          obtain ⟨rfl, e23, rfl⟩ := hq23
          show Go _ _ _ _ (State.setTop _ (mkF _ 218 _ [(.int 0)]))
          refine gIload X23 H at_218 rfl 220 rfl ?_
          refine gCmpN X23 H at_220 (by decide) 223 rfl ?_
          refine gIconst X23 H at_223 (z := 1) rfl 224 rfl ?_
          refine gGoto X23 H at_224 (by decide) 228 rfl ?_
          exact gRetN X23 H hlk hret (t := .boolean) (by simp) at_228 e23 ⟨rfl, Fr.nil _⟩
        · refine gCmpY X1 H at_184 (flt hc20).2.2.2 (by decide) 191 rfl ?_
          refine gIconst X1 H at_191 (z := 0) rfl 192 rfl ?_
          refine gIstore X1 H at_192 (Ls' := #[vI p0, vI p1, vI p2, vI 0, vR w_ApiKey_PRODUCE, vI 3, vI 7, vI (p1 &&& (3 : Int32)), vI ((((7 : Int32) + (p2 &&& (7 : Int32))) - (4 : Int32)).toInt16.toInt32), vI 1, vI 0, .unset]) rfl 194 rfl ?_
          refine gIload X1 H at_194 rfl 196 rfl ?_
          refine gIfY X1 H at_196 (by decide) (by decide) 208 rfl ?_
          refine gIconst X1 H at_208 (z := 0) rfl 209 rfl ?_
          refine gIstore X1 H at_209 (Ls' := #[vI p0, vI p1, vI p2, vI 0, vR w_ApiKey_PRODUCE, vI 3, vI 7, vI (p1 &&& (3 : Int32)), vI ((((7 : Int32) + (p2 &&& (7 : Int32))) - (4 : Int32)).toInt16.toInt32), vI 1, vI 0, vI 0]) rfl 211 rfl ?_
          refine gAload X1 H at_211 rfl rfl 213 rfl ?_
          refine gIload X1 H at_213 rfl 215 rfl ?_
          refine gVirt X1 H hZ hown (hw _ wd4) (hw _ wd5) (hw _ wd7) (hw _ wd6) (by decide) E_w_ApiKey_PRODUCE (hw _ wd8) (hw _ wd2) (rm22_1 B p2 hc19) e1 hml rfl pd0 rfl (W := 0) (argsL := [(.int ((((7 : Int32) + (p2 &&& (7 : Int32))) - (4 : Int32)).toInt16.toInt32))]) (rest := []) rfl rfl at_215 218 rfl ?_
          intro v24 T24 L24 hq24 X24
          obtain ⟨rfl, e24, rfl⟩ := hq24
          show Go _ _ _ _ (State.setTop _ (mkF _ 218 _ [(.int 0)]))
          refine gIload X24 H at_218 rfl 220 rfl ?_
          refine gCmpN X24 H at_220 (by decide) 223 rfl ?_
          refine gIconst X24 H at_223 (z := 1) rfl 224 rfl ?_
          refine gGoto X24 H at_224 (by decide) 228 rfl ?_
          exact gRetN X24 H hlk hret (t := .boolean) (by simp) at_228 e24 ⟨rfl, Fr.nil _⟩
      · refine gCmpY X1 H at_170 (flt hc19).2.1 (by decide) 177 rfl ?_
        refine gIconst X1 H at_177 (z := 0) rfl 178 rfl ?_
        refine gIstore X1 H at_178 (Ls' := #[vI p0, vI p1, vI p2, vI 0, vR w_ApiKey_PRODUCE, vI 3, vI 7, vI (p1 &&& (3 : Int32)), vI ((((7 : Int32) + (p2 &&& (7 : Int32))) - (4 : Int32)).toInt16.toInt32), vI 0, .unset, .unset]) rfl 180 rfl ?_
        refine gIload X1 H at_180 rfl 182 rfl ?_
        refine gIload X1 H at_182 rfl 184 rfl ?_
        by_cases hc25 : (7 : Int32) < ((((7 : Int32) + (p2 &&& (7 : Int32))) - (4 : Int32)).toInt16.toInt32)
        · refine gCmpN X1 H at_184 (tlt hc25).2.2.2 187 rfl ?_
          refine gIconst X1 H at_187 (z := 1) rfl 188 rfl ?_
          refine gGoto X1 H at_188 (by decide) 192 rfl ?_
          refine gIstore X1 H at_192 (Ls' := #[vI p0, vI p1, vI p2, vI 0, vR w_ApiKey_PRODUCE, vI 3, vI 7, vI (p1 &&& (3 : Int32)), vI ((((7 : Int32) + (p2 &&& (7 : Int32))) - (4 : Int32)).toInt16.toInt32), vI 0, vI 1, .unset]) rfl 194 rfl ?_
          refine gIload X1 H at_194 rfl 196 rfl ?_
          refine gIfN X1 H at_196 (by decide) 199 rfl ?_
          refine gIload X1 H at_199 rfl 201 rfl ?_
          refine gIfY X1 H at_201 (by decide) (by decide) 208 rfl ?_
          refine gIconst X1 H at_208 (z := 0) rfl 209 rfl ?_
          refine gIstore X1 H at_209 (Ls' := #[vI p0, vI p1, vI p2, vI 0, vR w_ApiKey_PRODUCE, vI 3, vI 7, vI (p1 &&& (3 : Int32)), vI ((((7 : Int32) + (p2 &&& (7 : Int32))) - (4 : Int32)).toInt16.toInt32), vI 0, vI 1, vI 0]) rfl 211 rfl ?_
          refine gAload X1 H at_211 rfl rfl 213 rfl ?_
          refine gIload X1 H at_213 rfl 215 rfl ?_
          refine gVirt X1 H hZ hown (hw _ wd4) (hw _ wd5) (hw _ wd7) (hw _ wd6) (by decide) E_w_ApiKey_PRODUCE (hw _ wd8) (hw _ wd2) (rm28_1 B p2 hc19 hc25) e1 hml rfl pd0 rfl (W := 0) (argsL := [(.int ((((7 : Int32) + (p2 &&& (7 : Int32))) - (4 : Int32)).toInt16.toInt32))]) (rest := []) rfl rfl at_215 218 rfl ?_
          intro v29 T29 L29 hq29 X29
          obtain ⟨rfl, e29, rfl⟩ := hq29
          show Go _ _ _ _ (State.setTop _ (mkF _ 218 _ [(.int 0)]))
          refine gIload X29 H at_218 rfl 220 rfl ?_
          refine gCmpN X29 H at_220 (by decide) 223 rfl ?_
          refine gIconst X29 H at_223 (z := 1) rfl 224 rfl ?_
          refine gGoto X29 H at_224 (by decide) 228 rfl ?_
          exact gRetN X29 H hlk hret (t := .boolean) (by simp) at_228 e29 ⟨rfl, Fr.nil _⟩
        · refine gCmpY X1 H at_184 (flt hc25).2.2.2 (by decide) 191 rfl ?_
          refine gIconst X1 H at_191 (z := 0) rfl 192 rfl ?_
          refine gIstore X1 H at_192 (Ls' := #[vI p0, vI p1, vI p2, vI 0, vR w_ApiKey_PRODUCE, vI 3, vI 7, vI (p1 &&& (3 : Int32)), vI ((((7 : Int32) + (p2 &&& (7 : Int32))) - (4 : Int32)).toInt16.toInt32), vI 0, vI 0, .unset]) rfl 194 rfl ?_
          refine gIload X1 H at_194 rfl 196 rfl ?_
          refine gIfN X1 H at_196 (by decide) 199 rfl ?_
          refine gIload X1 H at_199 rfl 201 rfl ?_
          refine gIfN X1 H at_201 (by decide) 204 rfl ?_
          refine gIconst X1 H at_204 (z := 1) rfl 205 rfl ?_
          refine gGoto X1 H at_205 (by decide) 209 rfl ?_
          refine gIstore X1 H at_209 (Ls' := #[vI p0, vI p1, vI p2, vI 0, vR w_ApiKey_PRODUCE, vI 3, vI 7, vI (p1 &&& (3 : Int32)), vI ((((7 : Int32) + (p2 &&& (7 : Int32))) - (4 : Int32)).toInt16.toInt32), vI 0, vI 0, vI 1]) rfl 211 rfl ?_
          refine gAload X1 H at_211 rfl rfl 213 rfl ?_
          refine gIload X1 H at_213 rfl 215 rfl ?_
          refine gVirt X1 H hZ hown (hw _ wd4) (hw _ wd5) (hw _ wd7) (hw _ wd6) (by decide) E_w_ApiKey_PRODUCE (hw _ wd8) (hw _ wd2) (rm32_1 B p2 hc19 hc25) e1 hml rfl pd0 rfl (W := 0) (argsL := [(.int ((((7 : Int32) + (p2 &&& (7 : Int32))) - (4 : Int32)).toInt16.toInt32))]) (rest := []) rfl rfl at_215 218 rfl ?_
          intro v33 T33 L33 hq33 X33
          obtain ⟨rfl, e33, rfl⟩ := hq33
          show Go _ _ _ _ (State.setTop _ (mkF _ 218 _ [(.int 1)]))
          refine gIload X33 H at_218 rfl 220 rfl ?_
          refine gCmpN X33 H at_220 (by decide) 223 rfl ?_
          refine gIconst X33 H at_223 (z := 1) rfl 224 rfl ?_
          refine gGoto X33 H at_224 (by decide) 228 rfl ?_
          exact gRetN X33 H hlk hret (t := .boolean) (by simp) at_228 e33 ⟨rfl, Fr.nil _⟩
    · refine gCmpY X1 H at_144 (feq hc18).2 (by decide) 162 rfl ?_
      refine gIloadN X1 H at_162 rfl 163 rfl ?_
      refine g_i2s X1 H at_163 (z := (p2.toInt16.toInt32)) rfl 164 rfl ?_
      refine gIstore X1 H at_164 (Ls' := #[vI p0, vI p1, vI p2, vI 0, vR w_ApiKey_PRODUCE, vI 3, vI 7, vI (p1 &&& (3 : Int32)), vI (p2.toInt16.toInt32), .unset, .unset, .unset]) rfl 166 rfl ?_
      refine gIload X1 H at_166 rfl 168 rfl ?_
      refine gIload X1 H at_168 rfl 170 rfl ?_
      by_cases hc34 : (p2.toInt16.toInt32) < (3 : Int32)
      · refine gCmpN X1 H at_170 (tlt hc34).2.1 173 rfl ?_
        refine gIconst X1 H at_173 (z := 1) rfl 174 rfl ?_
        refine gGoto X1 H at_174 (by decide) 178 rfl ?_
        refine gIstore X1 H at_178 (Ls' := #[vI p0, vI p1, vI p2, vI 0, vR w_ApiKey_PRODUCE, vI 3, vI 7, vI (p1 &&& (3 : Int32)), vI (p2.toInt16.toInt32), vI 1, .unset, .unset]) rfl 180 rfl ?_
        refine gIload X1 H at_180 rfl 182 rfl ?_
        refine gIload X1 H at_182 rfl 184 rfl ?_
        by_cases hc35 : (7 : Int32) < (p2.toInt16.toInt32)
        · refine gCmpN X1 H at_184 (tlt hc35).2.2.2 187 rfl ?_
          refine gIconst X1 H at_187 (z := 1) rfl 188 rfl ?_
          refine gGoto X1 H at_188 (by decide) 192 rfl ?_
          refine gIstore X1 H at_192 (Ls' := #[vI p0, vI p1, vI p2, vI 0, vR w_ApiKey_PRODUCE, vI 3, vI 7, vI (p1 &&& (3 : Int32)), vI (p2.toInt16.toInt32), vI 1, vI 1, .unset]) rfl 194 rfl ?_
          refine gIload X1 H at_194 rfl 196 rfl ?_
          refine gIfY X1 H at_196 (by decide) (by decide) 208 rfl ?_
          refine gIconst X1 H at_208 (z := 0) rfl 209 rfl ?_
          refine gIstore X1 H at_209 (Ls' := #[vI p0, vI p1, vI p2, vI 0, vR w_ApiKey_PRODUCE, vI 3, vI 7, vI (p1 &&& (3 : Int32)), vI (p2.toInt16.toInt32), vI 1, vI 1, vI 0]) rfl 211 rfl ?_
          refine gAload X1 H at_211 rfl rfl 213 rfl ?_
          refine gIload X1 H at_213 rfl 215 rfl ?_
          refine gVirt X1 H hZ hown (hw _ wd4) (hw _ wd5) (hw _ wd7) (hw _ wd6) (by decide) E_w_ApiKey_PRODUCE (hw _ wd8) (hw _ wd2) (rm37_1 B p2 hc34) e1 hml rfl pd0 rfl (W := 0) (argsL := [(.int (p2.toInt16.toInt32))]) (rest := []) rfl rfl at_215 218 rfl ?_
          intro v38 T38 L38 hq38 X38
          obtain ⟨rfl, e38, rfl⟩ := hq38
          show Go _ _ _ _ (State.setTop _ (mkF _ 218 _ [(.int 0)]))
          refine gIload X38 H at_218 rfl 220 rfl ?_
          refine gCmpN X38 H at_220 (by decide) 223 rfl ?_
          refine gIconst X38 H at_223 (z := 1) rfl 224 rfl ?_
          refine gGoto X38 H at_224 (by decide) 228 rfl ?_
          exact gRetN X38 H hlk hret (t := .boolean) (by simp) at_228 e38 ⟨rfl, Fr.nil _⟩
        · refine gCmpY X1 H at_184 (flt hc35).2.2.2 (by decide) 191 rfl ?_
          refine gIconst X1 H at_191 (z := 0) rfl 192 rfl ?_
          refine gIstore X1 H at_192 (Ls' := #[vI p0, vI p1, vI p2, vI 0, vR w_ApiKey_PRODUCE, vI 3, vI 7, vI (p1 &&& (3 : Int32)), vI (p2.toInt16.toInt32), vI 1, vI 0, .unset]) rfl 194 rfl ?_
          refine gIload X1 H at_194 rfl 196 rfl ?_
          refine gIfY X1 H at_196 (by decide) (by decide) 208 rfl ?_
          refine gIconst X1 H at_208 (z := 0) rfl 209 rfl ?_
          refine gIstore X1 H at_209 (Ls' := #[vI p0, vI p1, vI p2, vI 0, vR w_ApiKey_PRODUCE, vI 3, vI 7, vI (p1 &&& (3 : Int32)), vI (p2.toInt16.toInt32), vI 1, vI 0, vI 0]) rfl 211 rfl ?_
          refine gAload X1 H at_211 rfl rfl 213 rfl ?_
          refine gIload X1 H at_213 rfl 215 rfl ?_
          refine gVirt X1 H hZ hown (hw _ wd4) (hw _ wd5) (hw _ wd7) (hw _ wd6) (by decide) E_w_ApiKey_PRODUCE (hw _ wd8) (hw _ wd2) (rm37_1 B p2 hc34) e1 hml rfl pd0 rfl (W := 0) (argsL := [(.int (p2.toInt16.toInt32))]) (rest := []) rfl rfl at_215 218 rfl ?_
          intro v39 T39 L39 hq39 X39
          obtain ⟨rfl, e39, rfl⟩ := hq39
          show Go _ _ _ _ (State.setTop _ (mkF _ 218 _ [(.int 0)]))
          refine gIload X39 H at_218 rfl 220 rfl ?_
          refine gCmpN X39 H at_220 (by decide) 223 rfl ?_
          refine gIconst X39 H at_223 (z := 1) rfl 224 rfl ?_
          refine gGoto X39 H at_224 (by decide) 228 rfl ?_
          exact gRetN X39 H hlk hret (t := .boolean) (by simp) at_228 e39 ⟨rfl, Fr.nil _⟩
      · refine gCmpY X1 H at_170 (flt hc34).2.1 (by decide) 177 rfl ?_
        refine gIconst X1 H at_177 (z := 0) rfl 178 rfl ?_
        refine gIstore X1 H at_178 (Ls' := #[vI p0, vI p1, vI p2, vI 0, vR w_ApiKey_PRODUCE, vI 3, vI 7, vI (p1 &&& (3 : Int32)), vI (p2.toInt16.toInt32), vI 0, .unset, .unset]) rfl 180 rfl ?_
        refine gIload X1 H at_180 rfl 182 rfl ?_
        refine gIload X1 H at_182 rfl 184 rfl ?_
        by_cases hc40 : (7 : Int32) < (p2.toInt16.toInt32)
        · refine gCmpN X1 H at_184 (tlt hc40).2.2.2 187 rfl ?_
          refine gIconst X1 H at_187 (z := 1) rfl 188 rfl ?_
          refine gGoto X1 H at_188 (by decide) 192 rfl ?_
          refine gIstore X1 H at_192 (Ls' := #[vI p0, vI p1, vI p2, vI 0, vR w_ApiKey_PRODUCE, vI 3, vI 7, vI (p1 &&& (3 : Int32)), vI (p2.toInt16.toInt32), vI 0, vI 1, .unset]) rfl 194 rfl ?_
          refine gIload X1 H at_194 rfl 196 rfl ?_
          refine gIfN X1 H at_196 (by decide) 199 rfl ?_
          refine gIload X1 H at_199 rfl 201 rfl ?_
          refine gIfY X1 H at_201 (by decide) (by decide) 208 rfl ?_
          refine gIconst X1 H at_208 (z := 0) rfl 209 rfl ?_
          refine gIstore X1 H at_209 (Ls' := #[vI p0, vI p1, vI p2, vI 0, vR w_ApiKey_PRODUCE, vI 3, vI 7, vI (p1 &&& (3 : Int32)), vI (p2.toInt16.toInt32), vI 0, vI 1, vI 0]) rfl 211 rfl ?_
          refine gAload X1 H at_211 rfl rfl 213 rfl ?_
          refine gIload X1 H at_213 rfl 215 rfl ?_
          refine gVirt X1 H hZ hown (hw _ wd4) (hw _ wd5) (hw _ wd7) (hw _ wd6) (by decide) E_w_ApiKey_PRODUCE (hw _ wd8) (hw _ wd2) (rm43_1 B p2 hc34 hc40) e1 hml rfl pd0 rfl (W := 0) (argsL := [(.int (p2.toInt16.toInt32))]) (rest := []) rfl rfl at_215 218 rfl ?_
          intro v44 T44 L44 hq44 X44
          obtain ⟨rfl, e44, rfl⟩ := hq44
          show Go _ _ _ _ (State.setTop _ (mkF _ 218 _ [(.int 0)]))
          refine gIload X44 H at_218 rfl 220 rfl ?_
          refine gCmpN X44 H at_220 (by decide) 223 rfl ?_
          refine gIconst X44 H at_223 (z := 1) rfl 224 rfl ?_
          refine gGoto X44 H at_224 (by decide) 228 rfl ?_
          exact gRetN X44 H hlk hret (t := .boolean) (by simp) at_228 e44 ⟨rfl, Fr.nil _⟩
        · refine gCmpY X1 H at_184 (flt hc40).2.2.2 (by decide) 191 rfl ?_
          refine gIconst X1 H at_191 (z := 0) rfl 192 rfl ?_
          refine gIstore X1 H at_192 (Ls' := #[vI p0, vI p1, vI p2, vI 0, vR w_ApiKey_PRODUCE, vI 3, vI 7, vI (p1 &&& (3 : Int32)), vI (p2.toInt16.toInt32), vI 0, vI 0, .unset]) rfl 194 rfl ?_
          refine gIload X1 H at_194 rfl 196 rfl ?_
          refine gIfN X1 H at_196 (by decide) 199 rfl ?_
          refine gIload X1 H at_199 rfl 201 rfl ?_
          refine gIfN X1 H at_201 (by decide) 204 rfl ?_
          refine gIconst X1 H at_204 (z := 1) rfl 205 rfl ?_
          refine gGoto X1 H at_205 (by decide) 209 rfl ?_
          refine gIstore X1 H at_209 (Ls' := #[vI p0, vI p1, vI p2, vI 0, vR w_ApiKey_PRODUCE, vI 3, vI 7, vI (p1 &&& (3 : Int32)), vI (p2.toInt16.toInt32), vI 0, vI 0, vI 1]) rfl 211 rfl ?_
          refine gAload X1 H at_211 rfl rfl 213 rfl ?_
          refine gIload X1 H at_213 rfl 215 rfl ?_
          refine gVirt X1 H hZ hown (hw _ wd4) (hw _ wd5) (hw _ wd7) (hw _ wd6) (by decide) E_w_ApiKey_PRODUCE (hw _ wd8) (hw _ wd2) (rm47_1 B p2 hc34 hc40) e1 hml rfl pd0 rfl (W := 0) (argsL := [(.int (p2.toInt16.toInt32))]) (rest := []) rfl rfl at_215 218 rfl ?_
          intro v48 T48 L48 hq48 X48
          obtain ⟨rfl, e48, rfl⟩ := hq48
          show Go _ _ _ _ (State.setTop _ (mkF _ 218 _ [(.int 1)]))
          refine gIload X48 H at_218 rfl 220 rfl ?_
          refine gCmpN X48 H at_220 (by decide) 223 rfl ?_
          refine gIconst X48 H at_223 (z := 1) rfl 224 rfl ?_
          refine gGoto X48 H at_224 (by decide) 228 rfl ?_
          exact gRetN X48 H hlk hret (t := .boolean) (by simp) at_228 e48 ⟨rfl, Fr.nil _⟩
theorem rm54_1 (B : Bg Z a0 w_ApiKey_PRODUCE w_ApiKey_FETCH w_ApiKey_LIST_OFFSETS w_ApiKey_OFFSET_FOR_LEADER_EPOCH w_ApiKey_METADATA w_ApiKey_API_VERSIONS) (p2 : Int32) (hk1 : ((((4 : Int32) + (p2 &&& (7 : Int32))) - (3 : Int32)).toInt16.toInt32) < (4 : Int32)) :
    Con l Z (⟨"com/example/rolling_quorum/rollingquorum/protocol/ApiKey", "supports", "(S)Z"⟩ : MethodName) prog_29_method_8_code 2 (some .boolean) ({ frames := 0, cells := 0, slots := 0, locals := 0 } : Room) #[(.ref w_ApiKey_FETCH), (.int ((((4 : Int32) + (p2 &&& (7 : Int32))) - (3 : Int32)).toInt16.toInt32))] Z.heap (fun v h' L => v = some (.int 0) ∧ h' = Z.heap ∧ L = []) := by
  have hw := B.1
  obtain ⟨S_w_ApiKey_PRODUCE, E_w_ApiKey_PRODUCE, S_w_ApiKey_FETCH, E_w_ApiKey_FETCH, S_w_ApiKey_LIST_OFFSETS, E_w_ApiKey_LIST_OFFSETS, S_w_ApiKey_OFFSET_FOR_LEADER_EPOCH, E_w_ApiKey_OFFSET_FOR_LEADER_EPOCH, S_w_ApiKey_METADATA, E_w_ApiKey_METADATA, S_w_ApiKey_API_VERSIONS, E_w_ApiKey_API_VERSIONS, F_w_ApiKey_PRODUCE_minVersion, F_w_ApiKey_FETCH_minVersion, F_w_ApiKey_LIST_OFFSETS_minVersion, F_w_ApiKey_LIST_OFFSETS_maxVersion, F_w_ApiKey_OFFSET_FOR_LEADER_EPOCH_minVersion, F_w_ApiKey_OFFSET_FOR_LEADER_EPOCH_maxVersion, F_w_ApiKey_FETCH_maxVersion, F_w_ApiKey_METADATA_minVersion, F_w_ApiKey_API_VERSIONS_minVersion, F_w_ApiKey_API_VERSIONS_maxVersion, F_w_ApiKey_PRODUCE_maxVersion, F_w_ApiKey_METADATA_maxVersion⟩ := B.2
  refine Con.of (plainFor_of_name pn1) (Ls := #[vR w_ApiKey_FETCH, vI ((((4 : Int32) + (p2 &&& (7 : Int32))) - (3 : Int32)).toInt16.toInt32)]) (fun m => by first | rfl | (simp [entryFrame, mkF, argsToLocals, Value.category]; done)) ?_
  intro p e s m below meth c T0 X0 H hml hZ hown hnm hret hlk e0
  refine gIloadN X0 H d1_0 rfl 1 rfl ?_
  refine gAloadN X0 H d1_1 rfl rfl 2 rfl ?_
  refine gGetF X0 H hZ hown (hw _ wd9) Via.refl e0 F_w_ApiKey_FETCH_minVersion d1_2 5 rfl ?_
  intro T53 X53 e53
  refine gCmpY X53 H d1_5 (tlt hk1).1 (by decide) 20 rfl ?_
  refine gIconst X53 H d1_20 (z := 0) rfl 21 rfl ?_
  exact gRetN X53 H hlk hret (t := .boolean) (by simp) d1_21 e53 ⟨rfl, rfl, rfl⟩
theorem rm60_1 (B : Bg Z a0 w_ApiKey_PRODUCE w_ApiKey_FETCH w_ApiKey_LIST_OFFSETS w_ApiKey_OFFSET_FOR_LEADER_EPOCH w_ApiKey_METADATA w_ApiKey_API_VERSIONS) (p2 : Int32) (hk1 : ¬ (((((4 : Int32) + (p2 &&& (7 : Int32))) - (3 : Int32)).toInt16.toInt32) < (4 : Int32))) (hk2 : (11 : Int32) < ((((4 : Int32) + (p2 &&& (7 : Int32))) - (3 : Int32)).toInt16.toInt32)) :
    Con l Z (⟨"com/example/rolling_quorum/rollingquorum/protocol/ApiKey", "supports", "(S)Z"⟩ : MethodName) prog_29_method_8_code 2 (some .boolean) ({ frames := 0, cells := 0, slots := 0, locals := 0 } : Room) #[(.ref w_ApiKey_FETCH), (.int ((((4 : Int32) + (p2 &&& (7 : Int32))) - (3 : Int32)).toInt16.toInt32))] Z.heap (fun v h' L => v = some (.int 0) ∧ h' = Z.heap ∧ L = []) := by
  have hw := B.1
  obtain ⟨S_w_ApiKey_PRODUCE, E_w_ApiKey_PRODUCE, S_w_ApiKey_FETCH, E_w_ApiKey_FETCH, S_w_ApiKey_LIST_OFFSETS, E_w_ApiKey_LIST_OFFSETS, S_w_ApiKey_OFFSET_FOR_LEADER_EPOCH, E_w_ApiKey_OFFSET_FOR_LEADER_EPOCH, S_w_ApiKey_METADATA, E_w_ApiKey_METADATA, S_w_ApiKey_API_VERSIONS, E_w_ApiKey_API_VERSIONS, F_w_ApiKey_PRODUCE_minVersion, F_w_ApiKey_FETCH_minVersion, F_w_ApiKey_LIST_OFFSETS_minVersion, F_w_ApiKey_LIST_OFFSETS_maxVersion, F_w_ApiKey_OFFSET_FOR_LEADER_EPOCH_minVersion, F_w_ApiKey_OFFSET_FOR_LEADER_EPOCH_maxVersion, F_w_ApiKey_FETCH_maxVersion, F_w_ApiKey_METADATA_minVersion, F_w_ApiKey_API_VERSIONS_minVersion, F_w_ApiKey_API_VERSIONS_maxVersion, F_w_ApiKey_PRODUCE_maxVersion, F_w_ApiKey_METADATA_maxVersion⟩ := B.2
  refine Con.of (plainFor_of_name pn1) (Ls := #[vR w_ApiKey_FETCH, vI ((((4 : Int32) + (p2 &&& (7 : Int32))) - (3 : Int32)).toInt16.toInt32)]) (fun m => by first | rfl | (simp [entryFrame, mkF, argsToLocals, Value.category]; done)) ?_
  intro p e s m below meth c T0 X0 H hml hZ hown hnm hret hlk e0
  refine gIloadN X0 H d1_0 rfl 1 rfl ?_
  refine gAloadN X0 H d1_1 rfl rfl 2 rfl ?_
  refine gGetF X0 H hZ hown (hw _ wd9) Via.refl e0 F_w_ApiKey_FETCH_minVersion d1_2 5 rfl ?_
  intro T58 X58 e58
  refine gCmpN X58 H d1_5 (flt hk1).1 8 rfl ?_
  refine gIloadN X58 H d1_8 rfl 9 rfl ?_
  refine gAloadN X58 H d1_9 rfl rfl 10 rfl ?_
  refine gGetF X58 H hZ hown (hw _ wd15) Via.refl e58 F_w_ApiKey_FETCH_maxVersion d1_10 13 rfl ?_
  intro T59 X59 e59
  refine gCmpY X59 H d1_13 (tlt hk2).2.2.1 (by decide) 20 rfl ?_
  refine gIconst X59 H d1_20 (z := 0) rfl 21 rfl ?_
  exact gRetN X59 H hlk hret (t := .boolean) (by simp) d1_21 e59 ⟨rfl, rfl, rfl⟩
theorem rm64_1 (B : Bg Z a0 w_ApiKey_PRODUCE w_ApiKey_FETCH w_ApiKey_LIST_OFFSETS w_ApiKey_OFFSET_FOR_LEADER_EPOCH w_ApiKey_METADATA w_ApiKey_API_VERSIONS) (p2 : Int32) (hk1 : ¬ (((((4 : Int32) + (p2 &&& (7 : Int32))) - (3 : Int32)).toInt16.toInt32) < (4 : Int32))) (hk2 : ¬ ((11 : Int32) < ((((4 : Int32) + (p2 &&& (7 : Int32))) - (3 : Int32)).toInt16.toInt32))) :
    Con l Z (⟨"com/example/rolling_quorum/rollingquorum/protocol/ApiKey", "supports", "(S)Z"⟩ : MethodName) prog_29_method_8_code 2 (some .boolean) ({ frames := 0, cells := 0, slots := 0, locals := 0 } : Room) #[(.ref w_ApiKey_FETCH), (.int ((((4 : Int32) + (p2 &&& (7 : Int32))) - (3 : Int32)).toInt16.toInt32))] Z.heap (fun v h' L => v = some (.int 1) ∧ h' = Z.heap ∧ L = []) := by
  have hw := B.1
  obtain ⟨S_w_ApiKey_PRODUCE, E_w_ApiKey_PRODUCE, S_w_ApiKey_FETCH, E_w_ApiKey_FETCH, S_w_ApiKey_LIST_OFFSETS, E_w_ApiKey_LIST_OFFSETS, S_w_ApiKey_OFFSET_FOR_LEADER_EPOCH, E_w_ApiKey_OFFSET_FOR_LEADER_EPOCH, S_w_ApiKey_METADATA, E_w_ApiKey_METADATA, S_w_ApiKey_API_VERSIONS, E_w_ApiKey_API_VERSIONS, F_w_ApiKey_PRODUCE_minVersion, F_w_ApiKey_FETCH_minVersion, F_w_ApiKey_LIST_OFFSETS_minVersion, F_w_ApiKey_LIST_OFFSETS_maxVersion, F_w_ApiKey_OFFSET_FOR_LEADER_EPOCH_minVersion, F_w_ApiKey_OFFSET_FOR_LEADER_EPOCH_maxVersion, F_w_ApiKey_FETCH_maxVersion, F_w_ApiKey_METADATA_minVersion, F_w_ApiKey_API_VERSIONS_minVersion, F_w_ApiKey_API_VERSIONS_maxVersion, F_w_ApiKey_PRODUCE_maxVersion, F_w_ApiKey_METADATA_maxVersion⟩ := B.2
  refine Con.of (plainFor_of_name pn1) (Ls := #[vR w_ApiKey_FETCH, vI ((((4 : Int32) + (p2 &&& (7 : Int32))) - (3 : Int32)).toInt16.toInt32)]) (fun m => by first | rfl | (simp [entryFrame, mkF, argsToLocals, Value.category]; done)) ?_
  intro p e s m below meth c T0 X0 H hml hZ hown hnm hret hlk e0
  refine gIloadN X0 H d1_0 rfl 1 rfl ?_
  refine gAloadN X0 H d1_1 rfl rfl 2 rfl ?_
  refine gGetF X0 H hZ hown (hw _ wd9) Via.refl e0 F_w_ApiKey_FETCH_minVersion d1_2 5 rfl ?_
  intro T62 X62 e62
  refine gCmpN X62 H d1_5 (flt hk1).1 8 rfl ?_
  refine gIloadN X62 H d1_8 rfl 9 rfl ?_
  refine gAloadN X62 H d1_9 rfl rfl 10 rfl ?_
  refine gGetF X62 H hZ hown (hw _ wd15) Via.refl e62 F_w_ApiKey_FETCH_maxVersion d1_10 13 rfl ?_
  intro T63 X63 e63
  refine gCmpN X63 H d1_13 (flt hk2).2.2.1 16 rfl ?_
  refine gIconst X63 H d1_16 (z := 1) rfl 17 rfl ?_
  refine gGoto X63 H d1_17 (by decide) 21 rfl ?_
  exact gRetN X63 H hlk hret (t := .boolean) (by simp) d1_21 e63 ⟨rfl, rfl, rfl⟩
theorem rm70_1 (B : Bg Z a0 w_ApiKey_PRODUCE w_ApiKey_FETCH w_ApiKey_LIST_OFFSETS w_ApiKey_OFFSET_FOR_LEADER_EPOCH w_ApiKey_METADATA w_ApiKey_API_VERSIONS) (p2 : Int32) (hk2 : ((((11 : Int32) + (p2 &&& (7 : Int32))) - (4 : Int32)).toInt16.toInt32) < (4 : Int32)) :
    Con l Z (⟨"com/example/rolling_quorum/rollingquorum/protocol/ApiKey", "supports", "(S)Z"⟩ : MethodName) prog_29_method_8_code 2 (some .boolean) ({ frames := 0, cells := 0, slots := 0, locals := 0 } : Room) #[(.ref w_ApiKey_FETCH), (.int ((((11 : Int32) + (p2 &&& (7 : Int32))) - (4 : Int32)).toInt16.toInt32))] Z.heap (fun v h' L => v = some (.int 0) ∧ h' = Z.heap ∧ L = []) := by
  have hw := B.1
  obtain ⟨S_w_ApiKey_PRODUCE, E_w_ApiKey_PRODUCE, S_w_ApiKey_FETCH, E_w_ApiKey_FETCH, S_w_ApiKey_LIST_OFFSETS, E_w_ApiKey_LIST_OFFSETS, S_w_ApiKey_OFFSET_FOR_LEADER_EPOCH, E_w_ApiKey_OFFSET_FOR_LEADER_EPOCH, S_w_ApiKey_METADATA, E_w_ApiKey_METADATA, S_w_ApiKey_API_VERSIONS, E_w_ApiKey_API_VERSIONS, F_w_ApiKey_PRODUCE_minVersion, F_w_ApiKey_FETCH_minVersion, F_w_ApiKey_LIST_OFFSETS_minVersion, F_w_ApiKey_LIST_OFFSETS_maxVersion, F_w_ApiKey_OFFSET_FOR_LEADER_EPOCH_minVersion, F_w_ApiKey_OFFSET_FOR_LEADER_EPOCH_maxVersion, F_w_ApiKey_FETCH_maxVersion, F_w_ApiKey_METADATA_minVersion, F_w_ApiKey_API_VERSIONS_minVersion, F_w_ApiKey_API_VERSIONS_maxVersion, F_w_ApiKey_PRODUCE_maxVersion, F_w_ApiKey_METADATA_maxVersion⟩ := B.2
  refine Con.of (plainFor_of_name pn1) (Ls := #[vR w_ApiKey_FETCH, vI ((((11 : Int32) + (p2 &&& (7 : Int32))) - (4 : Int32)).toInt16.toInt32)]) (fun m => by first | rfl | (simp [entryFrame, mkF, argsToLocals, Value.category]; done)) ?_
  intro p e s m below meth c T0 X0 H hml hZ hown hnm hret hlk e0
  refine gIloadN X0 H d1_0 rfl 1 rfl ?_
  refine gAloadN X0 H d1_1 rfl rfl 2 rfl ?_
  refine gGetF X0 H hZ hown (hw _ wd9) Via.refl e0 F_w_ApiKey_FETCH_minVersion d1_2 5 rfl ?_
  intro T69 X69 e69
  refine gCmpY X69 H d1_5 (tlt hk2).1 (by decide) 20 rfl ?_
  refine gIconst X69 H d1_20 (z := 0) rfl 21 rfl ?_
  exact gRetN X69 H hlk hret (t := .boolean) (by simp) d1_21 e69 ⟨rfl, rfl, rfl⟩
theorem rm76_1 (B : Bg Z a0 w_ApiKey_PRODUCE w_ApiKey_FETCH w_ApiKey_LIST_OFFSETS w_ApiKey_OFFSET_FOR_LEADER_EPOCH w_ApiKey_METADATA w_ApiKey_API_VERSIONS) (p2 : Int32) (hk2 : ¬ (((((11 : Int32) + (p2 &&& (7 : Int32))) - (4 : Int32)).toInt16.toInt32) < (4 : Int32))) (hk3 : (11 : Int32) < ((((11 : Int32) + (p2 &&& (7 : Int32))) - (4 : Int32)).toInt16.toInt32)) :
    Con l Z (⟨"com/example/rolling_quorum/rollingquorum/protocol/ApiKey", "supports", "(S)Z"⟩ : MethodName) prog_29_method_8_code 2 (some .boolean) ({ frames := 0, cells := 0, slots := 0, locals := 0 } : Room) #[(.ref w_ApiKey_FETCH), (.int ((((11 : Int32) + (p2 &&& (7 : Int32))) - (4 : Int32)).toInt16.toInt32))] Z.heap (fun v h' L => v = some (.int 0) ∧ h' = Z.heap ∧ L = []) := by
  have hw := B.1
  obtain ⟨S_w_ApiKey_PRODUCE, E_w_ApiKey_PRODUCE, S_w_ApiKey_FETCH, E_w_ApiKey_FETCH, S_w_ApiKey_LIST_OFFSETS, E_w_ApiKey_LIST_OFFSETS, S_w_ApiKey_OFFSET_FOR_LEADER_EPOCH, E_w_ApiKey_OFFSET_FOR_LEADER_EPOCH, S_w_ApiKey_METADATA, E_w_ApiKey_METADATA, S_w_ApiKey_API_VERSIONS, E_w_ApiKey_API_VERSIONS, F_w_ApiKey_PRODUCE_minVersion, F_w_ApiKey_FETCH_minVersion, F_w_ApiKey_LIST_OFFSETS_minVersion, F_w_ApiKey_LIST_OFFSETS_maxVersion, F_w_ApiKey_OFFSET_FOR_LEADER_EPOCH_minVersion, F_w_ApiKey_OFFSET_FOR_LEADER_EPOCH_maxVersion, F_w_ApiKey_FETCH_maxVersion, F_w_ApiKey_METADATA_minVersion, F_w_ApiKey_API_VERSIONS_minVersion, F_w_ApiKey_API_VERSIONS_maxVersion, F_w_ApiKey_PRODUCE_maxVersion, F_w_ApiKey_METADATA_maxVersion⟩ := B.2
  refine Con.of (plainFor_of_name pn1) (Ls := #[vR w_ApiKey_FETCH, vI ((((11 : Int32) + (p2 &&& (7 : Int32))) - (4 : Int32)).toInt16.toInt32)]) (fun m => by first | rfl | (simp [entryFrame, mkF, argsToLocals, Value.category]; done)) ?_
  intro p e s m below meth c T0 X0 H hml hZ hown hnm hret hlk e0
  refine gIloadN X0 H d1_0 rfl 1 rfl ?_
  refine gAloadN X0 H d1_1 rfl rfl 2 rfl ?_
  refine gGetF X0 H hZ hown (hw _ wd9) Via.refl e0 F_w_ApiKey_FETCH_minVersion d1_2 5 rfl ?_
  intro T74 X74 e74
  refine gCmpN X74 H d1_5 (flt hk2).1 8 rfl ?_
  refine gIloadN X74 H d1_8 rfl 9 rfl ?_
  refine gAloadN X74 H d1_9 rfl rfl 10 rfl ?_
  refine gGetF X74 H hZ hown (hw _ wd15) Via.refl e74 F_w_ApiKey_FETCH_maxVersion d1_10 13 rfl ?_
  intro T75 X75 e75
  refine gCmpY X75 H d1_13 (tlt hk3).2.2.1 (by decide) 20 rfl ?_
  refine gIconst X75 H d1_20 (z := 0) rfl 21 rfl ?_
  exact gRetN X75 H hlk hret (t := .boolean) (by simp) d1_21 e75 ⟨rfl, rfl, rfl⟩
theorem rm80_1 (B : Bg Z a0 w_ApiKey_PRODUCE w_ApiKey_FETCH w_ApiKey_LIST_OFFSETS w_ApiKey_OFFSET_FOR_LEADER_EPOCH w_ApiKey_METADATA w_ApiKey_API_VERSIONS) (p2 : Int32) (hk2 : ¬ (((((11 : Int32) + (p2 &&& (7 : Int32))) - (4 : Int32)).toInt16.toInt32) < (4 : Int32))) (hk3 : ¬ ((11 : Int32) < ((((11 : Int32) + (p2 &&& (7 : Int32))) - (4 : Int32)).toInt16.toInt32))) :
    Con l Z (⟨"com/example/rolling_quorum/rollingquorum/protocol/ApiKey", "supports", "(S)Z"⟩ : MethodName) prog_29_method_8_code 2 (some .boolean) ({ frames := 0, cells := 0, slots := 0, locals := 0 } : Room) #[(.ref w_ApiKey_FETCH), (.int ((((11 : Int32) + (p2 &&& (7 : Int32))) - (4 : Int32)).toInt16.toInt32))] Z.heap (fun v h' L => v = some (.int 1) ∧ h' = Z.heap ∧ L = []) := by
  have hw := B.1
  obtain ⟨S_w_ApiKey_PRODUCE, E_w_ApiKey_PRODUCE, S_w_ApiKey_FETCH, E_w_ApiKey_FETCH, S_w_ApiKey_LIST_OFFSETS, E_w_ApiKey_LIST_OFFSETS, S_w_ApiKey_OFFSET_FOR_LEADER_EPOCH, E_w_ApiKey_OFFSET_FOR_LEADER_EPOCH, S_w_ApiKey_METADATA, E_w_ApiKey_METADATA, S_w_ApiKey_API_VERSIONS, E_w_ApiKey_API_VERSIONS, F_w_ApiKey_PRODUCE_minVersion, F_w_ApiKey_FETCH_minVersion, F_w_ApiKey_LIST_OFFSETS_minVersion, F_w_ApiKey_LIST_OFFSETS_maxVersion, F_w_ApiKey_OFFSET_FOR_LEADER_EPOCH_minVersion, F_w_ApiKey_OFFSET_FOR_LEADER_EPOCH_maxVersion, F_w_ApiKey_FETCH_maxVersion, F_w_ApiKey_METADATA_minVersion, F_w_ApiKey_API_VERSIONS_minVersion, F_w_ApiKey_API_VERSIONS_maxVersion, F_w_ApiKey_PRODUCE_maxVersion, F_w_ApiKey_METADATA_maxVersion⟩ := B.2
  refine Con.of (plainFor_of_name pn1) (Ls := #[vR w_ApiKey_FETCH, vI ((((11 : Int32) + (p2 &&& (7 : Int32))) - (4 : Int32)).toInt16.toInt32)]) (fun m => by first | rfl | (simp [entryFrame, mkF, argsToLocals, Value.category]; done)) ?_
  intro p e s m below meth c T0 X0 H hml hZ hown hnm hret hlk e0
  refine gIloadN X0 H d1_0 rfl 1 rfl ?_
  refine gAloadN X0 H d1_1 rfl rfl 2 rfl ?_
  refine gGetF X0 H hZ hown (hw _ wd9) Via.refl e0 F_w_ApiKey_FETCH_minVersion d1_2 5 rfl ?_
  intro T78 X78 e78
  refine gCmpN X78 H d1_5 (flt hk2).1 8 rfl ?_
  refine gIloadN X78 H d1_8 rfl 9 rfl ?_
  refine gAloadN X78 H d1_9 rfl rfl 10 rfl ?_
  refine gGetF X78 H hZ hown (hw _ wd15) Via.refl e78 F_w_ApiKey_FETCH_maxVersion d1_10 13 rfl ?_
  intro T79 X79 e79
  refine gCmpN X79 H d1_13 (flt hk3).2.2.1 16 rfl ?_
  refine gIconst X79 H d1_16 (z := 1) rfl 17 rfl ?_
  refine gGoto X79 H d1_17 (by decide) 21 rfl ?_
  exact gRetN X79 H hlk hret (t := .boolean) (by simp) d1_21 e79 ⟨rfl, rfl, rfl⟩
theorem rm85_1 (B : Bg Z a0 w_ApiKey_PRODUCE w_ApiKey_FETCH w_ApiKey_LIST_OFFSETS w_ApiKey_OFFSET_FOR_LEADER_EPOCH w_ApiKey_METADATA w_ApiKey_API_VERSIONS) (p2 : Int32) (hk2 : (p2.toInt16.toInt32) < (4 : Int32)) :
    Con l Z (⟨"com/example/rolling_quorum/rollingquorum/protocol/ApiKey", "supports", "(S)Z"⟩ : MethodName) prog_29_method_8_code 2 (some .boolean) ({ frames := 0, cells := 0, slots := 0, locals := 0 } : Room) #[(.ref w_ApiKey_FETCH), (.int (p2.toInt16.toInt32))] Z.heap (fun v h' L => v = some (.int 0) ∧ h' = Z.heap ∧ L = []) := by
  have hw := B.1
  obtain ⟨S_w_ApiKey_PRODUCE, E_w_ApiKey_PRODUCE, S_w_ApiKey_FETCH, E_w_ApiKey_FETCH, S_w_ApiKey_LIST_OFFSETS, E_w_ApiKey_LIST_OFFSETS, S_w_ApiKey_OFFSET_FOR_LEADER_EPOCH, E_w_ApiKey_OFFSET_FOR_LEADER_EPOCH, S_w_ApiKey_METADATA, E_w_ApiKey_METADATA, S_w_ApiKey_API_VERSIONS, E_w_ApiKey_API_VERSIONS, F_w_ApiKey_PRODUCE_minVersion, F_w_ApiKey_FETCH_minVersion, F_w_ApiKey_LIST_OFFSETS_minVersion, F_w_ApiKey_LIST_OFFSETS_maxVersion, F_w_ApiKey_OFFSET_FOR_LEADER_EPOCH_minVersion, F_w_ApiKey_OFFSET_FOR_LEADER_EPOCH_maxVersion, F_w_ApiKey_FETCH_maxVersion, F_w_ApiKey_METADATA_minVersion, F_w_ApiKey_API_VERSIONS_minVersion, F_w_ApiKey_API_VERSIONS_maxVersion, F_w_ApiKey_PRODUCE_maxVersion, F_w_ApiKey_METADATA_maxVersion⟩ := B.2
  refine Con.of (plainFor_of_name pn1) (Ls := #[vR w_ApiKey_FETCH, vI (p2.toInt16.toInt32)]) (fun m => by first | rfl | (simp [entryFrame, mkF, argsToLocals, Value.category]; done)) ?_
  intro p e s m below meth c T0 X0 H hml hZ hown hnm hret hlk e0
  refine gIloadN X0 H d1_0 rfl 1 rfl ?_
  refine gAloadN X0 H d1_1 rfl rfl 2 rfl ?_
  refine gGetF X0 H hZ hown (hw _ wd9) Via.refl e0 F_w_ApiKey_FETCH_minVersion d1_2 5 rfl ?_
  intro T84 X84 e84
  refine gCmpY X84 H d1_5 (tlt hk2).1 (by decide) 20 rfl ?_
  refine gIconst X84 H d1_20 (z := 0) rfl 21 rfl ?_
  exact gRetN X84 H hlk hret (t := .boolean) (by simp) d1_21 e84 ⟨rfl, rfl, rfl⟩
theorem rm91_1 (B : Bg Z a0 w_ApiKey_PRODUCE w_ApiKey_FETCH w_ApiKey_LIST_OFFSETS w_ApiKey_OFFSET_FOR_LEADER_EPOCH w_ApiKey_METADATA w_ApiKey_API_VERSIONS) (p2 : Int32) (hk2 : ¬ ((p2.toInt16.toInt32) < (4 : Int32))) (hk3 : (11 : Int32) < (p2.toInt16.toInt32)) :
    Con l Z (⟨"com/example/rolling_quorum/rollingquorum/protocol/ApiKey", "supports", "(S)Z"⟩ : MethodName) prog_29_method_8_code 2 (some .boolean) ({ frames := 0, cells := 0, slots := 0, locals := 0 } : Room) #[(.ref w_ApiKey_FETCH), (.int (p2.toInt16.toInt32))] Z.heap (fun v h' L => v = some (.int 0) ∧ h' = Z.heap ∧ L = []) := by
  have hw := B.1
  obtain ⟨S_w_ApiKey_PRODUCE, E_w_ApiKey_PRODUCE, S_w_ApiKey_FETCH, E_w_ApiKey_FETCH, S_w_ApiKey_LIST_OFFSETS, E_w_ApiKey_LIST_OFFSETS, S_w_ApiKey_OFFSET_FOR_LEADER_EPOCH, E_w_ApiKey_OFFSET_FOR_LEADER_EPOCH, S_w_ApiKey_METADATA, E_w_ApiKey_METADATA, S_w_ApiKey_API_VERSIONS, E_w_ApiKey_API_VERSIONS, F_w_ApiKey_PRODUCE_minVersion, F_w_ApiKey_FETCH_minVersion, F_w_ApiKey_LIST_OFFSETS_minVersion, F_w_ApiKey_LIST_OFFSETS_maxVersion, F_w_ApiKey_OFFSET_FOR_LEADER_EPOCH_minVersion, F_w_ApiKey_OFFSET_FOR_LEADER_EPOCH_maxVersion, F_w_ApiKey_FETCH_maxVersion, F_w_ApiKey_METADATA_minVersion, F_w_ApiKey_API_VERSIONS_minVersion, F_w_ApiKey_API_VERSIONS_maxVersion, F_w_ApiKey_PRODUCE_maxVersion, F_w_ApiKey_METADATA_maxVersion⟩ := B.2
  refine Con.of (plainFor_of_name pn1) (Ls := #[vR w_ApiKey_FETCH, vI (p2.toInt16.toInt32)]) (fun m => by first | rfl | (simp [entryFrame, mkF, argsToLocals, Value.category]; done)) ?_
  intro p e s m below meth c T0 X0 H hml hZ hown hnm hret hlk e0
  refine gIloadN X0 H d1_0 rfl 1 rfl ?_
  refine gAloadN X0 H d1_1 rfl rfl 2 rfl ?_
  refine gGetF X0 H hZ hown (hw _ wd9) Via.refl e0 F_w_ApiKey_FETCH_minVersion d1_2 5 rfl ?_
  intro T89 X89 e89
  refine gCmpN X89 H d1_5 (flt hk2).1 8 rfl ?_
  refine gIloadN X89 H d1_8 rfl 9 rfl ?_
  refine gAloadN X89 H d1_9 rfl rfl 10 rfl ?_
  refine gGetF X89 H hZ hown (hw _ wd15) Via.refl e89 F_w_ApiKey_FETCH_maxVersion d1_10 13 rfl ?_
  intro T90 X90 e90
  refine gCmpY X90 H d1_13 (tlt hk3).2.2.1 (by decide) 20 rfl ?_
  refine gIconst X90 H d1_20 (z := 0) rfl 21 rfl ?_
  exact gRetN X90 H hlk hret (t := .boolean) (by simp) d1_21 e90 ⟨rfl, rfl, rfl⟩
theorem rm95_1 (B : Bg Z a0 w_ApiKey_PRODUCE w_ApiKey_FETCH w_ApiKey_LIST_OFFSETS w_ApiKey_OFFSET_FOR_LEADER_EPOCH w_ApiKey_METADATA w_ApiKey_API_VERSIONS) (p2 : Int32) (hk2 : ¬ ((p2.toInt16.toInt32) < (4 : Int32))) (hk3 : ¬ ((11 : Int32) < (p2.toInt16.toInt32))) :
    Con l Z (⟨"com/example/rolling_quorum/rollingquorum/protocol/ApiKey", "supports", "(S)Z"⟩ : MethodName) prog_29_method_8_code 2 (some .boolean) ({ frames := 0, cells := 0, slots := 0, locals := 0 } : Room) #[(.ref w_ApiKey_FETCH), (.int (p2.toInt16.toInt32))] Z.heap (fun v h' L => v = some (.int 1) ∧ h' = Z.heap ∧ L = []) := by
  have hw := B.1
  obtain ⟨S_w_ApiKey_PRODUCE, E_w_ApiKey_PRODUCE, S_w_ApiKey_FETCH, E_w_ApiKey_FETCH, S_w_ApiKey_LIST_OFFSETS, E_w_ApiKey_LIST_OFFSETS, S_w_ApiKey_OFFSET_FOR_LEADER_EPOCH, E_w_ApiKey_OFFSET_FOR_LEADER_EPOCH, S_w_ApiKey_METADATA, E_w_ApiKey_METADATA, S_w_ApiKey_API_VERSIONS, E_w_ApiKey_API_VERSIONS, F_w_ApiKey_PRODUCE_minVersion, F_w_ApiKey_FETCH_minVersion, F_w_ApiKey_LIST_OFFSETS_minVersion, F_w_ApiKey_LIST_OFFSETS_maxVersion, F_w_ApiKey_OFFSET_FOR_LEADER_EPOCH_minVersion, F_w_ApiKey_OFFSET_FOR_LEADER_EPOCH_maxVersion, F_w_ApiKey_FETCH_maxVersion, F_w_ApiKey_METADATA_minVersion, F_w_ApiKey_API_VERSIONS_minVersion, F_w_ApiKey_API_VERSIONS_maxVersion, F_w_ApiKey_PRODUCE_maxVersion, F_w_ApiKey_METADATA_maxVersion⟩ := B.2
  refine Con.of (plainFor_of_name pn1) (Ls := #[vR w_ApiKey_FETCH, vI (p2.toInt16.toInt32)]) (fun m => by first | rfl | (simp [entryFrame, mkF, argsToLocals, Value.category]; done)) ?_
  intro p e s m below meth c T0 X0 H hml hZ hown hnm hret hlk e0
  refine gIloadN X0 H d1_0 rfl 1 rfl ?_
  refine gAloadN X0 H d1_1 rfl rfl 2 rfl ?_
  refine gGetF X0 H hZ hown (hw _ wd9) Via.refl e0 F_w_ApiKey_FETCH_minVersion d1_2 5 rfl ?_
  intro T93 X93 e93
  refine gCmpN X93 H d1_5 (flt hk2).1 8 rfl ?_
  refine gIloadN X93 H d1_8 rfl 9 rfl ?_
  refine gAloadN X93 H d1_9 rfl rfl 10 rfl ?_
  refine gGetF X93 H hZ hown (hw _ wd15) Via.refl e93 F_w_ApiKey_FETCH_maxVersion d1_10 13 rfl ?_
  intro T94 X94 e94
  refine gCmpN X94 H d1_13 (flt hk3).2.2.1 16 rfl ?_
  refine gIconst X94 H d1_16 (z := 1) rfl 17 rfl ?_
  refine gGoto X94 H d1_17 (by decide) 21 rfl ?_
  exact gRetN X94 H hlk hret (t := .boolean) (by simp) d1_21 e94 ⟨rfl, rfl, rfl⟩
theorem lawAll_1 (B : Bg Z a0 w_ApiKey_PRODUCE w_ApiKey_FETCH w_ApiKey_LIST_OFFSETS w_ApiKey_OFFSET_FOR_LEADER_EPOCH w_ApiKey_METADATA w_ApiKey_API_VERSIONS) (p0 : Int32) (p1 : Int32) (p2 : Int32) (ha0 : ((p0 &&& (2147483647 : Int32)) % (6 : Int32)) = (1 : Int32)) :
    Con l Z x code maxLocals ret room_1 #[(.int p0), (.int p1), (.int p2)] Z.heap (fun v h' L => v = some (.int 1) ∧ Fr Z.heap.size L) := by
  have hw := B.1
  obtain ⟨S_w_ApiKey_PRODUCE, E_w_ApiKey_PRODUCE, S_w_ApiKey_FETCH, E_w_ApiKey_FETCH, S_w_ApiKey_LIST_OFFSETS, E_w_ApiKey_LIST_OFFSETS, S_w_ApiKey_OFFSET_FOR_LEADER_EPOCH, E_w_ApiKey_OFFSET_FOR_LEADER_EPOCH, S_w_ApiKey_METADATA, E_w_ApiKey_METADATA, S_w_ApiKey_API_VERSIONS, E_w_ApiKey_API_VERSIONS, F_w_ApiKey_PRODUCE_minVersion, F_w_ApiKey_FETCH_minVersion, F_w_ApiKey_LIST_OFFSETS_minVersion, F_w_ApiKey_LIST_OFFSETS_maxVersion, F_w_ApiKey_OFFSET_FOR_LEADER_EPOCH_minVersion, F_w_ApiKey_OFFSET_FOR_LEADER_EPOCH_maxVersion, F_w_ApiKey_FETCH_maxVersion, F_w_ApiKey_METADATA_minVersion, F_w_ApiKey_API_VERSIONS_minVersion, F_w_ApiKey_API_VERSIONS_maxVersion, F_w_ApiKey_PRODUCE_maxVersion, F_w_ApiKey_METADATA_maxVersion⟩ := B.2
  refine Con.of (plainFor_of_name pn0) (Ls := #[vI p0, vI p1, vI p2, .unset, .unset, .unset, .unset, .unset, .unset, .unset, .unset, .unset]) (fun m => by first | rfl | (simp [entryFrame, mkF, argsToLocals, Value.category, maxLocals]; done)) ?_
  intro p e s m below meth c T0 X0 H hml hZ hown hnm hret hlk e0
  refine gIloadN X0 H at_0 rfl 1 rfl ?_
  refine gLdc X0 H hZ hown (hw _ wd0) at_1 3 rfl ?_
  refine g_iand X0 H at_3 (z := (p0 &&& (2147483647 : Int32))) rfl 4 rfl ?_
  refine gBipush X0 H at_4 (z := 6) rfl 6 rfl ?_
  refine g_irem X0 H at_6 (by decide) (z := 1) ha0 7 rfl ?_
  refine gIstoreN X0 H at_7 (Ls' := #[vI p0, vI p1, vI p2, vI 1, .unset, .unset, .unset, .unset, .unset, .unset, .unset, .unset]) rfl 8 rfl ?_
  refine gIloadN X0 H at_8 rfl 9 rfl ?_
  refine gIfY X0 H at_9 (by decide) (by decide) 27 rfl ?_
  refine gIloadN X0 H at_27 rfl 28 rfl ?_
  refine gIconst X0 H at_28 (z := 1) rfl 29 rfl ?_
  refine gCmpN X0 H at_29 (by decide) 32 rfl ?_
  refine gGetS X0 H hZ hown (hw _ wd11) e0 S_w_ApiKey_FETCH at_32 35 rfl ?_
  intro T49 X49 e49
  refine gAstore X49 H at_35 rfl (Ls' := #[vI p0, vI p1, vI p2, vI 1, vR w_ApiKey_FETCH, .unset, .unset, .unset, .unset, .unset, .unset, .unset]) rfl 37 rfl ?_
  refine gIconst X49 H at_37 (z := 4) rfl 38 rfl ?_
  refine gIstore X49 H at_38 (Ls' := #[vI p0, vI p1, vI p2, vI 1, vR w_ApiKey_FETCH, vI 4, .unset, .unset, .unset, .unset, .unset, .unset]) rfl 40 rfl ?_
  refine gBipush X49 H at_40 (z := 11) rfl 42 rfl ?_
  refine gIstore X49 H at_42 (Ls' := #[vI p0, vI p1, vI p2, vI 1, vR w_ApiKey_FETCH, vI 4, vI 11, .unset, .unset, .unset, .unset, .unset]) rfl 44 rfl ?_
  refine gGoto X49 H at_44 (by decide) 115 rfl ?_
  refine gIloadN X49 H at_115 rfl 116 rfl ?_
  refine gIconst X49 H at_116 (z := 3) rfl 117 rfl ?_
  refine g_iand X49 H at_117 (z := (p1 &&& (3 : Int32))) rfl 118 rfl ?_
  refine gIstore X49 H at_118 (Ls' := #[vI p0, vI p1, vI p2, vI 1, vR w_ApiKey_FETCH, vI 4, vI 11, vI (p1 &&& (3 : Int32)), .unset, .unset, .unset, .unset]) rfl 120 rfl ?_
  refine gIload X49 H at_120 rfl 122 rfl ?_
  refine gIconst X49 H at_122 (z := 1) rfl 123 rfl ?_
  by_cases hc50 : (p1 &&& (3 : Int32)) = (1 : Int32)
  · refine gCmpN X49 H at_123 (teq hc50).2 126 rfl ?_
    refine gIload X49 H at_126 rfl 128 rfl ?_
    refine gIloadN X49 H at_128 rfl 129 rfl ?_
    refine gBipush X49 H at_129 (z := 7) rfl 131 rfl ?_
    refine g_iand X49 H at_131 (z := (p2 &&& (7 : Int32))) rfl 132 rfl ?_
    refine g_iadd X49 H at_132 (z := ((4 : Int32) + (p2 &&& (7 : Int32)))) rfl 133 rfl ?_
    refine gIconst X49 H at_133 (z := 3) rfl 134 rfl ?_
    refine g_isub X49 H at_134 (z := (((4 : Int32) + (p2 &&& (7 : Int32))) - (3 : Int32))) rfl 135 rfl ?_
    refine g_i2s X49 H at_135 (z := ((((4 : Int32) + (p2 &&& (7 : Int32))) - (3 : Int32)).toInt16.toInt32)) rfl 136 rfl ?_
    refine gIstore X49 H at_136 (Ls' := #[vI p0, vI p1, vI p2, vI 1, vR w_ApiKey_FETCH, vI 4, vI 11, vI (p1 &&& (3 : Int32)), vI ((((4 : Int32) + (p2 &&& (7 : Int32))) - (3 : Int32)).toInt16.toInt32), .unset, .unset, .unset]) rfl 138 rfl ?_
    refine gGoto X49 H at_138 (by decide) 166 rfl ?_
    refine gIload X49 H at_166 rfl 168 rfl ?_
    refine gIload X49 H at_168 rfl 170 rfl ?_
    by_cases hc51 : ((((4 : Int32) + (p2 &&& (7 : Int32))) - (3 : Int32)).toInt16.toInt32) < (4 : Int32)
    · refine gCmpN X49 H at_170 (tlt hc51).2.1 173 rfl ?_
      refine gIconst X49 H at_173 (z := 1) rfl 174 rfl ?_
      refine gGoto X49 H at_174 (by decide) 178 rfl ?_
      refine gIstore X49 H at_178 (Ls' := #[vI p0, vI p1, vI p2, vI 1, vR w_ApiKey_FETCH, vI 4, vI 11, vI (p1 &&& (3 : Int32)), vI ((((4 : Int32) + (p2 &&& (7 : Int32))) - (3 : Int32)).toInt16.toInt32), vI 1, .unset, .unset]) rfl 180 rfl ?_
      refine gIload X49 H at_180 rfl 182 rfl ?_
      refine gIload X49 H at_182 rfl 184 rfl ?_
      by_cases hc52 : (11 : Int32) < ((((4 : Int32) + (p2 &&& (7 : Int32))) - (3 : Int32)).toInt16.toInt32)
      · refine gCmpN X49 H at_184 (tlt hc52).2.2.2 187 rfl ?_
        refine gIconst X49 H at_187 (z := 1) rfl 188 rfl ?_
        refine gGoto X49 H at_188 (by decide) 192 rfl ?_
        refine gIstore X49 H at_192 (Ls' := #[vI p0, vI p1, vI p2, vI 1, vR w_ApiKey_FETCH, vI 4, vI 11, vI (p1 &&& (3 : Int32)), vI ((((4 : Int32) + (p2 &&& (7 : Int32))) - (3 : Int32)).toInt16.toInt32), vI 1, vI 1, .unset]) rfl 194 rfl ?_
        refine gIload X49 H at_194 rfl 196 rfl ?_
        refine gIfY X49 H at_196 (by decide) (by decide) 208 rfl ?_
        refine gIconst X49 H at_208 (z := 0) rfl 209 rfl ?_
        refine gIstore X49 H at_209 (Ls' := #[vI p0, vI p1, vI p2, vI 1, vR w_ApiKey_FETCH, vI 4, vI 11, vI (p1 &&& (3 : Int32)), vI ((((4 : Int32) + (p2 &&& (7 : Int32))) - (3 : Int32)).toInt16.toInt32), vI 1, vI 1, vI 0]) rfl 211 rfl ?_
        refine gAload X49 H at_211 rfl rfl 213 rfl ?_
        refine gIload X49 H at_213 rfl 215 rfl ?_
        refine gVirt X49 H hZ hown (hw _ wd4) (hw _ wd5) (hw _ wd7) (hw _ wd6) (by decide) E_w_ApiKey_FETCH (hw _ wd8) (hw _ wd2) (rm54_1 B p2 hc51) e49 hml rfl pd0 rfl (W := 0) (argsL := [(.int ((((4 : Int32) + (p2 &&& (7 : Int32))) - (3 : Int32)).toInt16.toInt32))]) (rest := []) rfl rfl at_215 218 rfl ?_
        intro v55 T55 L55 hq55 X55
        obtain ⟨rfl, e55, rfl⟩ := hq55
        show Go _ _ _ _ (State.setTop _ (mkF _ 218 _ [(.int 0)]))
        refine gIload X55 H at_218 rfl 220 rfl ?_
        refine gCmpN X55 H at_220 (by decide) 223 rfl ?_
        refine gIconst X55 H at_223 (z := 1) rfl 224 rfl ?_
        refine gGoto X55 H at_224 (by decide) 228 rfl ?_
        exact gRetN X55 H hlk hret (t := .boolean) (by simp) at_228 e55 ⟨rfl, Fr.nil _⟩
      · refine gCmpY X49 H at_184 (flt hc52).2.2.2 (by decide) 191 rfl ?_
        refine gIconst X49 H at_191 (z := 0) rfl 192 rfl ?_
        refine gIstore X49 H at_192 (Ls' := #[vI p0, vI p1, vI p2, vI 1, vR w_ApiKey_FETCH, vI 4, vI 11, vI (p1 &&& (3 : Int32)), vI ((((4 : Int32) + (p2 &&& (7 : Int32))) - (3 : Int32)).toInt16.toInt32), vI 1, vI 0, .unset]) rfl 194 rfl ?_
        refine gIload X49 H at_194 rfl 196 rfl ?_
        refine gIfY X49 H at_196 (by decide) (by decide) 208 rfl ?_
        refine gIconst X49 H at_208 (z := 0) rfl 209 rfl ?_
        refine gIstore X49 H at_209 (Ls' := #[vI p0, vI p1, vI p2, vI 1, vR w_ApiKey_FETCH, vI 4, vI 11, vI (p1 &&& (3 : Int32)), vI ((((4 : Int32) + (p2 &&& (7 : Int32))) - (3 : Int32)).toInt16.toInt32), vI 1, vI 0, vI 0]) rfl 211 rfl ?_
        refine gAload X49 H at_211 rfl rfl 213 rfl ?_
        refine gIload X49 H at_213 rfl 215 rfl ?_
        refine gVirt X49 H hZ hown (hw _ wd4) (hw _ wd5) (hw _ wd7) (hw _ wd6) (by decide) E_w_ApiKey_FETCH (hw _ wd8) (hw _ wd2) (rm54_1 B p2 hc51) e49 hml rfl pd0 rfl (W := 0) (argsL := [(.int ((((4 : Int32) + (p2 &&& (7 : Int32))) - (3 : Int32)).toInt16.toInt32))]) (rest := []) rfl rfl at_215 218 rfl ?_
        intro v56 T56 L56 hq56 X56
        obtain ⟨rfl, e56, rfl⟩ := hq56
        show Go _ _ _ _ (State.setTop _ (mkF _ 218 _ [(.int 0)]))
        refine gIload X56 H at_218 rfl 220 rfl ?_
        refine gCmpN X56 H at_220 (by decide) 223 rfl ?_
        refine gIconst X56 H at_223 (z := 1) rfl 224 rfl ?_
        refine gGoto X56 H at_224 (by decide) 228 rfl ?_
        exact gRetN X56 H hlk hret (t := .boolean) (by simp) at_228 e56 ⟨rfl, Fr.nil _⟩
    · refine gCmpY X49 H at_170 (flt hc51).2.1 (by decide) 177 rfl ?_
      refine gIconst X49 H at_177 (z := 0) rfl 178 rfl ?_
      refine gIstore X49 H at_178 (Ls' := #[vI p0, vI p1, vI p2, vI 1, vR w_ApiKey_FETCH, vI 4, vI 11, vI (p1 &&& (3 : Int32)), vI ((((4 : Int32) + (p2 &&& (7 : Int32))) - (3 : Int32)).toInt16.toInt32), vI 0, .unset, .unset]) rfl 180 rfl ?_
      refine gIload X49 H at_180 rfl 182 rfl ?_
      refine gIload X49 H at_182 rfl 184 rfl ?_
      by_cases hc57 : (11 : Int32) < ((((4 : Int32) + (p2 &&& (7 : Int32))) - (3 : Int32)).toInt16.toInt32)
      · refine gCmpN X49 H at_184 (tlt hc57).2.2.2 187 rfl ?_
        refine gIconst X49 H at_187 (z := 1) rfl 188 rfl ?_
        refine gGoto X49 H at_188 (by decide) 192 rfl ?_
        refine gIstore X49 H at_192 (Ls' := #[vI p0, vI p1, vI p2, vI 1, vR w_ApiKey_FETCH, vI 4, vI 11, vI (p1 &&& (3 : Int32)), vI ((((4 : Int32) + (p2 &&& (7 : Int32))) - (3 : Int32)).toInt16.toInt32), vI 0, vI 1, .unset]) rfl 194 rfl ?_
        refine gIload X49 H at_194 rfl 196 rfl ?_
        refine gIfN X49 H at_196 (by decide) 199 rfl ?_
        refine gIload X49 H at_199 rfl 201 rfl ?_
        refine gIfY X49 H at_201 (by decide) (by decide) 208 rfl ?_
        refine gIconst X49 H at_208 (z := 0) rfl 209 rfl ?_
        refine gIstore X49 H at_209 (Ls' := #[vI p0, vI p1, vI p2, vI 1, vR w_ApiKey_FETCH, vI 4, vI 11, vI (p1 &&& (3 : Int32)), vI ((((4 : Int32) + (p2 &&& (7 : Int32))) - (3 : Int32)).toInt16.toInt32), vI 0, vI 1, vI 0]) rfl 211 rfl ?_
        refine gAload X49 H at_211 rfl rfl 213 rfl ?_
        refine gIload X49 H at_213 rfl 215 rfl ?_
        refine gVirt X49 H hZ hown (hw _ wd4) (hw _ wd5) (hw _ wd7) (hw _ wd6) (by decide) E_w_ApiKey_FETCH (hw _ wd8) (hw _ wd2) (rm60_1 B p2 hc51 hc57) e49 hml rfl pd0 rfl (W := 0) (argsL := [(.int ((((4 : Int32) + (p2 &&& (7 : Int32))) - (3 : Int32)).toInt16.toInt32))]) (rest := []) rfl rfl at_215 218 rfl ?_
        intro v61 T61 L61 hq61 X61
        obtain ⟨rfl, e61, rfl⟩ := hq61
        show Go _ _ _ _ (State.setTop _ (mkF _ 218 _ [(.int 0)]))
        refine gIload X61 H at_218 rfl 220 rfl ?_
        refine gCmpN X61 H at_220 (by decide) 223 rfl ?_
        refine gIconst X61 H at_223 (z := 1) rfl 224 rfl ?_
        refine gGoto X61 H at_224 (by decide) 228 rfl ?_
        exact gRetN X61 H hlk hret (t := .boolean) (by simp) at_228 e61 ⟨rfl, Fr.nil _⟩
      · refine gCmpY X49 H at_184 (flt hc57).2.2.2 (by decide) 191 rfl ?_
        refine gIconst X49 H at_191 (z := 0) rfl 192 rfl ?_
        refine gIstore X49 H at_192 (Ls' := #[vI p0, vI p1, vI p2, vI 1, vR w_ApiKey_FETCH, vI 4, vI 11, vI (p1 &&& (3 : Int32)), vI ((((4 : Int32) + (p2 &&& (7 : Int32))) - (3 : Int32)).toInt16.toInt32), vI 0, vI 0, .unset]) rfl 194 rfl ?_
        refine gIload X49 H at_194 rfl 196 rfl ?_
        refine gIfN X49 H at_196 (by decide) 199 rfl ?_
        refine gIload X49 H at_199 rfl 201 rfl ?_
        refine gIfN X49 H at_201 (by decide) 204 rfl ?_
        refine gIconst X49 H at_204 (z := 1) rfl 205 rfl ?_
        refine gGoto X49 H at_205 (by decide) 209 rfl ?_
        refine gIstore X49 H at_209 (Ls' := #[vI p0, vI p1, vI p2, vI 1, vR w_ApiKey_FETCH, vI 4, vI 11, vI (p1 &&& (3 : Int32)), vI ((((4 : Int32) + (p2 &&& (7 : Int32))) - (3 : Int32)).toInt16.toInt32), vI 0, vI 0, vI 1]) rfl 211 rfl ?_
        refine gAload X49 H at_211 rfl rfl 213 rfl ?_
        refine gIload X49 H at_213 rfl 215 rfl ?_
        refine gVirt X49 H hZ hown (hw _ wd4) (hw _ wd5) (hw _ wd7) (hw _ wd6) (by decide) E_w_ApiKey_FETCH (hw _ wd8) (hw _ wd2) (rm64_1 B p2 hc51 hc57) e49 hml rfl pd0 rfl (W := 0) (argsL := [(.int ((((4 : Int32) + (p2 &&& (7 : Int32))) - (3 : Int32)).toInt16.toInt32))]) (rest := []) rfl rfl at_215 218 rfl ?_
        intro v65 T65 L65 hq65 X65
        obtain ⟨rfl, e65, rfl⟩ := hq65
        show Go _ _ _ _ (State.setTop _ (mkF _ 218 _ [(.int 1)]))
        refine gIload X65 H at_218 rfl 220 rfl ?_
        refine gCmpN X65 H at_220 (by decide) 223 rfl ?_
        refine gIconst X65 H at_223 (z := 1) rfl 224 rfl ?_
        refine gGoto X65 H at_224 (by decide) 228 rfl ?_
        exact gRetN X65 H hlk hret (t := .boolean) (by simp) at_228 e65 ⟨rfl, Fr.nil _⟩
  · refine gCmpY X49 H at_123 (feq hc50).2 (by decide) 141 rfl ?_
    refine gIload X49 H at_141 rfl 143 rfl ?_
    refine gIconst X49 H at_143 (z := 2) rfl 144 rfl ?_
    by_cases hc66 : (p1 &&& (3 : Int32)) = (2 : Int32)
    · refine gCmpN X49 H at_144 (teq hc66).2 147 rfl ?_
      refine gIload X49 H at_147 rfl 149 rfl ?_
      refine gIloadN X49 H at_149 rfl 150 rfl ?_
      refine gBipush X49 H at_150 (z := 7) rfl 152 rfl ?_
      refine g_iand X49 H at_152 (z := (p2 &&& (7 : Int32))) rfl 153 rfl ?_
      refine g_iadd X49 H at_153 (z := ((11 : Int32) + (p2 &&& (7 : Int32)))) rfl 154 rfl ?_
      refine gIconst X49 H at_154 (z := 4) rfl 155 rfl ?_
      refine g_isub X49 H at_155 (z := (((11 : Int32) + (p2 &&& (7 : Int32))) - (4 : Int32))) rfl 156 rfl ?_
      refine g_i2s X49 H at_156 (z := ((((11 : Int32) + (p2 &&& (7 : Int32))) - (4 : Int32)).toInt16.toInt32)) rfl 157 rfl ?_
      refine gIstore X49 H at_157 (Ls' := #[vI p0, vI p1, vI p2, vI 1, vR w_ApiKey_FETCH, vI 4, vI 11, vI (p1 &&& (3 : Int32)), vI ((((11 : Int32) + (p2 &&& (7 : Int32))) - (4 : Int32)).toInt16.toInt32), .unset, .unset, .unset]) rfl 159 rfl ?_
      refine gGoto X49 H at_159 (by decide) 166 rfl ?_
      refine gIload X49 H at_166 rfl 168 rfl ?_
      refine gIload X49 H at_168 rfl 170 rfl ?_
      by_cases hc67 : ((((11 : Int32) + (p2 &&& (7 : Int32))) - (4 : Int32)).toInt16.toInt32) < (4 : Int32)
      · refine gCmpN X49 H at_170 (tlt hc67).2.1 173 rfl ?_
        refine gIconst X49 H at_173 (z := 1) rfl 174 rfl ?_
        refine gGoto X49 H at_174 (by decide) 178 rfl ?_
        refine gIstore X49 H at_178 (Ls' := #[vI p0, vI p1, vI p2, vI 1, vR w_ApiKey_FETCH, vI 4, vI 11, vI (p1 &&& (3 : Int32)), vI ((((11 : Int32) + (p2 &&& (7 : Int32))) - (4 : Int32)).toInt16.toInt32), vI 1, .unset, .unset]) rfl 180 rfl ?_
        refine gIload X49 H at_180 rfl 182 rfl ?_
        refine gIload X49 H at_182 rfl 184 rfl ?_
        by_cases hc68 : (11 : Int32) < ((((11 : Int32) + (p2 &&& (7 : Int32))) - (4 : Int32)).toInt16.toInt32)
        · refine gCmpN X49 H at_184 (tlt hc68).2.2.2 187 rfl ?_
          refine gIconst X49 H at_187 (z := 1) rfl 188 rfl ?_
          refine gGoto X49 H at_188 (by decide) 192 rfl ?_
          refine gIstore X49 H at_192 (Ls' := #[vI p0, vI p1, vI p2, vI 1, vR w_ApiKey_FETCH, vI 4, vI 11, vI (p1 &&& (3 : Int32)), vI ((((11 : Int32) + (p2 &&& (7 : Int32))) - (4 : Int32)).toInt16.toInt32), vI 1, vI 1, .unset]) rfl 194 rfl ?_
          refine gIload X49 H at_194 rfl 196 rfl ?_
          refine gIfY X49 H at_196 (by decide) (by decide) 208 rfl ?_
          refine gIconst X49 H at_208 (z := 0) rfl 209 rfl ?_
          refine gIstore X49 H at_209 (Ls' := #[vI p0, vI p1, vI p2, vI 1, vR w_ApiKey_FETCH, vI 4, vI 11, vI (p1 &&& (3 : Int32)), vI ((((11 : Int32) + (p2 &&& (7 : Int32))) - (4 : Int32)).toInt16.toInt32), vI 1, vI 1, vI 0]) rfl 211 rfl ?_
          refine gAload X49 H at_211 rfl rfl 213 rfl ?_
          refine gIload X49 H at_213 rfl 215 rfl ?_
          refine gVirt X49 H hZ hown (hw _ wd4) (hw _ wd5) (hw _ wd7) (hw _ wd6) (by decide) E_w_ApiKey_FETCH (hw _ wd8) (hw _ wd2) (rm70_1 B p2 hc67) e49 hml rfl pd0 rfl (W := 0) (argsL := [(.int ((((11 : Int32) + (p2 &&& (7 : Int32))) - (4 : Int32)).toInt16.toInt32))]) (rest := []) rfl rfl at_215 218 rfl ?_
          intro v71 T71 L71 hq71 X71
          obtain ⟨rfl, e71, rfl⟩ := hq71
          show Go _ _ _ _ (State.setTop _ (mkF _ 218 _ [(.int 0)]))
          refine gIload X71 H at_218 rfl 220 rfl ?_
          refine gCmpN X71 H at_220 (by decide) 223 rfl ?_
          refine gIconst X71 H at_223 (z := 1) rfl 224 rfl ?_
          refine gGoto X71 H at_224 (by decide) 228 rfl ?_
          exact gRetN X71 H hlk hret (t := .boolean) (by simp) at_228 e71 ⟨rfl, Fr.nil _⟩
        · refine gCmpY X49 H at_184 (flt hc68).2.2.2 (by decide) 191 rfl ?_
          refine gIconst X49 H at_191 (z := 0) rfl 192 rfl ?_
          refine gIstore X49 H at_192 (Ls' := #[vI p0, vI p1, vI p2, vI 1, vR w_ApiKey_FETCH, vI 4, vI 11, vI (p1 &&& (3 : Int32)), vI ((((11 : Int32) + (p2 &&& (7 : Int32))) - (4 : Int32)).toInt16.toInt32), vI 1, vI 0, .unset]) rfl 194 rfl ?_
          refine gIload X49 H at_194 rfl 196 rfl ?_
          refine gIfY X49 H at_196 (by decide) (by decide) 208 rfl ?_
          refine gIconst X49 H at_208 (z := 0) rfl 209 rfl ?_
          refine gIstore X49 H at_209 (Ls' := #[vI p0, vI p1, vI p2, vI 1, vR w_ApiKey_FETCH, vI 4, vI 11, vI (p1 &&& (3 : Int32)), vI ((((11 : Int32) + (p2 &&& (7 : Int32))) - (4 : Int32)).toInt16.toInt32), vI 1, vI 0, vI 0]) rfl 211 rfl ?_
          refine gAload X49 H at_211 rfl rfl 213 rfl ?_
          refine gIload X49 H at_213 rfl 215 rfl ?_
          refine gVirt X49 H hZ hown (hw _ wd4) (hw _ wd5) (hw _ wd7) (hw _ wd6) (by decide) E_w_ApiKey_FETCH (hw _ wd8) (hw _ wd2) (rm70_1 B p2 hc67) e49 hml rfl pd0 rfl (W := 0) (argsL := [(.int ((((11 : Int32) + (p2 &&& (7 : Int32))) - (4 : Int32)).toInt16.toInt32))]) (rest := []) rfl rfl at_215 218 rfl ?_
          intro v72 T72 L72 hq72 X72
          obtain ⟨rfl, e72, rfl⟩ := hq72
          show Go _ _ _ _ (State.setTop _ (mkF _ 218 _ [(.int 0)]))
          refine gIload X72 H at_218 rfl 220 rfl ?_
          refine gCmpN X72 H at_220 (by decide) 223 rfl ?_
          refine gIconst X72 H at_223 (z := 1) rfl 224 rfl ?_
          refine gGoto X72 H at_224 (by decide) 228 rfl ?_
          exact gRetN X72 H hlk hret (t := .boolean) (by simp) at_228 e72 ⟨rfl, Fr.nil _⟩
      · refine gCmpY X49 H at_170 (flt hc67).2.1 (by decide) 177 rfl ?_
        refine gIconst X49 H at_177 (z := 0) rfl 178 rfl ?_
        refine gIstore X49 H at_178 (Ls' := #[vI p0, vI p1, vI p2, vI 1, vR w_ApiKey_FETCH, vI 4, vI 11, vI (p1 &&& (3 : Int32)), vI ((((11 : Int32) + (p2 &&& (7 : Int32))) - (4 : Int32)).toInt16.toInt32), vI 0, .unset, .unset]) rfl 180 rfl ?_
        refine gIload X49 H at_180 rfl 182 rfl ?_
        refine gIload X49 H at_182 rfl 184 rfl ?_
        by_cases hc73 : (11 : Int32) < ((((11 : Int32) + (p2 &&& (7 : Int32))) - (4 : Int32)).toInt16.toInt32)
        · refine gCmpN X49 H at_184 (tlt hc73).2.2.2 187 rfl ?_
          refine gIconst X49 H at_187 (z := 1) rfl 188 rfl ?_
          refine gGoto X49 H at_188 (by decide) 192 rfl ?_
          refine gIstore X49 H at_192 (Ls' := #[vI p0, vI p1, vI p2, vI 1, vR w_ApiKey_FETCH, vI 4, vI 11, vI (p1 &&& (3 : Int32)), vI ((((11 : Int32) + (p2 &&& (7 : Int32))) - (4 : Int32)).toInt16.toInt32), vI 0, vI 1, .unset]) rfl 194 rfl ?_
          refine gIload X49 H at_194 rfl 196 rfl ?_
          refine gIfN X49 H at_196 (by decide) 199 rfl ?_
          refine gIload X49 H at_199 rfl 201 rfl ?_
          refine gIfY X49 H at_201 (by decide) (by decide) 208 rfl ?_
          refine gIconst X49 H at_208 (z := 0) rfl 209 rfl ?_
          refine gIstore X49 H at_209 (Ls' := #[vI p0, vI p1, vI p2, vI 1, vR w_ApiKey_FETCH, vI 4, vI 11, vI (p1 &&& (3 : Int32)), vI ((((11 : Int32) + (p2 &&& (7 : Int32))) - (4 : Int32)).toInt16.toInt32), vI 0, vI 1, vI 0]) rfl 211 rfl ?_
          refine gAload X49 H at_211 rfl rfl 213 rfl ?_
          refine gIload X49 H at_213 rfl 215 rfl ?_
          refine gVirt X49 H hZ hown (hw _ wd4) (hw _ wd5) (hw _ wd7) (hw _ wd6) (by decide) E_w_ApiKey_FETCH (hw _ wd8) (hw _ wd2) (rm76_1 B p2 hc67 hc73) e49 hml rfl pd0 rfl (W := 0) (argsL := [(.int ((((11 : Int32) + (p2 &&& (7 : Int32))) - (4 : Int32)).toInt16.toInt32))]) (rest := []) rfl rfl at_215 218 rfl ?_
          intro v77 T77 L77 hq77 X77
          obtain ⟨rfl, e77, rfl⟩ := hq77
          show Go _ _ _ _ (State.setTop _ (mkF _ 218 _ [(.int 0)]))
          refine gIload X77 H at_218 rfl 220 rfl ?_
          refine gCmpN X77 H at_220 (by decide) 223 rfl ?_
          refine gIconst X77 H at_223 (z := 1) rfl 224 rfl ?_
          refine gGoto X77 H at_224 (by decide) 228 rfl ?_
          exact gRetN X77 H hlk hret (t := .boolean) (by simp) at_228 e77 ⟨rfl, Fr.nil _⟩
        · refine gCmpY X49 H at_184 (flt hc73).2.2.2 (by decide) 191 rfl ?_
          refine gIconst X49 H at_191 (z := 0) rfl 192 rfl ?_
          refine gIstore X49 H at_192 (Ls' := #[vI p0, vI p1, vI p2, vI 1, vR w_ApiKey_FETCH, vI 4, vI 11, vI (p1 &&& (3 : Int32)), vI ((((11 : Int32) + (p2 &&& (7 : Int32))) - (4 : Int32)).toInt16.toInt32), vI 0, vI 0, .unset]) rfl 194 rfl ?_
          refine gIload X49 H at_194 rfl 196 rfl ?_
          refine gIfN X49 H at_196 (by decide) 199 rfl ?_
          refine gIload X49 H at_199 rfl 201 rfl ?_
          refine gIfN X49 H at_201 (by decide) 204 rfl ?_
          refine gIconst X49 H at_204 (z := 1) rfl 205 rfl ?_
          refine gGoto X49 H at_205 (by decide) 209 rfl ?_
          refine gIstore X49 H at_209 (Ls' := #[vI p0, vI p1, vI p2, vI 1, vR w_ApiKey_FETCH, vI 4, vI 11, vI (p1 &&& (3 : Int32)), vI ((((11 : Int32) + (p2 &&& (7 : Int32))) - (4 : Int32)).toInt16.toInt32), vI 0, vI 0, vI 1]) rfl 211 rfl ?_
          refine gAload X49 H at_211 rfl rfl 213 rfl ?_
          refine gIload X49 H at_213 rfl 215 rfl ?_
          refine gVirt X49 H hZ hown (hw _ wd4) (hw _ wd5) (hw _ wd7) (hw _ wd6) (by decide) E_w_ApiKey_FETCH (hw _ wd8) (hw _ wd2) (rm80_1 B p2 hc67 hc73) e49 hml rfl pd0 rfl (W := 0) (argsL := [(.int ((((11 : Int32) + (p2 &&& (7 : Int32))) - (4 : Int32)).toInt16.toInt32))]) (rest := []) rfl rfl at_215 218 rfl ?_
          intro v81 T81 L81 hq81 X81
          obtain ⟨rfl, e81, rfl⟩ := hq81
          show Go _ _ _ _ (State.setTop _ (mkF _ 218 _ [(.int 1)]))
          refine gIload X81 H at_218 rfl 220 rfl ?_
          refine gCmpN X81 H at_220 (by decide) 223 rfl ?_
          refine gIconst X81 H at_223 (z := 1) rfl 224 rfl ?_
          refine gGoto X81 H at_224 (by decide) 228 rfl ?_
          exact gRetN X81 H hlk hret (t := .boolean) (by simp) at_228 e81 ⟨rfl, Fr.nil _⟩
    · refine gCmpY X49 H at_144 (feq hc66).2 (by decide) 162 rfl ?_
      refine gIloadN X49 H at_162 rfl 163 rfl ?_
      refine g_i2s X49 H at_163 (z := (p2.toInt16.toInt32)) rfl 164 rfl ?_
      refine gIstore X49 H at_164 (Ls' := #[vI p0, vI p1, vI p2, vI 1, vR w_ApiKey_FETCH, vI 4, vI 11, vI (p1 &&& (3 : Int32)), vI (p2.toInt16.toInt32), .unset, .unset, .unset]) rfl 166 rfl ?_
      refine gIload X49 H at_166 rfl 168 rfl ?_
      refine gIload X49 H at_168 rfl 170 rfl ?_
      by_cases hc82 : (p2.toInt16.toInt32) < (4 : Int32)
      · refine gCmpN X49 H at_170 (tlt hc82).2.1 173 rfl ?_
        refine gIconst X49 H at_173 (z := 1) rfl 174 rfl ?_
        refine gGoto X49 H at_174 (by decide) 178 rfl ?_
        refine gIstore X49 H at_178 (Ls' := #[vI p0, vI p1, vI p2, vI 1, vR w_ApiKey_FETCH, vI 4, vI 11, vI (p1 &&& (3 : Int32)), vI (p2.toInt16.toInt32), vI 1, .unset, .unset]) rfl 180 rfl ?_
        refine gIload X49 H at_180 rfl 182 rfl ?_
        refine gIload X49 H at_182 rfl 184 rfl ?_
        by_cases hc83 : (11 : Int32) < (p2.toInt16.toInt32)
        · refine gCmpN X49 H at_184 (tlt hc83).2.2.2 187 rfl ?_
          refine gIconst X49 H at_187 (z := 1) rfl 188 rfl ?_
          refine gGoto X49 H at_188 (by decide) 192 rfl ?_
          refine gIstore X49 H at_192 (Ls' := #[vI p0, vI p1, vI p2, vI 1, vR w_ApiKey_FETCH, vI 4, vI 11, vI (p1 &&& (3 : Int32)), vI (p2.toInt16.toInt32), vI 1, vI 1, .unset]) rfl 194 rfl ?_
          refine gIload X49 H at_194 rfl 196 rfl ?_
          refine gIfY X49 H at_196 (by decide) (by decide) 208 rfl ?_
          refine gIconst X49 H at_208 (z := 0) rfl 209 rfl ?_
          refine gIstore X49 H at_209 (Ls' := #[vI p0, vI p1, vI p2, vI 1, vR w_ApiKey_FETCH, vI 4, vI 11, vI (p1 &&& (3 : Int32)), vI (p2.toInt16.toInt32), vI 1, vI 1, vI 0]) rfl 211 rfl ?_
          refine gAload X49 H at_211 rfl rfl 213 rfl ?_
          refine gIload X49 H at_213 rfl 215 rfl ?_
          refine gVirt X49 H hZ hown (hw _ wd4) (hw _ wd5) (hw _ wd7) (hw _ wd6) (by decide) E_w_ApiKey_FETCH (hw _ wd8) (hw _ wd2) (rm85_1 B p2 hc82) e49 hml rfl pd0 rfl (W := 0) (argsL := [(.int (p2.toInt16.toInt32))]) (rest := []) rfl rfl at_215 218 rfl ?_
          intro v86 T86 L86 hq86 X86
          obtain ⟨rfl, e86, rfl⟩ := hq86
          show Go _ _ _ _ (State.setTop _ (mkF _ 218 _ [(.int 0)]))
          refine gIload X86 H at_218 rfl 220 rfl ?_
          refine gCmpN X86 H at_220 (by decide) 223 rfl ?_
          refine gIconst X86 H at_223 (z := 1) rfl 224 rfl ?_
          refine gGoto X86 H at_224 (by decide) 228 rfl ?_
          exact gRetN X86 H hlk hret (t := .boolean) (by simp) at_228 e86 ⟨rfl, Fr.nil _⟩
        · refine gCmpY X49 H at_184 (flt hc83).2.2.2 (by decide) 191 rfl ?_
          refine gIconst X49 H at_191 (z := 0) rfl 192 rfl ?_
          refine gIstore X49 H at_192 (Ls' := #[vI p0, vI p1, vI p2, vI 1, vR w_ApiKey_FETCH, vI 4, vI 11, vI (p1 &&& (3 : Int32)), vI (p2.toInt16.toInt32), vI 1, vI 0, .unset]) rfl 194 rfl ?_
          refine gIload X49 H at_194 rfl 196 rfl ?_
          refine gIfY X49 H at_196 (by decide) (by decide) 208 rfl ?_
          refine gIconst X49 H at_208 (z := 0) rfl 209 rfl ?_
          refine gIstore X49 H at_209 (Ls' := #[vI p0, vI p1, vI p2, vI 1, vR w_ApiKey_FETCH, vI 4, vI 11, vI (p1 &&& (3 : Int32)), vI (p2.toInt16.toInt32), vI 1, vI 0, vI 0]) rfl 211 rfl ?_
          refine gAload X49 H at_211 rfl rfl 213 rfl ?_
          refine gIload X49 H at_213 rfl 215 rfl ?_
          refine gVirt X49 H hZ hown (hw _ wd4) (hw _ wd5) (hw _ wd7) (hw _ wd6) (by decide) E_w_ApiKey_FETCH (hw _ wd8) (hw _ wd2) (rm85_1 B p2 hc82) e49 hml rfl pd0 rfl (W := 0) (argsL := [(.int (p2.toInt16.toInt32))]) (rest := []) rfl rfl at_215 218 rfl ?_
          intro v87 T87 L87 hq87 X87
          obtain ⟨rfl, e87, rfl⟩ := hq87
          show Go _ _ _ _ (State.setTop _ (mkF _ 218 _ [(.int 0)]))
          refine gIload X87 H at_218 rfl 220 rfl ?_
          refine gCmpN X87 H at_220 (by decide) 223 rfl ?_
          refine gIconst X87 H at_223 (z := 1) rfl 224 rfl ?_
          refine gGoto X87 H at_224 (by decide) 228 rfl ?_
          exact gRetN X87 H hlk hret (t := .boolean) (by simp) at_228 e87 ⟨rfl, Fr.nil _⟩
      · refine gCmpY X49 H at_170 (flt hc82).2.1 (by decide) 177 rfl ?_
        refine gIconst X49 H at_177 (z := 0) rfl 178 rfl ?_
        refine gIstore X49 H at_178 (Ls' := #[vI p0, vI p1, vI p2, vI 1, vR w_ApiKey_FETCH, vI 4, vI 11, vI (p1 &&& (3 : Int32)), vI (p2.toInt16.toInt32), vI 0, .unset, .unset]) rfl 180 rfl ?_
        refine gIload X49 H at_180 rfl 182 rfl ?_
        refine gIload X49 H at_182 rfl 184 rfl ?_
        by_cases hc88 : (11 : Int32) < (p2.toInt16.toInt32)
        · refine gCmpN X49 H at_184 (tlt hc88).2.2.2 187 rfl ?_
          refine gIconst X49 H at_187 (z := 1) rfl 188 rfl ?_
          refine gGoto X49 H at_188 (by decide) 192 rfl ?_
          refine gIstore X49 H at_192 (Ls' := #[vI p0, vI p1, vI p2, vI 1, vR w_ApiKey_FETCH, vI 4, vI 11, vI (p1 &&& (3 : Int32)), vI (p2.toInt16.toInt32), vI 0, vI 1, .unset]) rfl 194 rfl ?_
          refine gIload X49 H at_194 rfl 196 rfl ?_
          refine gIfN X49 H at_196 (by decide) 199 rfl ?_
          refine gIload X49 H at_199 rfl 201 rfl ?_
          refine gIfY X49 H at_201 (by decide) (by decide) 208 rfl ?_
          refine gIconst X49 H at_208 (z := 0) rfl 209 rfl ?_
          refine gIstore X49 H at_209 (Ls' := #[vI p0, vI p1, vI p2, vI 1, vR w_ApiKey_FETCH, vI 4, vI 11, vI (p1 &&& (3 : Int32)), vI (p2.toInt16.toInt32), vI 0, vI 1, vI 0]) rfl 211 rfl ?_
          refine gAload X49 H at_211 rfl rfl 213 rfl ?_
          refine gIload X49 H at_213 rfl 215 rfl ?_
          refine gVirt X49 H hZ hown (hw _ wd4) (hw _ wd5) (hw _ wd7) (hw _ wd6) (by decide) E_w_ApiKey_FETCH (hw _ wd8) (hw _ wd2) (rm91_1 B p2 hc82 hc88) e49 hml rfl pd0 rfl (W := 0) (argsL := [(.int (p2.toInt16.toInt32))]) (rest := []) rfl rfl at_215 218 rfl ?_
          intro v92 T92 L92 hq92 X92
          obtain ⟨rfl, e92, rfl⟩ := hq92
          show Go _ _ _ _ (State.setTop _ (mkF _ 218 _ [(.int 0)]))
          refine gIload X92 H at_218 rfl 220 rfl ?_
          refine gCmpN X92 H at_220 (by decide) 223 rfl ?_
          refine gIconst X92 H at_223 (z := 1) rfl 224 rfl ?_
          refine gGoto X92 H at_224 (by decide) 228 rfl ?_
          exact gRetN X92 H hlk hret (t := .boolean) (by simp) at_228 e92 ⟨rfl, Fr.nil _⟩
        · refine gCmpY X49 H at_184 (flt hc88).2.2.2 (by decide) 191 rfl ?_
          refine gIconst X49 H at_191 (z := 0) rfl 192 rfl ?_
          refine gIstore X49 H at_192 (Ls' := #[vI p0, vI p1, vI p2, vI 1, vR w_ApiKey_FETCH, vI 4, vI 11, vI (p1 &&& (3 : Int32)), vI (p2.toInt16.toInt32), vI 0, vI 0, .unset]) rfl 194 rfl ?_
          refine gIload X49 H at_194 rfl 196 rfl ?_
          refine gIfN X49 H at_196 (by decide) 199 rfl ?_
          refine gIload X49 H at_199 rfl 201 rfl ?_
          refine gIfN X49 H at_201 (by decide) 204 rfl ?_
          refine gIconst X49 H at_204 (z := 1) rfl 205 rfl ?_
          refine gGoto X49 H at_205 (by decide) 209 rfl ?_
          refine gIstore X49 H at_209 (Ls' := #[vI p0, vI p1, vI p2, vI 1, vR w_ApiKey_FETCH, vI 4, vI 11, vI (p1 &&& (3 : Int32)), vI (p2.toInt16.toInt32), vI 0, vI 0, vI 1]) rfl 211 rfl ?_
          refine gAload X49 H at_211 rfl rfl 213 rfl ?_
          refine gIload X49 H at_213 rfl 215 rfl ?_
          refine gVirt X49 H hZ hown (hw _ wd4) (hw _ wd5) (hw _ wd7) (hw _ wd6) (by decide) E_w_ApiKey_FETCH (hw _ wd8) (hw _ wd2) (rm95_1 B p2 hc82 hc88) e49 hml rfl pd0 rfl (W := 0) (argsL := [(.int (p2.toInt16.toInt32))]) (rest := []) rfl rfl at_215 218 rfl ?_
          intro v96 T96 L96 hq96 X96
          obtain ⟨rfl, e96, rfl⟩ := hq96
          show Go _ _ _ _ (State.setTop _ (mkF _ 218 _ [(.int 1)]))
          refine gIload X96 H at_218 rfl 220 rfl ?_
          refine gCmpN X96 H at_220 (by decide) 223 rfl ?_
          refine gIconst X96 H at_223 (z := 1) rfl 224 rfl ?_
          refine gGoto X96 H at_224 (by decide) 228 rfl ?_
          exact gRetN X96 H hlk hret (t := .boolean) (by simp) at_228 e96 ⟨rfl, Fr.nil _⟩
theorem rm102_1 (B : Bg Z a0 w_ApiKey_PRODUCE w_ApiKey_FETCH w_ApiKey_LIST_OFFSETS w_ApiKey_OFFSET_FOR_LEADER_EPOCH w_ApiKey_METADATA w_ApiKey_API_VERSIONS) (p2 : Int32) (hk1 : ((((1 : Int32) + (p2 &&& (7 : Int32))) - (3 : Int32)).toInt16.toInt32) < (1 : Int32)) :
    Con l Z (⟨"com/example/rolling_quorum/rollingquorum/protocol/ApiKey", "supports", "(S)Z"⟩ : MethodName) prog_29_method_8_code 2 (some .boolean) ({ frames := 0, cells := 0, slots := 0, locals := 0 } : Room) #[(.ref w_ApiKey_LIST_OFFSETS), (.int ((((1 : Int32) + (p2 &&& (7 : Int32))) - (3 : Int32)).toInt16.toInt32))] Z.heap (fun v h' L => v = some (.int 0) ∧ h' = Z.heap ∧ L = []) := by
  have hw := B.1
  obtain ⟨S_w_ApiKey_PRODUCE, E_w_ApiKey_PRODUCE, S_w_ApiKey_FETCH, E_w_ApiKey_FETCH, S_w_ApiKey_LIST_OFFSETS, E_w_ApiKey_LIST_OFFSETS, S_w_ApiKey_OFFSET_FOR_LEADER_EPOCH, E_w_ApiKey_OFFSET_FOR_LEADER_EPOCH, S_w_ApiKey_METADATA, E_w_ApiKey_METADATA, S_w_ApiKey_API_VERSIONS, E_w_ApiKey_API_VERSIONS, F_w_ApiKey_PRODUCE_minVersion, F_w_ApiKey_FETCH_minVersion, F_w_ApiKey_LIST_OFFSETS_minVersion, F_w_ApiKey_LIST_OFFSETS_maxVersion, F_w_ApiKey_OFFSET_FOR_LEADER_EPOCH_minVersion, F_w_ApiKey_OFFSET_FOR_LEADER_EPOCH_maxVersion, F_w_ApiKey_FETCH_maxVersion, F_w_ApiKey_METADATA_minVersion, F_w_ApiKey_API_VERSIONS_minVersion, F_w_ApiKey_API_VERSIONS_maxVersion, F_w_ApiKey_PRODUCE_maxVersion, F_w_ApiKey_METADATA_maxVersion⟩ := B.2
  refine Con.of (plainFor_of_name pn1) (Ls := #[vR w_ApiKey_LIST_OFFSETS, vI ((((1 : Int32) + (p2 &&& (7 : Int32))) - (3 : Int32)).toInt16.toInt32)]) (fun m => by first | rfl | (simp [entryFrame, mkF, argsToLocals, Value.category]; done)) ?_
  intro p e s m below meth c T0 X0 H hml hZ hown hnm hret hlk e0
  refine gIloadN X0 H d1_0 rfl 1 rfl ?_
  refine gAloadN X0 H d1_1 rfl rfl 2 rfl ?_
  refine gGetF X0 H hZ hown (hw _ wd9) Via.refl e0 F_w_ApiKey_LIST_OFFSETS_minVersion d1_2 5 rfl ?_
  intro T101 X101 e101
  refine gCmpY X101 H d1_5 (tlt hk1).1 (by decide) 20 rfl ?_
  refine gIconst X101 H d1_20 (z := 0) rfl 21 rfl ?_
  exact gRetN X101 H hlk hret (t := .boolean) (by simp) d1_21 e101 ⟨rfl, rfl, rfl⟩
theorem rm108_1 (B : Bg Z a0 w_ApiKey_PRODUCE w_ApiKey_FETCH w_ApiKey_LIST_OFFSETS w_ApiKey_OFFSET_FOR_LEADER_EPOCH w_ApiKey_METADATA w_ApiKey_API_VERSIONS) (p2 : Int32) (hk1 : ¬ (((((1 : Int32) + (p2 &&& (7 : Int32))) - (3 : Int32)).toInt16.toInt32) < (1 : Int32))) (hk2 : (2 : Int32) < ((((1 : Int32) + (p2 &&& (7 : Int32))) - (3 : Int32)).toInt16.toInt32)) :
    Con l Z (⟨"com/example/rolling_quorum/rollingquorum/protocol/ApiKey", "supports", "(S)Z"⟩ : MethodName) prog_29_method_8_code 2 (some .boolean) ({ frames := 0, cells := 0, slots := 0, locals := 0 } : Room) #[(.ref w_ApiKey_LIST_OFFSETS), (.int ((((1 : Int32) + (p2 &&& (7 : Int32))) - (3 : Int32)).toInt16.toInt32))] Z.heap (fun v h' L => v = some (.int 0) ∧ h' = Z.heap ∧ L = []) := by
  have hw := B.1
  obtain ⟨S_w_ApiKey_PRODUCE, E_w_ApiKey_PRODUCE, S_w_ApiKey_FETCH, E_w_ApiKey_FETCH, S_w_ApiKey_LIST_OFFSETS, E_w_ApiKey_LIST_OFFSETS, S_w_ApiKey_OFFSET_FOR_LEADER_EPOCH, E_w_ApiKey_OFFSET_FOR_LEADER_EPOCH, S_w_ApiKey_METADATA, E_w_ApiKey_METADATA, S_w_ApiKey_API_VERSIONS, E_w_ApiKey_API_VERSIONS, F_w_ApiKey_PRODUCE_minVersion, F_w_ApiKey_FETCH_minVersion, F_w_ApiKey_LIST_OFFSETS_minVersion, F_w_ApiKey_LIST_OFFSETS_maxVersion, F_w_ApiKey_OFFSET_FOR_LEADER_EPOCH_minVersion, F_w_ApiKey_OFFSET_FOR_LEADER_EPOCH_maxVersion, F_w_ApiKey_FETCH_maxVersion, F_w_ApiKey_METADATA_minVersion, F_w_ApiKey_API_VERSIONS_minVersion, F_w_ApiKey_API_VERSIONS_maxVersion, F_w_ApiKey_PRODUCE_maxVersion, F_w_ApiKey_METADATA_maxVersion⟩ := B.2
  refine Con.of (plainFor_of_name pn1) (Ls := #[vR w_ApiKey_LIST_OFFSETS, vI ((((1 : Int32) + (p2 &&& (7 : Int32))) - (3 : Int32)).toInt16.toInt32)]) (fun m => by first | rfl | (simp [entryFrame, mkF, argsToLocals, Value.category]; done)) ?_
  intro p e s m below meth c T0 X0 H hml hZ hown hnm hret hlk e0
  refine gIloadN X0 H d1_0 rfl 1 rfl ?_
  refine gAloadN X0 H d1_1 rfl rfl 2 rfl ?_
  refine gGetF X0 H hZ hown (hw _ wd9) Via.refl e0 F_w_ApiKey_LIST_OFFSETS_minVersion d1_2 5 rfl ?_
  intro T106 X106 e106
  refine gCmpN X106 H d1_5 (flt hk1).1 8 rfl ?_
  refine gIloadN X106 H d1_8 rfl 9 rfl ?_
  refine gAloadN X106 H d1_9 rfl rfl 10 rfl ?_
  refine gGetF X106 H hZ hown (hw _ wd15) Via.refl e106 F_w_ApiKey_LIST_OFFSETS_maxVersion d1_10 13 rfl ?_
  intro T107 X107 e107
  refine gCmpY X107 H d1_13 (tlt hk2).2.2.1 (by decide) 20 rfl ?_
  refine gIconst X107 H d1_20 (z := 0) rfl 21 rfl ?_
  exact gRetN X107 H hlk hret (t := .boolean) (by simp) d1_21 e107 ⟨rfl, rfl, rfl⟩
theorem rm112_1 (B : Bg Z a0 w_ApiKey_PRODUCE w_ApiKey_FETCH w_ApiKey_LIST_OFFSETS w_ApiKey_OFFSET_FOR_LEADER_EPOCH w_ApiKey_METADATA w_ApiKey_API_VERSIONS) (p2 : Int32) (hk1 : ¬ (((((1 : Int32) + (p2 &&& (7 : Int32))) - (3 : Int32)).toInt16.toInt32) < (1 : Int32))) (hk2 : ¬ ((2 : Int32) < ((((1 : Int32) + (p2 &&& (7 : Int32))) - (3 : Int32)).toInt16.toInt32))) :
    Con l Z (⟨"com/example/rolling_quorum/rollingquorum/protocol/ApiKey", "supports", "(S)Z"⟩ : MethodName) prog_29_method_8_code 2 (some .boolean) ({ frames := 0, cells := 0, slots := 0, locals := 0 } : Room) #[(.ref w_ApiKey_LIST_OFFSETS), (.int ((((1 : Int32) + (p2 &&& (7 : Int32))) - (3 : Int32)).toInt16.toInt32))] Z.heap (fun v h' L => v = some (.int 1) ∧ h' = Z.heap ∧ L = []) := by
  have hw := B.1
  obtain ⟨S_w_ApiKey_PRODUCE, E_w_ApiKey_PRODUCE, S_w_ApiKey_FETCH, E_w_ApiKey_FETCH, S_w_ApiKey_LIST_OFFSETS, E_w_ApiKey_LIST_OFFSETS, S_w_ApiKey_OFFSET_FOR_LEADER_EPOCH, E_w_ApiKey_OFFSET_FOR_LEADER_EPOCH, S_w_ApiKey_METADATA, E_w_ApiKey_METADATA, S_w_ApiKey_API_VERSIONS, E_w_ApiKey_API_VERSIONS, F_w_ApiKey_PRODUCE_minVersion, F_w_ApiKey_FETCH_minVersion, F_w_ApiKey_LIST_OFFSETS_minVersion, F_w_ApiKey_LIST_OFFSETS_maxVersion, F_w_ApiKey_OFFSET_FOR_LEADER_EPOCH_minVersion, F_w_ApiKey_OFFSET_FOR_LEADER_EPOCH_maxVersion, F_w_ApiKey_FETCH_maxVersion, F_w_ApiKey_METADATA_minVersion, F_w_ApiKey_API_VERSIONS_minVersion, F_w_ApiKey_API_VERSIONS_maxVersion, F_w_ApiKey_PRODUCE_maxVersion, F_w_ApiKey_METADATA_maxVersion⟩ := B.2
  refine Con.of (plainFor_of_name pn1) (Ls := #[vR w_ApiKey_LIST_OFFSETS, vI ((((1 : Int32) + (p2 &&& (7 : Int32))) - (3 : Int32)).toInt16.toInt32)]) (fun m => by first | rfl | (simp [entryFrame, mkF, argsToLocals, Value.category]; done)) ?_
  intro p e s m below meth c T0 X0 H hml hZ hown hnm hret hlk e0
  refine gIloadN X0 H d1_0 rfl 1 rfl ?_
  refine gAloadN X0 H d1_1 rfl rfl 2 rfl ?_
  refine gGetF X0 H hZ hown (hw _ wd9) Via.refl e0 F_w_ApiKey_LIST_OFFSETS_minVersion d1_2 5 rfl ?_
  intro T110 X110 e110
  refine gCmpN X110 H d1_5 (flt hk1).1 8 rfl ?_
  refine gIloadN X110 H d1_8 rfl 9 rfl ?_
  refine gAloadN X110 H d1_9 rfl rfl 10 rfl ?_
  refine gGetF X110 H hZ hown (hw _ wd15) Via.refl e110 F_w_ApiKey_LIST_OFFSETS_maxVersion d1_10 13 rfl ?_
  intro T111 X111 e111
  refine gCmpN X111 H d1_13 (flt hk2).2.2.1 16 rfl ?_
  refine gIconst X111 H d1_16 (z := 1) rfl 17 rfl ?_
  refine gGoto X111 H d1_17 (by decide) 21 rfl ?_
  exact gRetN X111 H hlk hret (t := .boolean) (by simp) d1_21 e111 ⟨rfl, rfl, rfl⟩
theorem rm118_1 (B : Bg Z a0 w_ApiKey_PRODUCE w_ApiKey_FETCH w_ApiKey_LIST_OFFSETS w_ApiKey_OFFSET_FOR_LEADER_EPOCH w_ApiKey_METADATA w_ApiKey_API_VERSIONS) (p2 : Int32) (hk2 : ((((2 : Int32) + (p2 &&& (7 : Int32))) - (4 : Int32)).toInt16.toInt32) < (1 : Int32)) :
    Con l Z (⟨"com/example/rolling_quorum/rollingquorum/protocol/ApiKey", "supports", "(S)Z"⟩ : MethodName) prog_29_method_8_code 2 (some .boolean) ({ frames := 0, cells := 0, slots := 0, locals := 0 } : Room) #[(.ref w_ApiKey_LIST_OFFSETS), (.int ((((2 : Int32) + (p2 &&& (7 : Int32))) - (4 : Int32)).toInt16.toInt32))] Z.heap (fun v h' L => v = some (.int 0) ∧ h' = Z.heap ∧ L = []) := by
  have hw := B.1
  obtain ⟨S_w_ApiKey_PRODUCE, E_w_ApiKey_PRODUCE, S_w_ApiKey_FETCH, E_w_ApiKey_FETCH, S_w_ApiKey_LIST_OFFSETS, E_w_ApiKey_LIST_OFFSETS, S_w_ApiKey_OFFSET_FOR_LEADER_EPOCH, E_w_ApiKey_OFFSET_FOR_LEADER_EPOCH, S_w_ApiKey_METADATA, E_w_ApiKey_METADATA, S_w_ApiKey_API_VERSIONS, E_w_ApiKey_API_VERSIONS, F_w_ApiKey_PRODUCE_minVersion, F_w_ApiKey_FETCH_minVersion, F_w_ApiKey_LIST_OFFSETS_minVersion, F_w_ApiKey_LIST_OFFSETS_maxVersion, F_w_ApiKey_OFFSET_FOR_LEADER_EPOCH_minVersion, F_w_ApiKey_OFFSET_FOR_LEADER_EPOCH_maxVersion, F_w_ApiKey_FETCH_maxVersion, F_w_ApiKey_METADATA_minVersion, F_w_ApiKey_API_VERSIONS_minVersion, F_w_ApiKey_API_VERSIONS_maxVersion, F_w_ApiKey_PRODUCE_maxVersion, F_w_ApiKey_METADATA_maxVersion⟩ := B.2
  refine Con.of (plainFor_of_name pn1) (Ls := #[vR w_ApiKey_LIST_OFFSETS, vI ((((2 : Int32) + (p2 &&& (7 : Int32))) - (4 : Int32)).toInt16.toInt32)]) (fun m => by first | rfl | (simp [entryFrame, mkF, argsToLocals, Value.category]; done)) ?_
  intro p e s m below meth c T0 X0 H hml hZ hown hnm hret hlk e0
  refine gIloadN X0 H d1_0 rfl 1 rfl ?_
  refine gAloadN X0 H d1_1 rfl rfl 2 rfl ?_
  refine gGetF X0 H hZ hown (hw _ wd9) Via.refl e0 F_w_ApiKey_LIST_OFFSETS_minVersion d1_2 5 rfl ?_
  intro T117 X117 e117
  refine gCmpY X117 H d1_5 (tlt hk2).1 (by decide) 20 rfl ?_
  refine gIconst X117 H d1_20 (z := 0) rfl 21 rfl ?_
  exact gRetN X117 H hlk hret (t := .boolean) (by simp) d1_21 e117 ⟨rfl, rfl, rfl⟩
theorem rm124_1 (B : Bg Z a0 w_ApiKey_PRODUCE w_ApiKey_FETCH w_ApiKey_LIST_OFFSETS w_ApiKey_OFFSET_FOR_LEADER_EPOCH w_ApiKey_METADATA w_ApiKey_API_VERSIONS) (p2 : Int32) (hk2 : ¬ (((((2 : Int32) + (p2 &&& (7 : Int32))) - (4 : Int32)).toInt16.toInt32) < (1 : Int32))) (hk3 : (2 : Int32) < ((((2 : Int32) + (p2 &&& (7 : Int32))) - (4 : Int32)).toInt16.toInt32)) :
    Con l Z (⟨"com/example/rolling_quorum/rollingquorum/protocol/ApiKey", "supports", "(S)Z"⟩ : MethodName) prog_29_method_8_code 2 (some .boolean) ({ frames := 0, cells := 0, slots := 0, locals := 0 } : Room) #[(.ref w_ApiKey_LIST_OFFSETS), (.int ((((2 : Int32) + (p2 &&& (7 : Int32))) - (4 : Int32)).toInt16.toInt32))] Z.heap (fun v h' L => v = some (.int 0) ∧ h' = Z.heap ∧ L = []) := by
  have hw := B.1
  obtain ⟨S_w_ApiKey_PRODUCE, E_w_ApiKey_PRODUCE, S_w_ApiKey_FETCH, E_w_ApiKey_FETCH, S_w_ApiKey_LIST_OFFSETS, E_w_ApiKey_LIST_OFFSETS, S_w_ApiKey_OFFSET_FOR_LEADER_EPOCH, E_w_ApiKey_OFFSET_FOR_LEADER_EPOCH, S_w_ApiKey_METADATA, E_w_ApiKey_METADATA, S_w_ApiKey_API_VERSIONS, E_w_ApiKey_API_VERSIONS, F_w_ApiKey_PRODUCE_minVersion, F_w_ApiKey_FETCH_minVersion, F_w_ApiKey_LIST_OFFSETS_minVersion, F_w_ApiKey_LIST_OFFSETS_maxVersion, F_w_ApiKey_OFFSET_FOR_LEADER_EPOCH_minVersion, F_w_ApiKey_OFFSET_FOR_LEADER_EPOCH_maxVersion, F_w_ApiKey_FETCH_maxVersion, F_w_ApiKey_METADATA_minVersion, F_w_ApiKey_API_VERSIONS_minVersion, F_w_ApiKey_API_VERSIONS_maxVersion, F_w_ApiKey_PRODUCE_maxVersion, F_w_ApiKey_METADATA_maxVersion⟩ := B.2
  refine Con.of (plainFor_of_name pn1) (Ls := #[vR w_ApiKey_LIST_OFFSETS, vI ((((2 : Int32) + (p2 &&& (7 : Int32))) - (4 : Int32)).toInt16.toInt32)]) (fun m => by first | rfl | (simp [entryFrame, mkF, argsToLocals, Value.category]; done)) ?_
  intro p e s m below meth c T0 X0 H hml hZ hown hnm hret hlk e0
  refine gIloadN X0 H d1_0 rfl 1 rfl ?_
  refine gAloadN X0 H d1_1 rfl rfl 2 rfl ?_
  refine gGetF X0 H hZ hown (hw _ wd9) Via.refl e0 F_w_ApiKey_LIST_OFFSETS_minVersion d1_2 5 rfl ?_
  intro T122 X122 e122
  refine gCmpN X122 H d1_5 (flt hk2).1 8 rfl ?_
  refine gIloadN X122 H d1_8 rfl 9 rfl ?_
  refine gAloadN X122 H d1_9 rfl rfl 10 rfl ?_
  refine gGetF X122 H hZ hown (hw _ wd15) Via.refl e122 F_w_ApiKey_LIST_OFFSETS_maxVersion d1_10 13 rfl ?_
  intro T123 X123 e123
  refine gCmpY X123 H d1_13 (tlt hk3).2.2.1 (by decide) 20 rfl ?_
  refine gIconst X123 H d1_20 (z := 0) rfl 21 rfl ?_
  exact gRetN X123 H hlk hret (t := .boolean) (by simp) d1_21 e123 ⟨rfl, rfl, rfl⟩
theorem rm128_1 (B : Bg Z a0 w_ApiKey_PRODUCE w_ApiKey_FETCH w_ApiKey_LIST_OFFSETS w_ApiKey_OFFSET_FOR_LEADER_EPOCH w_ApiKey_METADATA w_ApiKey_API_VERSIONS) (p2 : Int32) (hk2 : ¬ (((((2 : Int32) + (p2 &&& (7 : Int32))) - (4 : Int32)).toInt16.toInt32) < (1 : Int32))) (hk3 : ¬ ((2 : Int32) < ((((2 : Int32) + (p2 &&& (7 : Int32))) - (4 : Int32)).toInt16.toInt32))) :
    Con l Z (⟨"com/example/rolling_quorum/rollingquorum/protocol/ApiKey", "supports", "(S)Z"⟩ : MethodName) prog_29_method_8_code 2 (some .boolean) ({ frames := 0, cells := 0, slots := 0, locals := 0 } : Room) #[(.ref w_ApiKey_LIST_OFFSETS), (.int ((((2 : Int32) + (p2 &&& (7 : Int32))) - (4 : Int32)).toInt16.toInt32))] Z.heap (fun v h' L => v = some (.int 1) ∧ h' = Z.heap ∧ L = []) := by
  have hw := B.1
  obtain ⟨S_w_ApiKey_PRODUCE, E_w_ApiKey_PRODUCE, S_w_ApiKey_FETCH, E_w_ApiKey_FETCH, S_w_ApiKey_LIST_OFFSETS, E_w_ApiKey_LIST_OFFSETS, S_w_ApiKey_OFFSET_FOR_LEADER_EPOCH, E_w_ApiKey_OFFSET_FOR_LEADER_EPOCH, S_w_ApiKey_METADATA, E_w_ApiKey_METADATA, S_w_ApiKey_API_VERSIONS, E_w_ApiKey_API_VERSIONS, F_w_ApiKey_PRODUCE_minVersion, F_w_ApiKey_FETCH_minVersion, F_w_ApiKey_LIST_OFFSETS_minVersion, F_w_ApiKey_LIST_OFFSETS_maxVersion, F_w_ApiKey_OFFSET_FOR_LEADER_EPOCH_minVersion, F_w_ApiKey_OFFSET_FOR_LEADER_EPOCH_maxVersion, F_w_ApiKey_FETCH_maxVersion, F_w_ApiKey_METADATA_minVersion, F_w_ApiKey_API_VERSIONS_minVersion, F_w_ApiKey_API_VERSIONS_maxVersion, F_w_ApiKey_PRODUCE_maxVersion, F_w_ApiKey_METADATA_maxVersion⟩ := B.2
  refine Con.of (plainFor_of_name pn1) (Ls := #[vR w_ApiKey_LIST_OFFSETS, vI ((((2 : Int32) + (p2 &&& (7 : Int32))) - (4 : Int32)).toInt16.toInt32)]) (fun m => by first | rfl | (simp [entryFrame, mkF, argsToLocals, Value.category]; done)) ?_
  intro p e s m below meth c T0 X0 H hml hZ hown hnm hret hlk e0
  refine gIloadN X0 H d1_0 rfl 1 rfl ?_
  refine gAloadN X0 H d1_1 rfl rfl 2 rfl ?_
  refine gGetF X0 H hZ hown (hw _ wd9) Via.refl e0 F_w_ApiKey_LIST_OFFSETS_minVersion d1_2 5 rfl ?_
  intro T126 X126 e126
  refine gCmpN X126 H d1_5 (flt hk2).1 8 rfl ?_
  refine gIloadN X126 H d1_8 rfl 9 rfl ?_
  refine gAloadN X126 H d1_9 rfl rfl 10 rfl ?_
  refine gGetF X126 H hZ hown (hw _ wd15) Via.refl e126 F_w_ApiKey_LIST_OFFSETS_maxVersion d1_10 13 rfl ?_
  intro T127 X127 e127
  refine gCmpN X127 H d1_13 (flt hk3).2.2.1 16 rfl ?_
  refine gIconst X127 H d1_16 (z := 1) rfl 17 rfl ?_
  refine gGoto X127 H d1_17 (by decide) 21 rfl ?_
  exact gRetN X127 H hlk hret (t := .boolean) (by simp) d1_21 e127 ⟨rfl, rfl, rfl⟩
theorem rm133_1 (B : Bg Z a0 w_ApiKey_PRODUCE w_ApiKey_FETCH w_ApiKey_LIST_OFFSETS w_ApiKey_OFFSET_FOR_LEADER_EPOCH w_ApiKey_METADATA w_ApiKey_API_VERSIONS) (p2 : Int32) (hk2 : (p2.toInt16.toInt32) < (1 : Int32)) :
    Con l Z (⟨"com/example/rolling_quorum/rollingquorum/protocol/ApiKey", "supports", "(S)Z"⟩ : MethodName) prog_29_method_8_code 2 (some .boolean) ({ frames := 0, cells := 0, slots := 0, locals := 0 } : Room) #[(.ref w_ApiKey_LIST_OFFSETS), (.int (p2.toInt16.toInt32))] Z.heap (fun v h' L => v = some (.int 0) ∧ h' = Z.heap ∧ L = []) := by
  have hw := B.1
  obtain ⟨S_w_ApiKey_PRODUCE, E_w_ApiKey_PRODUCE, S_w_ApiKey_FETCH, E_w_ApiKey_FETCH, S_w_ApiKey_LIST_OFFSETS, E_w_ApiKey_LIST_OFFSETS, S_w_ApiKey_OFFSET_FOR_LEADER_EPOCH, E_w_ApiKey_OFFSET_FOR_LEADER_EPOCH, S_w_ApiKey_METADATA, E_w_ApiKey_METADATA, S_w_ApiKey_API_VERSIONS, E_w_ApiKey_API_VERSIONS, F_w_ApiKey_PRODUCE_minVersion, F_w_ApiKey_FETCH_minVersion, F_w_ApiKey_LIST_OFFSETS_minVersion, F_w_ApiKey_LIST_OFFSETS_maxVersion, F_w_ApiKey_OFFSET_FOR_LEADER_EPOCH_minVersion, F_w_ApiKey_OFFSET_FOR_LEADER_EPOCH_maxVersion, F_w_ApiKey_FETCH_maxVersion, F_w_ApiKey_METADATA_minVersion, F_w_ApiKey_API_VERSIONS_minVersion, F_w_ApiKey_API_VERSIONS_maxVersion, F_w_ApiKey_PRODUCE_maxVersion, F_w_ApiKey_METADATA_maxVersion⟩ := B.2
  refine Con.of (plainFor_of_name pn1) (Ls := #[vR w_ApiKey_LIST_OFFSETS, vI (p2.toInt16.toInt32)]) (fun m => by first | rfl | (simp [entryFrame, mkF, argsToLocals, Value.category]; done)) ?_
  intro p e s m below meth c T0 X0 H hml hZ hown hnm hret hlk e0
  refine gIloadN X0 H d1_0 rfl 1 rfl ?_
  refine gAloadN X0 H d1_1 rfl rfl 2 rfl ?_
  refine gGetF X0 H hZ hown (hw _ wd9) Via.refl e0 F_w_ApiKey_LIST_OFFSETS_minVersion d1_2 5 rfl ?_
  intro T132 X132 e132
  refine gCmpY X132 H d1_5 (tlt hk2).1 (by decide) 20 rfl ?_
  refine gIconst X132 H d1_20 (z := 0) rfl 21 rfl ?_
  exact gRetN X132 H hlk hret (t := .boolean) (by simp) d1_21 e132 ⟨rfl, rfl, rfl⟩
theorem rm139_1 (B : Bg Z a0 w_ApiKey_PRODUCE w_ApiKey_FETCH w_ApiKey_LIST_OFFSETS w_ApiKey_OFFSET_FOR_LEADER_EPOCH w_ApiKey_METADATA w_ApiKey_API_VERSIONS) (p2 : Int32) (hk2 : ¬ ((p2.toInt16.toInt32) < (1 : Int32))) (hk3 : (2 : Int32) < (p2.toInt16.toInt32)) :
    Con l Z (⟨"com/example/rolling_quorum/rollingquorum/protocol/ApiKey", "supports", "(S)Z"⟩ : MethodName) prog_29_method_8_code 2 (some .boolean) ({ frames := 0, cells := 0, slots := 0, locals := 0 } : Room) #[(.ref w_ApiKey_LIST_OFFSETS), (.int (p2.toInt16.toInt32))] Z.heap (fun v h' L => v = some (.int 0) ∧ h' = Z.heap ∧ L = []) := by
  have hw := B.1
  obtain ⟨S_w_ApiKey_PRODUCE, E_w_ApiKey_PRODUCE, S_w_ApiKey_FETCH, E_w_ApiKey_FETCH, S_w_ApiKey_LIST_OFFSETS, E_w_ApiKey_LIST_OFFSETS, S_w_ApiKey_OFFSET_FOR_LEADER_EPOCH, E_w_ApiKey_OFFSET_FOR_LEADER_EPOCH, S_w_ApiKey_METADATA, E_w_ApiKey_METADATA, S_w_ApiKey_API_VERSIONS, E_w_ApiKey_API_VERSIONS, F_w_ApiKey_PRODUCE_minVersion, F_w_ApiKey_FETCH_minVersion, F_w_ApiKey_LIST_OFFSETS_minVersion, F_w_ApiKey_LIST_OFFSETS_maxVersion, F_w_ApiKey_OFFSET_FOR_LEADER_EPOCH_minVersion, F_w_ApiKey_OFFSET_FOR_LEADER_EPOCH_maxVersion, F_w_ApiKey_FETCH_maxVersion, F_w_ApiKey_METADATA_minVersion, F_w_ApiKey_API_VERSIONS_minVersion, F_w_ApiKey_API_VERSIONS_maxVersion, F_w_ApiKey_PRODUCE_maxVersion, F_w_ApiKey_METADATA_maxVersion⟩ := B.2
  refine Con.of (plainFor_of_name pn1) (Ls := #[vR w_ApiKey_LIST_OFFSETS, vI (p2.toInt16.toInt32)]) (fun m => by first | rfl | (simp [entryFrame, mkF, argsToLocals, Value.category]; done)) ?_
  intro p e s m below meth c T0 X0 H hml hZ hown hnm hret hlk e0
  refine gIloadN X0 H d1_0 rfl 1 rfl ?_
  refine gAloadN X0 H d1_1 rfl rfl 2 rfl ?_
  refine gGetF X0 H hZ hown (hw _ wd9) Via.refl e0 F_w_ApiKey_LIST_OFFSETS_minVersion d1_2 5 rfl ?_
  intro T137 X137 e137
  refine gCmpN X137 H d1_5 (flt hk2).1 8 rfl ?_
  refine gIloadN X137 H d1_8 rfl 9 rfl ?_
  refine gAloadN X137 H d1_9 rfl rfl 10 rfl ?_
  refine gGetF X137 H hZ hown (hw _ wd15) Via.refl e137 F_w_ApiKey_LIST_OFFSETS_maxVersion d1_10 13 rfl ?_
  intro T138 X138 e138
  refine gCmpY X138 H d1_13 (tlt hk3).2.2.1 (by decide) 20 rfl ?_
  refine gIconst X138 H d1_20 (z := 0) rfl 21 rfl ?_
  exact gRetN X138 H hlk hret (t := .boolean) (by simp) d1_21 e138 ⟨rfl, rfl, rfl⟩
theorem rm143_1 (B : Bg Z a0 w_ApiKey_PRODUCE w_ApiKey_FETCH w_ApiKey_LIST_OFFSETS w_ApiKey_OFFSET_FOR_LEADER_EPOCH w_ApiKey_METADATA w_ApiKey_API_VERSIONS) (p2 : Int32) (hk2 : ¬ ((p2.toInt16.toInt32) < (1 : Int32))) (hk3 : ¬ ((2 : Int32) < (p2.toInt16.toInt32))) :
    Con l Z (⟨"com/example/rolling_quorum/rollingquorum/protocol/ApiKey", "supports", "(S)Z"⟩ : MethodName) prog_29_method_8_code 2 (some .boolean) ({ frames := 0, cells := 0, slots := 0, locals := 0 } : Room) #[(.ref w_ApiKey_LIST_OFFSETS), (.int (p2.toInt16.toInt32))] Z.heap (fun v h' L => v = some (.int 1) ∧ h' = Z.heap ∧ L = []) := by
  have hw := B.1
  obtain ⟨S_w_ApiKey_PRODUCE, E_w_ApiKey_PRODUCE, S_w_ApiKey_FETCH, E_w_ApiKey_FETCH, S_w_ApiKey_LIST_OFFSETS, E_w_ApiKey_LIST_OFFSETS, S_w_ApiKey_OFFSET_FOR_LEADER_EPOCH, E_w_ApiKey_OFFSET_FOR_LEADER_EPOCH, S_w_ApiKey_METADATA, E_w_ApiKey_METADATA, S_w_ApiKey_API_VERSIONS, E_w_ApiKey_API_VERSIONS, F_w_ApiKey_PRODUCE_minVersion, F_w_ApiKey_FETCH_minVersion, F_w_ApiKey_LIST_OFFSETS_minVersion, F_w_ApiKey_LIST_OFFSETS_maxVersion, F_w_ApiKey_OFFSET_FOR_LEADER_EPOCH_minVersion, F_w_ApiKey_OFFSET_FOR_LEADER_EPOCH_maxVersion, F_w_ApiKey_FETCH_maxVersion, F_w_ApiKey_METADATA_minVersion, F_w_ApiKey_API_VERSIONS_minVersion, F_w_ApiKey_API_VERSIONS_maxVersion, F_w_ApiKey_PRODUCE_maxVersion, F_w_ApiKey_METADATA_maxVersion⟩ := B.2
  refine Con.of (plainFor_of_name pn1) (Ls := #[vR w_ApiKey_LIST_OFFSETS, vI (p2.toInt16.toInt32)]) (fun m => by first | rfl | (simp [entryFrame, mkF, argsToLocals, Value.category]; done)) ?_
  intro p e s m below meth c T0 X0 H hml hZ hown hnm hret hlk e0
  refine gIloadN X0 H d1_0 rfl 1 rfl ?_
  refine gAloadN X0 H d1_1 rfl rfl 2 rfl ?_
  refine gGetF X0 H hZ hown (hw _ wd9) Via.refl e0 F_w_ApiKey_LIST_OFFSETS_minVersion d1_2 5 rfl ?_
  intro T141 X141 e141
  refine gCmpN X141 H d1_5 (flt hk2).1 8 rfl ?_
  refine gIloadN X141 H d1_8 rfl 9 rfl ?_
  refine gAloadN X141 H d1_9 rfl rfl 10 rfl ?_
  refine gGetF X141 H hZ hown (hw _ wd15) Via.refl e141 F_w_ApiKey_LIST_OFFSETS_maxVersion d1_10 13 rfl ?_
  intro T142 X142 e142
  refine gCmpN X142 H d1_13 (flt hk3).2.2.1 16 rfl ?_
  refine gIconst X142 H d1_16 (z := 1) rfl 17 rfl ?_
  refine gGoto X142 H d1_17 (by decide) 21 rfl ?_
  exact gRetN X142 H hlk hret (t := .boolean) (by simp) d1_21 e142 ⟨rfl, rfl, rfl⟩
theorem lawAll_2 (B : Bg Z a0 w_ApiKey_PRODUCE w_ApiKey_FETCH w_ApiKey_LIST_OFFSETS w_ApiKey_OFFSET_FOR_LEADER_EPOCH w_ApiKey_METADATA w_ApiKey_API_VERSIONS) (p0 : Int32) (p1 : Int32) (p2 : Int32) (ha0 : ((p0 &&& (2147483647 : Int32)) % (6 : Int32)) = (2 : Int32)) :
    Con l Z x code maxLocals ret room_1 #[(.int p0), (.int p1), (.int p2)] Z.heap (fun v h' L => v = some (.int 1) ∧ Fr Z.heap.size L) := by
  have hw := B.1
  obtain ⟨S_w_ApiKey_PRODUCE, E_w_ApiKey_PRODUCE, S_w_ApiKey_FETCH, E_w_ApiKey_FETCH, S_w_ApiKey_LIST_OFFSETS, E_w_ApiKey_LIST_OFFSETS, S_w_ApiKey_OFFSET_FOR_LEADER_EPOCH, E_w_ApiKey_OFFSET_FOR_LEADER_EPOCH, S_w_ApiKey_METADATA, E_w_ApiKey_METADATA, S_w_ApiKey_API_VERSIONS, E_w_ApiKey_API_VERSIONS, F_w_ApiKey_PRODUCE_minVersion, F_w_ApiKey_FETCH_minVersion, F_w_ApiKey_LIST_OFFSETS_minVersion, F_w_ApiKey_LIST_OFFSETS_maxVersion, F_w_ApiKey_OFFSET_FOR_LEADER_EPOCH_minVersion, F_w_ApiKey_OFFSET_FOR_LEADER_EPOCH_maxVersion, F_w_ApiKey_FETCH_maxVersion, F_w_ApiKey_METADATA_minVersion, F_w_ApiKey_API_VERSIONS_minVersion, F_w_ApiKey_API_VERSIONS_maxVersion, F_w_ApiKey_PRODUCE_maxVersion, F_w_ApiKey_METADATA_maxVersion⟩ := B.2
  refine Con.of (plainFor_of_name pn0) (Ls := #[vI p0, vI p1, vI p2, .unset, .unset, .unset, .unset, .unset, .unset, .unset, .unset, .unset]) (fun m => by first | rfl | (simp [entryFrame, mkF, argsToLocals, Value.category, maxLocals]; done)) ?_
  intro p e s m below meth c T0 X0 H hml hZ hown hnm hret hlk e0
  refine gIloadN X0 H at_0 rfl 1 rfl ?_
  refine gLdc X0 H hZ hown (hw _ wd0) at_1 3 rfl ?_
  refine g_iand X0 H at_3 (z := (p0 &&& (2147483647 : Int32))) rfl 4 rfl ?_
  refine gBipush X0 H at_4 (z := 6) rfl 6 rfl ?_
  refine g_irem X0 H at_6 (by decide) (z := 2) ha0 7 rfl ?_
  refine gIstoreN X0 H at_7 (Ls' := #[vI p0, vI p1, vI p2, vI 2, .unset, .unset, .unset, .unset, .unset, .unset, .unset, .unset]) rfl 8 rfl ?_
  refine gIloadN X0 H at_8 rfl 9 rfl ?_
  refine gIfY X0 H at_9 (by decide) (by decide) 27 rfl ?_
  refine gIloadN X0 H at_27 rfl 28 rfl ?_
  refine gIconst X0 H at_28 (z := 1) rfl 29 rfl ?_
  refine gCmpY X0 H at_29 (by decide) (by decide) 47 rfl ?_
  refine gIloadN X0 H at_47 rfl 48 rfl ?_
  refine gIconst X0 H at_48 (z := 2) rfl 49 rfl ?_
  refine gCmpN X0 H at_49 (by decide) 52 rfl ?_
  refine gGetS X0 H hZ hown (hw _ wd13) e0 S_w_ApiKey_LIST_OFFSETS at_52 55 rfl ?_
  intro T97 X97 e97
  refine gAstore X97 H at_55 rfl (Ls' := #[vI p0, vI p1, vI p2, vI 2, vR w_ApiKey_LIST_OFFSETS, .unset, .unset, .unset, .unset, .unset, .unset, .unset]) rfl 57 rfl ?_
  refine gIconst X97 H at_57 (z := 1) rfl 58 rfl ?_
  refine gIstore X97 H at_58 (Ls' := #[vI p0, vI p1, vI p2, vI 2, vR w_ApiKey_LIST_OFFSETS, vI 1, .unset, .unset, .unset, .unset, .unset, .unset]) rfl 60 rfl ?_
  refine gIconst X97 H at_60 (z := 2) rfl 61 rfl ?_
  refine gIstore X97 H at_61 (Ls' := #[vI p0, vI p1, vI p2, vI 2, vR w_ApiKey_LIST_OFFSETS, vI 1, vI 2, .unset, .unset, .unset, .unset, .unset]) rfl 63 rfl ?_
  refine gGoto X97 H at_63 (by decide) 115 rfl ?_
  refine gIloadN X97 H at_115 rfl 116 rfl ?_
  refine gIconst X97 H at_116 (z := 3) rfl 117 rfl ?_
  refine g_iand X97 H at_117 (z := (p1 &&& (3 : Int32))) rfl 118 rfl ?_
  refine gIstore X97 H at_118 (Ls' := #[vI p0, vI p1, vI p2, vI 2, vR w_ApiKey_LIST_OFFSETS, vI 1, vI 2, vI (p1 &&& (3 : Int32)), .unset, .unset, .unset, .unset]) rfl 120 rfl ?_
  refine gIload X97 H at_120 rfl 122 rfl ?_
  refine gIconst X97 H at_122 (z := 1) rfl 123 rfl ?_
  by_cases hc98 : (p1 &&& (3 : Int32)) = (1 : Int32)
  · refine gCmpN X97 H at_123 (teq hc98).2 126 rfl ?_
    refine gIload X97 H at_126 rfl 128 rfl ?_
    refine gIloadN X97 H at_128 rfl 129 rfl ?_
    refine gBipush X97 H at_129 (z := 7) rfl 131 rfl ?_
    refine g_iand X97 H at_131 (z := (p2 &&& (7 : Int32))) rfl 132 rfl ?_
    refine g_iadd X97 H at_132 (z := ((1 : Int32) + (p2 &&& (7 : Int32)))) rfl 133 rfl ?_
    refine gIconst X97 H at_133 (z := 3) rfl 134 rfl ?_
    refine g_isub X97 H at_134 (z := (((1 : Int32) + (p2 &&& (7 : Int32))) - (3 : Int32))) rfl 135 rfl ?_
    refine g_i2s X97 H at_135 (z := ((((1 : Int32) + (p2 &&& (7 : Int32))) - (3 : Int32)).toInt16.toInt32)) rfl 136 rfl ?_
    refine gIstore X97 H at_136 (Ls' := #[vI p0, vI p1, vI p2, vI 2, vR w_ApiKey_LIST_OFFSETS, vI 1, vI 2, vI (p1 &&& (3 : Int32)), vI ((((1 : Int32) + (p2 &&& (7 : Int32))) - (3 : Int32)).toInt16.toInt32), .unset, .unset, .unset]) rfl 138 rfl ?_
    refine gGoto X97 H at_138 (by decide) 166 rfl ?_
    refine gIload X97 H at_166 rfl 168 rfl ?_
    refine gIload X97 H at_168 rfl 170 rfl ?_
    by_cases hc99 : ((((1 : Int32) + (p2 &&& (7 : Int32))) - (3 : Int32)).toInt16.toInt32) < (1 : Int32)
    · refine gCmpN X97 H at_170 (tlt hc99).2.1 173 rfl ?_
      refine gIconst X97 H at_173 (z := 1) rfl 174 rfl ?_
      refine gGoto X97 H at_174 (by decide) 178 rfl ?_
      refine gIstore X97 H at_178 (Ls' := #[vI p0, vI p1, vI p2, vI 2, vR w_ApiKey_LIST_OFFSETS, vI 1, vI 2, vI (p1 &&& (3 : Int32)), vI ((((1 : Int32) + (p2 &&& (7 : Int32))) - (3 : Int32)).toInt16.toInt32), vI 1, .unset, .unset]) rfl 180 rfl ?_
      refine gIload X97 H at_180 rfl 182 rfl ?_
      refine gIload X97 H at_182 rfl 184 rfl ?_
      by_cases hc100 : (2 : Int32) < ((((1 : Int32) + (p2 &&& (7 : Int32))) - (3 : Int32)).toInt16.toInt32)
      · refine gCmpN X97 H at_184 (tlt hc100).2.2.2 187 rfl ?_
        refine gIconst X97 H at_187 (z := 1) rfl 188 rfl ?_
        refine gGoto X97 H at_188 (by decide) 192 rfl ?_
        refine gIstore X97 H at_192 (Ls' := #[vI p0, vI p1, vI p2, vI 2, vR w_ApiKey_LIST_OFFSETS, vI 1, vI 2, vI (p1 &&& (3 : Int32)), vI ((((1 : Int32) + (p2 &&& (7 : Int32))) - (3 : Int32)).toInt16.toInt32), vI 1, vI 1, .unset]) rfl 194 rfl ?_
        refine gIload X97 H at_194 rfl 196 rfl ?_
        refine gIfY X97 H at_196 (by decide) (by decide) 208 rfl ?_
        refine gIconst X97 H at_208 (z := 0) rfl 209 rfl ?_
        refine gIstore X97 H at_209 (Ls' := #[vI p0, vI p1, vI p2, vI 2, vR w_ApiKey_LIST_OFFSETS, vI 1, vI 2, vI (p1 &&& (3 : Int32)), vI ((((1 : Int32) + (p2 &&& (7 : Int32))) - (3 : Int32)).toInt16.toInt32), vI 1, vI 1, vI 0]) rfl 211 rfl ?_
        refine gAload X97 H at_211 rfl rfl 213 rfl ?_
        refine gIload X97 H at_213 rfl 215 rfl ?_
        refine gVirt X97 H hZ hown (hw _ wd4) (hw _ wd5) (hw _ wd7) (hw _ wd6) (by decide) E_w_ApiKey_LIST_OFFSETS (hw _ wd8) (hw _ wd2) (rm102_1 B p2 hc99) e97 hml rfl pd0 rfl (W := 0) (argsL := [(.int ((((1 : Int32) + (p2 &&& (7 : Int32))) - (3 : Int32)).toInt16.toInt32))]) (rest := []) rfl rfl at_215 218 rfl ?_
        intro v103 T103 L103 hq103 X103
        obtain ⟨rfl, e103, rfl⟩ := hq103
        show Go _ _ _ _ (State.setTop _ (mkF _ 218 _ [(.int 0)]))
        refine gIload X103 H at_218 rfl 220 rfl ?_
        refine gCmpN X103 H at_220 (by decide) 223 rfl ?_
        refine gIconst X103 H at_223 (z := 1) rfl 224 rfl ?_
        refine gGoto X103 H at_224 (by decide) 228 rfl ?_
        exact gRetN X103 H hlk hret (t := .boolean) (by simp) at_228 e103 ⟨rfl, Fr.nil _⟩
      · refine gCmpY X97 H at_184 (flt hc100).2.2.2 (by decide) 191 rfl ?_
        refine gIconst X97 H at_191 (z := 0) rfl 192 rfl ?_
        refine gIstore X97 H at_192 (Ls' := #[vI p0, vI p1, vI p2, vI 2, vR w_ApiKey_LIST_OFFSETS, vI 1, vI 2, vI (p1 &&& (3 : Int32)), vI ((((1 : Int32) + (p2 &&& (7 : Int32))) - (3 : Int32)).toInt16.toInt32), vI 1, vI 0, .unset]) rfl 194 rfl ?_
        refine gIload X97 H at_194 rfl 196 rfl ?_
        refine gIfY X97 H at_196 (by decide) (by decide) 208 rfl ?_
        refine gIconst X97 H at_208 (z := 0) rfl 209 rfl ?_
        refine gIstore X97 H at_209 (Ls' := #[vI p0, vI p1, vI p2, vI 2, vR w_ApiKey_LIST_OFFSETS, vI 1, vI 2, vI (p1 &&& (3 : Int32)), vI ((((1 : Int32) + (p2 &&& (7 : Int32))) - (3 : Int32)).toInt16.toInt32), vI 1, vI 0, vI 0]) rfl 211 rfl ?_
        refine gAload X97 H at_211 rfl rfl 213 rfl ?_
        refine gIload X97 H at_213 rfl 215 rfl ?_
        refine gVirt X97 H hZ hown (hw _ wd4) (hw _ wd5) (hw _ wd7) (hw _ wd6) (by decide) E_w_ApiKey_LIST_OFFSETS (hw _ wd8) (hw _ wd2) (rm102_1 B p2 hc99) e97 hml rfl pd0 rfl (W := 0) (argsL := [(.int ((((1 : Int32) + (p2 &&& (7 : Int32))) - (3 : Int32)).toInt16.toInt32))]) (rest := []) rfl rfl at_215 218 rfl ?_
        intro v104 T104 L104 hq104 X104
        obtain ⟨rfl, e104, rfl⟩ := hq104
        show Go _ _ _ _ (State.setTop _ (mkF _ 218 _ [(.int 0)]))
        refine gIload X104 H at_218 rfl 220 rfl ?_
        refine gCmpN X104 H at_220 (by decide) 223 rfl ?_
        refine gIconst X104 H at_223 (z := 1) rfl 224 rfl ?_
        refine gGoto X104 H at_224 (by decide) 228 rfl ?_
        exact gRetN X104 H hlk hret (t := .boolean) (by simp) at_228 e104 ⟨rfl, Fr.nil _⟩
    · refine gCmpY X97 H at_170 (flt hc99).2.1 (by decide) 177 rfl ?_
      refine gIconst X97 H at_177 (z := 0) rfl 178 rfl ?_
      refine gIstore X97 H at_178 (Ls' := #[vI p0, vI p1, vI p2, vI 2, vR w_ApiKey_LIST_OFFSETS, vI 1, vI 2, vI (p1 &&& (3 : Int32)), vI ((((1 : Int32) + (p2 &&& (7 : Int32))) - (3 : Int32)).toInt16.toInt32), vI 0, .unset, .unset]) rfl 180 rfl ?_
      refine gIload X97 H at_180 rfl 182 rfl ?_
      refine gIload X97 H at_182 rfl 184 rfl ?_
      by_cases hc105 : (2 : Int32) < ((((1 : Int32) + (p2 &&& (7 : Int32))) - (3 : Int32)).toInt16.toInt32)
      · refine gCmpN X97 H at_184 (tlt hc105).2.2.2 187 rfl ?_
        refine gIconst X97 H at_187 (z := 1) rfl 188 rfl ?_
        refine gGoto X97 H at_188 (by decide) 192 rfl ?_
        refine gIstore X97 H at_192 (Ls' := #[vI p0, vI p1, vI p2, vI 2, vR w_ApiKey_LIST_OFFSETS, vI 1, vI 2, vI (p1 &&& (3 : Int32)), vI ((((1 : Int32) + (p2 &&& (7 : Int32))) - (3 : Int32)).toInt16.toInt32), vI 0, vI 1, .unset]) rfl 194 rfl ?_
        refine gIload X97 H at_194 rfl 196 rfl ?_
        refine gIfN X97 H at_196 (by decide) 199 rfl ?_
        refine gIload X97 H at_199 rfl 201 rfl ?_
        refine gIfY X97 H at_201 (by decide) (by decide) 208 rfl ?_
        refine gIconst X97 H at_208 (z := 0) rfl 209 rfl ?_
        refine gIstore X97 H at_209 (Ls' := #[vI p0, vI p1, vI p2, vI 2, vR w_ApiKey_LIST_OFFSETS, vI 1, vI 2, vI (p1 &&& (3 : Int32)), vI ((((1 : Int32) + (p2 &&& (7 : Int32))) - (3 : Int32)).toInt16.toInt32), vI 0, vI 1, vI 0]) rfl 211 rfl ?_
        refine gAload X97 H at_211 rfl rfl 213 rfl ?_
        refine gIload X97 H at_213 rfl 215 rfl ?_
        refine gVirt X97 H hZ hown (hw _ wd4) (hw _ wd5) (hw _ wd7) (hw _ wd6) (by decide) E_w_ApiKey_LIST_OFFSETS (hw _ wd8) (hw _ wd2) (rm108_1 B p2 hc99 hc105) e97 hml rfl pd0 rfl (W := 0) (argsL := [(.int ((((1 : Int32) + (p2 &&& (7 : Int32))) - (3 : Int32)).toInt16.toInt32))]) (rest := []) rfl rfl at_215 218 rfl ?_
        intro v109 T109 L109 hq109 X109
        obtain ⟨rfl, e109, rfl⟩ := hq109
        show Go _ _ _ _ (State.setTop _ (mkF _ 218 _ [(.int 0)]))
        refine gIload X109 H at_218 rfl 220 rfl ?_
        refine gCmpN X109 H at_220 (by decide) 223 rfl ?_
        refine gIconst X109 H at_223 (z := 1) rfl 224 rfl ?_
        refine gGoto X109 H at_224 (by decide) 228 rfl ?_
        exact gRetN X109 H hlk hret (t := .boolean) (by simp) at_228 e109 ⟨rfl, Fr.nil _⟩
      · refine gCmpY X97 H at_184 (flt hc105).2.2.2 (by decide) 191 rfl ?_
        refine gIconst X97 H at_191 (z := 0) rfl 192 rfl ?_
        refine gIstore X97 H at_192 (Ls' := #[vI p0, vI p1, vI p2, vI 2, vR w_ApiKey_LIST_OFFSETS, vI 1, vI 2, vI (p1 &&& (3 : Int32)), vI ((((1 : Int32) + (p2 &&& (7 : Int32))) - (3 : Int32)).toInt16.toInt32), vI 0, vI 0, .unset]) rfl 194 rfl ?_
        refine gIload X97 H at_194 rfl 196 rfl ?_
        refine gIfN X97 H at_196 (by decide) 199 rfl ?_
        refine gIload X97 H at_199 rfl 201 rfl ?_
        refine gIfN X97 H at_201 (by decide) 204 rfl ?_
        refine gIconst X97 H at_204 (z := 1) rfl 205 rfl ?_
        refine gGoto X97 H at_205 (by decide) 209 rfl ?_
        refine gIstore X97 H at_209 (Ls' := #[vI p0, vI p1, vI p2, vI 2, vR w_ApiKey_LIST_OFFSETS, vI 1, vI 2, vI (p1 &&& (3 : Int32)), vI ((((1 : Int32) + (p2 &&& (7 : Int32))) - (3 : Int32)).toInt16.toInt32), vI 0, vI 0, vI 1]) rfl 211 rfl ?_
        refine gAload X97 H at_211 rfl rfl 213 rfl ?_
        refine gIload X97 H at_213 rfl 215 rfl ?_
        refine gVirt X97 H hZ hown (hw _ wd4) (hw _ wd5) (hw _ wd7) (hw _ wd6) (by decide) E_w_ApiKey_LIST_OFFSETS (hw _ wd8) (hw _ wd2) (rm112_1 B p2 hc99 hc105) e97 hml rfl pd0 rfl (W := 0) (argsL := [(.int ((((1 : Int32) + (p2 &&& (7 : Int32))) - (3 : Int32)).toInt16.toInt32))]) (rest := []) rfl rfl at_215 218 rfl ?_
        intro v113 T113 L113 hq113 X113
        obtain ⟨rfl, e113, rfl⟩ := hq113
        show Go _ _ _ _ (State.setTop _ (mkF _ 218 _ [(.int 1)]))
        refine gIload X113 H at_218 rfl 220 rfl ?_
        refine gCmpN X113 H at_220 (by decide) 223 rfl ?_
        refine gIconst X113 H at_223 (z := 1) rfl 224 rfl ?_
        refine gGoto X113 H at_224 (by decide) 228 rfl ?_
        exact gRetN X113 H hlk hret (t := .boolean) (by simp) at_228 e113 ⟨rfl, Fr.nil _⟩
  · refine gCmpY X97 H at_123 (feq hc98).2 (by decide) 141 rfl ?_
    refine gIload X97 H at_141 rfl 143 rfl ?_
    refine gIconst X97 H at_143 (z := 2) rfl 144 rfl ?_
    by_cases hc114 : (p1 &&& (3 : Int32)) = (2 : Int32)
    · refine gCmpN X97 H at_144 (teq hc114).2 147 rfl ?_
      refine gIload X97 H at_147 rfl 149 rfl ?_
      refine gIloadN X97 H at_149 rfl 150 rfl ?_
      refine gBipush X97 H at_150 (z := 7) rfl 152 rfl ?_
      refine g_iand X97 H at_152 (z := (p2 &&& (7 : Int32))) rfl 153 rfl ?_
      refine g_iadd X97 H at_153 (z := ((2 : Int32) + (p2 &&& (7 : Int32)))) rfl 154 rfl ?_
      refine gIconst X97 H at_154 (z := 4) rfl 155 rfl ?_
      refine g_isub X97 H at_155 (z := (((2 : Int32) + (p2 &&& (7 : Int32))) - (4 : Int32))) rfl 156 rfl ?_
      refine g_i2s X97 H at_156 (z := ((((2 : Int32) + (p2 &&& (7 : Int32))) - (4 : Int32)).toInt16.toInt32)) rfl 157 rfl ?_
      refine gIstore X97 H at_157 (Ls' := #[vI p0, vI p1, vI p2, vI 2, vR w_ApiKey_LIST_OFFSETS, vI 1, vI 2, vI (p1 &&& (3 : Int32)), vI ((((2 : Int32) + (p2 &&& (7 : Int32))) - (4 : Int32)).toInt16.toInt32), .unset, .unset, .unset]) rfl 159 rfl ?_
      refine gGoto X97 H at_159 (by decide) 166 rfl ?_
      refine gIload X97 H at_166 rfl 168 rfl ?_
      refine gIload X97 H at_168 rfl 170 rfl ?_
      by_cases hc115 : ((((2 : Int32) + (p2 &&& (7 : Int32))) - (4 : Int32)).toInt16.toInt32) < (1 : Int32)
      · refine gCmpN X97 H at_170 (tlt hc115).2.1 173 rfl ?_
        refine gIconst X97 H at_173 (z := 1) rfl 174 rfl ?_
        refine gGoto X97 H at_174 (by decide) 178 rfl ?_
        refine gIstore X97 H at_178 (Ls' := #[vI p0, vI p1, vI p2, vI 2, vR w_ApiKey_LIST_OFFSETS, vI 1, vI 2, vI (p1 &&& (3 : Int32)), vI ((((2 : Int32) + (p2 &&& (7 : Int32))) - (4 : Int32)).toInt16.toInt32), vI 1, .unset, .unset]) rfl 180 rfl ?_
        refine gIload X97 H at_180 rfl 182 rfl ?_
        refine gIload X97 H at_182 rfl 184 rfl ?_
        by_cases hc116 : (2 : Int32) < ((((2 : Int32) + (p2 &&& (7 : Int32))) - (4 : Int32)).toInt16.toInt32)
        · refine gCmpN X97 H at_184 (tlt hc116).2.2.2 187 rfl ?_
          refine gIconst X97 H at_187 (z := 1) rfl 188 rfl ?_
          refine gGoto X97 H at_188 (by decide) 192 rfl ?_
          refine gIstore X97 H at_192 (Ls' := #[vI p0, vI p1, vI p2, vI 2, vR w_ApiKey_LIST_OFFSETS, vI 1, vI 2, vI (p1 &&& (3 : Int32)), vI ((((2 : Int32) + (p2 &&& (7 : Int32))) - (4 : Int32)).toInt16.toInt32), vI 1, vI 1, .unset]) rfl 194 rfl ?_
          refine gIload X97 H at_194 rfl 196 rfl ?_
          refine gIfY X97 H at_196 (by decide) (by decide) 208 rfl ?_
          refine gIconst X97 H at_208 (z := 0) rfl 209 rfl ?_
          refine gIstore X97 H at_209 (Ls' := #[vI p0, vI p1, vI p2, vI 2, vR w_ApiKey_LIST_OFFSETS, vI 1, vI 2, vI (p1 &&& (3 : Int32)), vI ((((2 : Int32) + (p2 &&& (7 : Int32))) - (4 : Int32)).toInt16.toInt32), vI 1, vI 1, vI 0]) rfl 211 rfl ?_
          refine gAload X97 H at_211 rfl rfl 213 rfl ?_
          refine gIload X97 H at_213 rfl 215 rfl ?_
          refine gVirt X97 H hZ hown (hw _ wd4) (hw _ wd5) (hw _ wd7) (hw _ wd6) (by decide) E_w_ApiKey_LIST_OFFSETS (hw _ wd8) (hw _ wd2) (rm118_1 B p2 hc115) e97 hml rfl pd0 rfl (W := 0) (argsL := [(.int ((((2 : Int32) + (p2 &&& (7 : Int32))) - (4 : Int32)).toInt16.toInt32))]) (rest := []) rfl rfl at_215 218 rfl ?_
          intro v119 T119 L119 hq119 X119
          obtain ⟨rfl, e119, rfl⟩ := hq119
          show Go _ _ _ _ (State.setTop _ (mkF _ 218 _ [(.int 0)]))
          refine gIload X119 H at_218 rfl 220 rfl ?_
          refine gCmpN X119 H at_220 (by decide) 223 rfl ?_
          refine gIconst X119 H at_223 (z := 1) rfl 224 rfl ?_
          refine gGoto X119 H at_224 (by decide) 228 rfl ?_
          exact gRetN X119 H hlk hret (t := .boolean) (by simp) at_228 e119 ⟨rfl, Fr.nil _⟩
        · refine gCmpY X97 H at_184 (flt hc116).2.2.2 (by decide) 191 rfl ?_
          refine gIconst X97 H at_191 (z := 0) rfl 192 rfl ?_
          refine gIstore X97 H at_192 (Ls' := #[vI p0, vI p1, vI p2, vI 2, vR w_ApiKey_LIST_OFFSETS, vI 1, vI 2, vI (p1 &&& (3 : Int32)), vI ((((2 : Int32) + (p2 &&& (7 : Int32))) - (4 : Int32)).toInt16.toInt32), vI 1, vI 0, .unset]) rfl 194 rfl ?_
          refine gIload X97 H at_194 rfl 196 rfl ?_
          refine gIfY X97 H at_196 (by decide) (by decide) 208 rfl ?_
          refine gIconst X97 H at_208 (z := 0) rfl 209 rfl ?_
          refine gIstore X97 H at_209 (Ls' := #[vI p0, vI p1, vI p2, vI 2, vR w_ApiKey_LIST_OFFSETS, vI 1, vI 2, vI (p1 &&& (3 : Int32)), vI ((((2 : Int32) + (p2 &&& (7 : Int32))) - (4 : Int32)).toInt16.toInt32), vI 1, vI 0, vI 0]) rfl 211 rfl ?_
          refine gAload X97 H at_211 rfl rfl 213 rfl ?_
          refine gIload X97 H at_213 rfl 215 rfl ?_
          refine gVirt X97 H hZ hown (hw _ wd4) (hw _ wd5) (hw _ wd7) (hw _ wd6) (by decide) E_w_ApiKey_LIST_OFFSETS (hw _ wd8) (hw _ wd2) (rm118_1 B p2 hc115) e97 hml rfl pd0 rfl (W := 0) (argsL := [(.int ((((2 : Int32) + (p2 &&& (7 : Int32))) - (4 : Int32)).toInt16.toInt32))]) (rest := []) rfl rfl at_215 218 rfl ?_
          intro v120 T120 L120 hq120 X120
          obtain ⟨rfl, e120, rfl⟩ := hq120
          show Go _ _ _ _ (State.setTop _ (mkF _ 218 _ [(.int 0)]))
          refine gIload X120 H at_218 rfl 220 rfl ?_
          refine gCmpN X120 H at_220 (by decide) 223 rfl ?_
          refine gIconst X120 H at_223 (z := 1) rfl 224 rfl ?_
          refine gGoto X120 H at_224 (by decide) 228 rfl ?_
          exact gRetN X120 H hlk hret (t := .boolean) (by simp) at_228 e120 ⟨rfl, Fr.nil _⟩
      · refine gCmpY X97 H at_170 (flt hc115).2.1 (by decide) 177 rfl ?_
        refine gIconst X97 H at_177 (z := 0) rfl 178 rfl ?_
        refine gIstore X97 H at_178 (Ls' := #[vI p0, vI p1, vI p2, vI 2, vR w_ApiKey_LIST_OFFSETS, vI 1, vI 2, vI (p1 &&& (3 : Int32)), vI ((((2 : Int32) + (p2 &&& (7 : Int32))) - (4 : Int32)).toInt16.toInt32), vI 0, .unset, .unset]) rfl 180 rfl ?_
        refine gIload X97 H at_180 rfl 182 rfl ?_
        refine gIload X97 H at_182 rfl 184 rfl ?_
        by_cases hc121 : (2 : Int32) < ((((2 : Int32) + (p2 &&& (7 : Int32))) - (4 : Int32)).toInt16.toInt32)
        · refine gCmpN X97 H at_184 (tlt hc121).2.2.2 187 rfl ?_
          refine gIconst X97 H at_187 (z := 1) rfl 188 rfl ?_
          refine gGoto X97 H at_188 (by decide) 192 rfl ?_
          refine gIstore X97 H at_192 (Ls' := #[vI p0, vI p1, vI p2, vI 2, vR w_ApiKey_LIST_OFFSETS, vI 1, vI 2, vI (p1 &&& (3 : Int32)), vI ((((2 : Int32) + (p2 &&& (7 : Int32))) - (4 : Int32)).toInt16.toInt32), vI 0, vI 1, .unset]) rfl 194 rfl ?_
          refine gIload X97 H at_194 rfl 196 rfl ?_
          refine gIfN X97 H at_196 (by decide) 199 rfl ?_
          refine gIload X97 H at_199 rfl 201 rfl ?_
          refine gIfY X97 H at_201 (by decide) (by decide) 208 rfl ?_
          refine gIconst X97 H at_208 (z := 0) rfl 209 rfl ?_
          refine gIstore X97 H at_209 (Ls' := #[vI p0, vI p1, vI p2, vI 2, vR w_ApiKey_LIST_OFFSETS, vI 1, vI 2, vI (p1 &&& (3 : Int32)), vI ((((2 : Int32) + (p2 &&& (7 : Int32))) - (4 : Int32)).toInt16.toInt32), vI 0, vI 1, vI 0]) rfl 211 rfl ?_
          refine gAload X97 H at_211 rfl rfl 213 rfl ?_
          refine gIload X97 H at_213 rfl 215 rfl ?_
          refine gVirt X97 H hZ hown (hw _ wd4) (hw _ wd5) (hw _ wd7) (hw _ wd6) (by decide) E_w_ApiKey_LIST_OFFSETS (hw _ wd8) (hw _ wd2) (rm124_1 B p2 hc115 hc121) e97 hml rfl pd0 rfl (W := 0) (argsL := [(.int ((((2 : Int32) + (p2 &&& (7 : Int32))) - (4 : Int32)).toInt16.toInt32))]) (rest := []) rfl rfl at_215 218 rfl ?_
          intro v125 T125 L125 hq125 X125
          obtain ⟨rfl, e125, rfl⟩ := hq125
          show Go _ _ _ _ (State.setTop _ (mkF _ 218 _ [(.int 0)]))
          refine gIload X125 H at_218 rfl 220 rfl ?_
          refine gCmpN X125 H at_220 (by decide) 223 rfl ?_
          refine gIconst X125 H at_223 (z := 1) rfl 224 rfl ?_
          refine gGoto X125 H at_224 (by decide) 228 rfl ?_
          exact gRetN X125 H hlk hret (t := .boolean) (by simp) at_228 e125 ⟨rfl, Fr.nil _⟩
        · refine gCmpY X97 H at_184 (flt hc121).2.2.2 (by decide) 191 rfl ?_
          refine gIconst X97 H at_191 (z := 0) rfl 192 rfl ?_
          refine gIstore X97 H at_192 (Ls' := #[vI p0, vI p1, vI p2, vI 2, vR w_ApiKey_LIST_OFFSETS, vI 1, vI 2, vI (p1 &&& (3 : Int32)), vI ((((2 : Int32) + (p2 &&& (7 : Int32))) - (4 : Int32)).toInt16.toInt32), vI 0, vI 0, .unset]) rfl 194 rfl ?_
          refine gIload X97 H at_194 rfl 196 rfl ?_
          refine gIfN X97 H at_196 (by decide) 199 rfl ?_
          refine gIload X97 H at_199 rfl 201 rfl ?_
          refine gIfN X97 H at_201 (by decide) 204 rfl ?_
          refine gIconst X97 H at_204 (z := 1) rfl 205 rfl ?_
          refine gGoto X97 H at_205 (by decide) 209 rfl ?_
          refine gIstore X97 H at_209 (Ls' := #[vI p0, vI p1, vI p2, vI 2, vR w_ApiKey_LIST_OFFSETS, vI 1, vI 2, vI (p1 &&& (3 : Int32)), vI ((((2 : Int32) + (p2 &&& (7 : Int32))) - (4 : Int32)).toInt16.toInt32), vI 0, vI 0, vI 1]) rfl 211 rfl ?_
          refine gAload X97 H at_211 rfl rfl 213 rfl ?_
          refine gIload X97 H at_213 rfl 215 rfl ?_
          refine gVirt X97 H hZ hown (hw _ wd4) (hw _ wd5) (hw _ wd7) (hw _ wd6) (by decide) E_w_ApiKey_LIST_OFFSETS (hw _ wd8) (hw _ wd2) (rm128_1 B p2 hc115 hc121) e97 hml rfl pd0 rfl (W := 0) (argsL := [(.int ((((2 : Int32) + (p2 &&& (7 : Int32))) - (4 : Int32)).toInt16.toInt32))]) (rest := []) rfl rfl at_215 218 rfl ?_
          intro v129 T129 L129 hq129 X129
          obtain ⟨rfl, e129, rfl⟩ := hq129
          show Go _ _ _ _ (State.setTop _ (mkF _ 218 _ [(.int 1)]))
          refine gIload X129 H at_218 rfl 220 rfl ?_
          refine gCmpN X129 H at_220 (by decide) 223 rfl ?_
          refine gIconst X129 H at_223 (z := 1) rfl 224 rfl ?_
          refine gGoto X129 H at_224 (by decide) 228 rfl ?_
          exact gRetN X129 H hlk hret (t := .boolean) (by simp) at_228 e129 ⟨rfl, Fr.nil _⟩
    · refine gCmpY X97 H at_144 (feq hc114).2 (by decide) 162 rfl ?_
      refine gIloadN X97 H at_162 rfl 163 rfl ?_
      refine g_i2s X97 H at_163 (z := (p2.toInt16.toInt32)) rfl 164 rfl ?_
      refine gIstore X97 H at_164 (Ls' := #[vI p0, vI p1, vI p2, vI 2, vR w_ApiKey_LIST_OFFSETS, vI 1, vI 2, vI (p1 &&& (3 : Int32)), vI (p2.toInt16.toInt32), .unset, .unset, .unset]) rfl 166 rfl ?_
      refine gIload X97 H at_166 rfl 168 rfl ?_
      refine gIload X97 H at_168 rfl 170 rfl ?_
      by_cases hc130 : (p2.toInt16.toInt32) < (1 : Int32)
      · refine gCmpN X97 H at_170 (tlt hc130).2.1 173 rfl ?_
        refine gIconst X97 H at_173 (z := 1) rfl 174 rfl ?_
        refine gGoto X97 H at_174 (by decide) 178 rfl ?_
        refine gIstore X97 H at_178 (Ls' := #[vI p0, vI p1, vI p2, vI 2, vR w_ApiKey_LIST_OFFSETS, vI 1, vI 2, vI (p1 &&& (3 : Int32)), vI (p2.toInt16.toInt32), vI 1, .unset, .unset]) rfl 180 rfl ?_
        refine gIload X97 H at_180 rfl 182 rfl ?_
        refine gIload X97 H at_182 rfl 184 rfl ?_
        by_cases hc131 : (2 : Int32) < (p2.toInt16.toInt32)
        · refine gCmpN X97 H at_184 (tlt hc131).2.2.2 187 rfl ?_
          refine gIconst X97 H at_187 (z := 1) rfl 188 rfl ?_
          refine gGoto X97 H at_188 (by decide) 192 rfl ?_
          refine gIstore X97 H at_192 (Ls' := #[vI p0, vI p1, vI p2, vI 2, vR w_ApiKey_LIST_OFFSETS, vI 1, vI 2, vI (p1 &&& (3 : Int32)), vI (p2.toInt16.toInt32), vI 1, vI 1, .unset]) rfl 194 rfl ?_
          refine gIload X97 H at_194 rfl 196 rfl ?_
          refine gIfY X97 H at_196 (by decide) (by decide) 208 rfl ?_
          refine gIconst X97 H at_208 (z := 0) rfl 209 rfl ?_
          refine gIstore X97 H at_209 (Ls' := #[vI p0, vI p1, vI p2, vI 2, vR w_ApiKey_LIST_OFFSETS, vI 1, vI 2, vI (p1 &&& (3 : Int32)), vI (p2.toInt16.toInt32), vI 1, vI 1, vI 0]) rfl 211 rfl ?_
          refine gAload X97 H at_211 rfl rfl 213 rfl ?_
          refine gIload X97 H at_213 rfl 215 rfl ?_
          refine gVirt X97 H hZ hown (hw _ wd4) (hw _ wd5) (hw _ wd7) (hw _ wd6) (by decide) E_w_ApiKey_LIST_OFFSETS (hw _ wd8) (hw _ wd2) (rm133_1 B p2 hc130) e97 hml rfl pd0 rfl (W := 0) (argsL := [(.int (p2.toInt16.toInt32))]) (rest := []) rfl rfl at_215 218 rfl ?_
          intro v134 T134 L134 hq134 X134
          obtain ⟨rfl, e134, rfl⟩ := hq134
          show Go _ _ _ _ (State.setTop _ (mkF _ 218 _ [(.int 0)]))
          refine gIload X134 H at_218 rfl 220 rfl ?_
          refine gCmpN X134 H at_220 (by decide) 223 rfl ?_
          refine gIconst X134 H at_223 (z := 1) rfl 224 rfl ?_
          refine gGoto X134 H at_224 (by decide) 228 rfl ?_
          exact gRetN X134 H hlk hret (t := .boolean) (by simp) at_228 e134 ⟨rfl, Fr.nil _⟩
        · refine gCmpY X97 H at_184 (flt hc131).2.2.2 (by decide) 191 rfl ?_
          refine gIconst X97 H at_191 (z := 0) rfl 192 rfl ?_
          refine gIstore X97 H at_192 (Ls' := #[vI p0, vI p1, vI p2, vI 2, vR w_ApiKey_LIST_OFFSETS, vI 1, vI 2, vI (p1 &&& (3 : Int32)), vI (p2.toInt16.toInt32), vI 1, vI 0, .unset]) rfl 194 rfl ?_
          refine gIload X97 H at_194 rfl 196 rfl ?_
          refine gIfY X97 H at_196 (by decide) (by decide) 208 rfl ?_
          refine gIconst X97 H at_208 (z := 0) rfl 209 rfl ?_
          refine gIstore X97 H at_209 (Ls' := #[vI p0, vI p1, vI p2, vI 2, vR w_ApiKey_LIST_OFFSETS, vI 1, vI 2, vI (p1 &&& (3 : Int32)), vI (p2.toInt16.toInt32), vI 1, vI 0, vI 0]) rfl 211 rfl ?_
          refine gAload X97 H at_211 rfl rfl 213 rfl ?_
          refine gIload X97 H at_213 rfl 215 rfl ?_
          refine gVirt X97 H hZ hown (hw _ wd4) (hw _ wd5) (hw _ wd7) (hw _ wd6) (by decide) E_w_ApiKey_LIST_OFFSETS (hw _ wd8) (hw _ wd2) (rm133_1 B p2 hc130) e97 hml rfl pd0 rfl (W := 0) (argsL := [(.int (p2.toInt16.toInt32))]) (rest := []) rfl rfl at_215 218 rfl ?_
          intro v135 T135 L135 hq135 X135
          obtain ⟨rfl, e135, rfl⟩ := hq135
          show Go _ _ _ _ (State.setTop _ (mkF _ 218 _ [(.int 0)]))
          refine gIload X135 H at_218 rfl 220 rfl ?_
          refine gCmpN X135 H at_220 (by decide) 223 rfl ?_
          refine gIconst X135 H at_223 (z := 1) rfl 224 rfl ?_
          refine gGoto X135 H at_224 (by decide) 228 rfl ?_
          exact gRetN X135 H hlk hret (t := .boolean) (by simp) at_228 e135 ⟨rfl, Fr.nil _⟩
      · refine gCmpY X97 H at_170 (flt hc130).2.1 (by decide) 177 rfl ?_
        refine gIconst X97 H at_177 (z := 0) rfl 178 rfl ?_
        refine gIstore X97 H at_178 (Ls' := #[vI p0, vI p1, vI p2, vI 2, vR w_ApiKey_LIST_OFFSETS, vI 1, vI 2, vI (p1 &&& (3 : Int32)), vI (p2.toInt16.toInt32), vI 0, .unset, .unset]) rfl 180 rfl ?_
        refine gIload X97 H at_180 rfl 182 rfl ?_
        refine gIload X97 H at_182 rfl 184 rfl ?_
        by_cases hc136 : (2 : Int32) < (p2.toInt16.toInt32)
        · refine gCmpN X97 H at_184 (tlt hc136).2.2.2 187 rfl ?_
          refine gIconst X97 H at_187 (z := 1) rfl 188 rfl ?_
          refine gGoto X97 H at_188 (by decide) 192 rfl ?_
          refine gIstore X97 H at_192 (Ls' := #[vI p0, vI p1, vI p2, vI 2, vR w_ApiKey_LIST_OFFSETS, vI 1, vI 2, vI (p1 &&& (3 : Int32)), vI (p2.toInt16.toInt32), vI 0, vI 1, .unset]) rfl 194 rfl ?_
          refine gIload X97 H at_194 rfl 196 rfl ?_
          refine gIfN X97 H at_196 (by decide) 199 rfl ?_
          refine gIload X97 H at_199 rfl 201 rfl ?_
          refine gIfY X97 H at_201 (by decide) (by decide) 208 rfl ?_
          refine gIconst X97 H at_208 (z := 0) rfl 209 rfl ?_
          refine gIstore X97 H at_209 (Ls' := #[vI p0, vI p1, vI p2, vI 2, vR w_ApiKey_LIST_OFFSETS, vI 1, vI 2, vI (p1 &&& (3 : Int32)), vI (p2.toInt16.toInt32), vI 0, vI 1, vI 0]) rfl 211 rfl ?_
          refine gAload X97 H at_211 rfl rfl 213 rfl ?_
          refine gIload X97 H at_213 rfl 215 rfl ?_
          refine gVirt X97 H hZ hown (hw _ wd4) (hw _ wd5) (hw _ wd7) (hw _ wd6) (by decide) E_w_ApiKey_LIST_OFFSETS (hw _ wd8) (hw _ wd2) (rm139_1 B p2 hc130 hc136) e97 hml rfl pd0 rfl (W := 0) (argsL := [(.int (p2.toInt16.toInt32))]) (rest := []) rfl rfl at_215 218 rfl ?_
          intro v140 T140 L140 hq140 X140
          obtain ⟨rfl, e140, rfl⟩ := hq140
          show Go _ _ _ _ (State.setTop _ (mkF _ 218 _ [(.int 0)]))
          refine gIload X140 H at_218 rfl 220 rfl ?_
          refine gCmpN X140 H at_220 (by decide) 223 rfl ?_
          refine gIconst X140 H at_223 (z := 1) rfl 224 rfl ?_
          refine gGoto X140 H at_224 (by decide) 228 rfl ?_
          exact gRetN X140 H hlk hret (t := .boolean) (by simp) at_228 e140 ⟨rfl, Fr.nil _⟩
        · refine gCmpY X97 H at_184 (flt hc136).2.2.2 (by decide) 191 rfl ?_
          refine gIconst X97 H at_191 (z := 0) rfl 192 rfl ?_
          refine gIstore X97 H at_192 (Ls' := #[vI p0, vI p1, vI p2, vI 2, vR w_ApiKey_LIST_OFFSETS, vI 1, vI 2, vI (p1 &&& (3 : Int32)), vI (p2.toInt16.toInt32), vI 0, vI 0, .unset]) rfl 194 rfl ?_
          refine gIload X97 H at_194 rfl 196 rfl ?_
          refine gIfN X97 H at_196 (by decide) 199 rfl ?_
          refine gIload X97 H at_199 rfl 201 rfl ?_
          refine gIfN X97 H at_201 (by decide) 204 rfl ?_
          refine gIconst X97 H at_204 (z := 1) rfl 205 rfl ?_
          refine gGoto X97 H at_205 (by decide) 209 rfl ?_
          refine gIstore X97 H at_209 (Ls' := #[vI p0, vI p1, vI p2, vI 2, vR w_ApiKey_LIST_OFFSETS, vI 1, vI 2, vI (p1 &&& (3 : Int32)), vI (p2.toInt16.toInt32), vI 0, vI 0, vI 1]) rfl 211 rfl ?_
          refine gAload X97 H at_211 rfl rfl 213 rfl ?_
          refine gIload X97 H at_213 rfl 215 rfl ?_
          refine gVirt X97 H hZ hown (hw _ wd4) (hw _ wd5) (hw _ wd7) (hw _ wd6) (by decide) E_w_ApiKey_LIST_OFFSETS (hw _ wd8) (hw _ wd2) (rm143_1 B p2 hc130 hc136) e97 hml rfl pd0 rfl (W := 0) (argsL := [(.int (p2.toInt16.toInt32))]) (rest := []) rfl rfl at_215 218 rfl ?_
          intro v144 T144 L144 hq144 X144
          obtain ⟨rfl, e144, rfl⟩ := hq144
          show Go _ _ _ _ (State.setTop _ (mkF _ 218 _ [(.int 1)]))
          refine gIload X144 H at_218 rfl 220 rfl ?_
          refine gCmpN X144 H at_220 (by decide) 223 rfl ?_
          refine gIconst X144 H at_223 (z := 1) rfl 224 rfl ?_
          refine gGoto X144 H at_224 (by decide) 228 rfl ?_
          exact gRetN X144 H hlk hret (t := .boolean) (by simp) at_228 e144 ⟨rfl, Fr.nil _⟩
theorem rm150_1 (B : Bg Z a0 w_ApiKey_PRODUCE w_ApiKey_FETCH w_ApiKey_LIST_OFFSETS w_ApiKey_OFFSET_FOR_LEADER_EPOCH w_ApiKey_METADATA w_ApiKey_API_VERSIONS) (p2 : Int32) (hk1 : ((((0 : Int32) + (p2 &&& (7 : Int32))) - (3 : Int32)).toInt16.toInt32) < (0 : Int32)) :
    Con l Z (⟨"com/example/rolling_quorum/rollingquorum/protocol/ApiKey", "supports", "(S)Z"⟩ : MethodName) prog_29_method_8_code 2 (some .boolean) ({ frames := 0, cells := 0, slots := 0, locals := 0 } : Room) #[(.ref w_ApiKey_METADATA), (.int ((((0 : Int32) + (p2 &&& (7 : Int32))) - (3 : Int32)).toInt16.toInt32))] Z.heap (fun v h' L => v = some (.int 0) ∧ h' = Z.heap ∧ L = []) := by
  have hw := B.1
  obtain ⟨S_w_ApiKey_PRODUCE, E_w_ApiKey_PRODUCE, S_w_ApiKey_FETCH, E_w_ApiKey_FETCH, S_w_ApiKey_LIST_OFFSETS, E_w_ApiKey_LIST_OFFSETS, S_w_ApiKey_OFFSET_FOR_LEADER_EPOCH, E_w_ApiKey_OFFSET_FOR_LEADER_EPOCH, S_w_ApiKey_METADATA, E_w_ApiKey_METADATA, S_w_ApiKey_API_VERSIONS, E_w_ApiKey_API_VERSIONS, F_w_ApiKey_PRODUCE_minVersion, F_w_ApiKey_FETCH_minVersion, F_w_ApiKey_LIST_OFFSETS_minVersion, F_w_ApiKey_LIST_OFFSETS_maxVersion, F_w_ApiKey_OFFSET_FOR_LEADER_EPOCH_minVersion, F_w_ApiKey_OFFSET_FOR_LEADER_EPOCH_maxVersion, F_w_ApiKey_FETCH_maxVersion, F_w_ApiKey_METADATA_minVersion, F_w_ApiKey_API_VERSIONS_minVersion, F_w_ApiKey_API_VERSIONS_maxVersion, F_w_ApiKey_PRODUCE_maxVersion, F_w_ApiKey_METADATA_maxVersion⟩ := B.2
  refine Con.of (plainFor_of_name pn1) (Ls := #[vR w_ApiKey_METADATA, vI ((((0 : Int32) + (p2 &&& (7 : Int32))) - (3 : Int32)).toInt16.toInt32)]) (fun m => by first | rfl | (simp [entryFrame, mkF, argsToLocals, Value.category]; done)) ?_
  intro p e s m below meth c T0 X0 H hml hZ hown hnm hret hlk e0
  refine gIloadN X0 H d1_0 rfl 1 rfl ?_
  refine gAloadN X0 H d1_1 rfl rfl 2 rfl ?_
  refine gGetF X0 H hZ hown (hw _ wd9) Via.refl e0 F_w_ApiKey_METADATA_minVersion d1_2 5 rfl ?_
  intro T149 X149 e149
  refine gCmpY X149 H d1_5 (tlt hk1).1 (by decide) 20 rfl ?_
  refine gIconst X149 H d1_20 (z := 0) rfl 21 rfl ?_
  exact gRetN X149 H hlk hret (t := .boolean) (by simp) d1_21 e149 ⟨rfl, rfl, rfl⟩
theorem rm156_1 (B : Bg Z a0 w_ApiKey_PRODUCE w_ApiKey_FETCH w_ApiKey_LIST_OFFSETS w_ApiKey_OFFSET_FOR_LEADER_EPOCH w_ApiKey_METADATA w_ApiKey_API_VERSIONS) (p2 : Int32) (hk1 : ¬ (((((0 : Int32) + (p2 &&& (7 : Int32))) - (3 : Int32)).toInt16.toInt32) < (0 : Int32))) (hk2 : (4 : Int32) < ((((0 : Int32) + (p2 &&& (7 : Int32))) - (3 : Int32)).toInt16.toInt32)) :
    Con l Z (⟨"com/example/rolling_quorum/rollingquorum/protocol/ApiKey", "supports", "(S)Z"⟩ : MethodName) prog_29_method_8_code 2 (some .boolean) ({ frames := 0, cells := 0, slots := 0, locals := 0 } : Room) #[(.ref w_ApiKey_METADATA), (.int ((((0 : Int32) + (p2 &&& (7 : Int32))) - (3 : Int32)).toInt16.toInt32))] Z.heap (fun v h' L => v = some (.int 0) ∧ h' = Z.heap ∧ L = []) := by
  have hw := B.1
  obtain ⟨S_w_ApiKey_PRODUCE, E_w_ApiKey_PRODUCE, S_w_ApiKey_FETCH, E_w_ApiKey_FETCH, S_w_ApiKey_LIST_OFFSETS, E_w_ApiKey_LIST_OFFSETS, S_w_ApiKey_OFFSET_FOR_LEADER_EPOCH, E_w_ApiKey_OFFSET_FOR_LEADER_EPOCH, S_w_ApiKey_METADATA, E_w_ApiKey_METADATA, S_w_ApiKey_API_VERSIONS, E_w_ApiKey_API_VERSIONS, F_w_ApiKey_PRODUCE_minVersion, F_w_ApiKey_FETCH_minVersion, F_w_ApiKey_LIST_OFFSETS_minVersion, F_w_ApiKey_LIST_OFFSETS_maxVersion, F_w_ApiKey_OFFSET_FOR_LEADER_EPOCH_minVersion, F_w_ApiKey_OFFSET_FOR_LEADER_EPOCH_maxVersion, F_w_ApiKey_FETCH_maxVersion, F_w_ApiKey_METADATA_minVersion, F_w_ApiKey_API_VERSIONS_minVersion, F_w_ApiKey_API_VERSIONS_maxVersion, F_w_ApiKey_PRODUCE_maxVersion, F_w_ApiKey_METADATA_maxVersion⟩ := B.2
  refine Con.of (plainFor_of_name pn1) (Ls := #[vR w_ApiKey_METADATA, vI ((((0 : Int32) + (p2 &&& (7 : Int32))) - (3 : Int32)).toInt16.toInt32)]) (fun m => by first | rfl | (simp [entryFrame, mkF, argsToLocals, Value.category]; done)) ?_
  intro p e s m below meth c T0 X0 H hml hZ hown hnm hret hlk e0
  refine gIloadN X0 H d1_0 rfl 1 rfl ?_
  refine gAloadN X0 H d1_1 rfl rfl 2 rfl ?_
  refine gGetF X0 H hZ hown (hw _ wd9) Via.refl e0 F_w_ApiKey_METADATA_minVersion d1_2 5 rfl ?_
  intro T154 X154 e154
  refine gCmpN X154 H d1_5 (flt hk1).1 8 rfl ?_
  refine gIloadN X154 H d1_8 rfl 9 rfl ?_
  refine gAloadN X154 H d1_9 rfl rfl 10 rfl ?_
  refine gGetF X154 H hZ hown (hw _ wd15) Via.refl e154 F_w_ApiKey_METADATA_maxVersion d1_10 13 rfl ?_
  intro T155 X155 e155
  refine gCmpY X155 H d1_13 (tlt hk2).2.2.1 (by decide) 20 rfl ?_
  refine gIconst X155 H d1_20 (z := 0) rfl 21 rfl ?_
  exact gRetN X155 H hlk hret (t := .boolean) (by simp) d1_21 e155 ⟨rfl, rfl, rfl⟩
theorem rm160_1 (B : Bg Z a0 w_ApiKey_PRODUCE w_ApiKey_FETCH w_ApiKey_LIST_OFFSETS w_ApiKey_OFFSET_FOR_LEADER_EPOCH w_ApiKey_METADATA w_ApiKey_API_VERSIONS) (p2 : Int32) (hk1 : ¬ (((((0 : Int32) + (p2 &&& (7 : Int32))) - (3 : Int32)).toInt16.toInt32) < (0 : Int32))) (hk2 : ¬ ((4 : Int32) < ((((0 : Int32) + (p2 &&& (7 : Int32))) - (3 : Int32)).toInt16.toInt32))) :
    Con l Z (⟨"com/example/rolling_quorum/rollingquorum/protocol/ApiKey", "supports", "(S)Z"⟩ : MethodName) prog_29_method_8_code 2 (some .boolean) ({ frames := 0, cells := 0, slots := 0, locals := 0 } : Room) #[(.ref w_ApiKey_METADATA), (.int ((((0 : Int32) + (p2 &&& (7 : Int32))) - (3 : Int32)).toInt16.toInt32))] Z.heap (fun v h' L => v = some (.int 1) ∧ h' = Z.heap ∧ L = []) := by
  have hw := B.1
  obtain ⟨S_w_ApiKey_PRODUCE, E_w_ApiKey_PRODUCE, S_w_ApiKey_FETCH, E_w_ApiKey_FETCH, S_w_ApiKey_LIST_OFFSETS, E_w_ApiKey_LIST_OFFSETS, S_w_ApiKey_OFFSET_FOR_LEADER_EPOCH, E_w_ApiKey_OFFSET_FOR_LEADER_EPOCH, S_w_ApiKey_METADATA, E_w_ApiKey_METADATA, S_w_ApiKey_API_VERSIONS, E_w_ApiKey_API_VERSIONS, F_w_ApiKey_PRODUCE_minVersion, F_w_ApiKey_FETCH_minVersion, F_w_ApiKey_LIST_OFFSETS_minVersion, F_w_ApiKey_LIST_OFFSETS_maxVersion, F_w_ApiKey_OFFSET_FOR_LEADER_EPOCH_minVersion, F_w_ApiKey_OFFSET_FOR_LEADER_EPOCH_maxVersion, F_w_ApiKey_FETCH_maxVersion, F_w_ApiKey_METADATA_minVersion, F_w_ApiKey_API_VERSIONS_minVersion, F_w_ApiKey_API_VERSIONS_maxVersion, F_w_ApiKey_PRODUCE_maxVersion, F_w_ApiKey_METADATA_maxVersion⟩ := B.2
  refine Con.of (plainFor_of_name pn1) (Ls := #[vR w_ApiKey_METADATA, vI ((((0 : Int32) + (p2 &&& (7 : Int32))) - (3 : Int32)).toInt16.toInt32)]) (fun m => by first | rfl | (simp [entryFrame, mkF, argsToLocals, Value.category]; done)) ?_
  intro p e s m below meth c T0 X0 H hml hZ hown hnm hret hlk e0
  refine gIloadN X0 H d1_0 rfl 1 rfl ?_
  refine gAloadN X0 H d1_1 rfl rfl 2 rfl ?_
  refine gGetF X0 H hZ hown (hw _ wd9) Via.refl e0 F_w_ApiKey_METADATA_minVersion d1_2 5 rfl ?_
  intro T158 X158 e158
  refine gCmpN X158 H d1_5 (flt hk1).1 8 rfl ?_
  refine gIloadN X158 H d1_8 rfl 9 rfl ?_
  refine gAloadN X158 H d1_9 rfl rfl 10 rfl ?_
  refine gGetF X158 H hZ hown (hw _ wd15) Via.refl e158 F_w_ApiKey_METADATA_maxVersion d1_10 13 rfl ?_
  intro T159 X159 e159
  refine gCmpN X159 H d1_13 (flt hk2).2.2.1 16 rfl ?_
  refine gIconst X159 H d1_16 (z := 1) rfl 17 rfl ?_
  refine gGoto X159 H d1_17 (by decide) 21 rfl ?_
  exact gRetN X159 H hlk hret (t := .boolean) (by simp) d1_21 e159 ⟨rfl, rfl, rfl⟩
theorem rm166_1 (B : Bg Z a0 w_ApiKey_PRODUCE w_ApiKey_FETCH w_ApiKey_LIST_OFFSETS w_ApiKey_OFFSET_FOR_LEADER_EPOCH w_ApiKey_METADATA w_ApiKey_API_VERSIONS) (p2 : Int32) (hk2 : ((((4 : Int32) + (p2 &&& (7 : Int32))) - (4 : Int32)).toInt16.toInt32) < (0 : Int32)) :
    Con l Z (⟨"com/example/rolling_quorum/rollingquorum/protocol/ApiKey", "supports", "(S)Z"⟩ : MethodName) prog_29_method_8_code 2 (some .boolean) ({ frames := 0, cells := 0, slots := 0, locals := 0 } : Room) #[(.ref w_ApiKey_METADATA), (.int ((((4 : Int32) + (p2 &&& (7 : Int32))) - (4 : Int32)).toInt16.toInt32))] Z.heap (fun v h' L => v = some (.int 0) ∧ h' = Z.heap ∧ L = []) := by
  have hw := B.1
  obtain ⟨S_w_ApiKey_PRODUCE, E_w_ApiKey_PRODUCE, S_w_ApiKey_FETCH, E_w_ApiKey_FETCH, S_w_ApiKey_LIST_OFFSETS, E_w_ApiKey_LIST_OFFSETS, S_w_ApiKey_OFFSET_FOR_LEADER_EPOCH, E_w_ApiKey_OFFSET_FOR_LEADER_EPOCH, S_w_ApiKey_METADATA, E_w_ApiKey_METADATA, S_w_ApiKey_API_VERSIONS, E_w_ApiKey_API_VERSIONS, F_w_ApiKey_PRODUCE_minVersion, F_w_ApiKey_FETCH_minVersion, F_w_ApiKey_LIST_OFFSETS_minVersion, F_w_ApiKey_LIST_OFFSETS_maxVersion, F_w_ApiKey_OFFSET_FOR_LEADER_EPOCH_minVersion, F_w_ApiKey_OFFSET_FOR_LEADER_EPOCH_maxVersion, F_w_ApiKey_FETCH_maxVersion, F_w_ApiKey_METADATA_minVersion, F_w_ApiKey_API_VERSIONS_minVersion, F_w_ApiKey_API_VERSIONS_maxVersion, F_w_ApiKey_PRODUCE_maxVersion, F_w_ApiKey_METADATA_maxVersion⟩ := B.2
  refine Con.of (plainFor_of_name pn1) (Ls := #[vR w_ApiKey_METADATA, vI ((((4 : Int32) + (p2 &&& (7 : Int32))) - (4 : Int32)).toInt16.toInt32)]) (fun m => by first | rfl | (simp [entryFrame, mkF, argsToLocals, Value.category]; done)) ?_
  intro p e s m below meth c T0 X0 H hml hZ hown hnm hret hlk e0
  refine gIloadN X0 H d1_0 rfl 1 rfl ?_
  refine gAloadN X0 H d1_1 rfl rfl 2 rfl ?_
  refine gGetF X0 H hZ hown (hw _ wd9) Via.refl e0 F_w_ApiKey_METADATA_minVersion d1_2 5 rfl ?_
  intro T165 X165 e165
  refine gCmpY X165 H d1_5 (tlt hk2).1 (by decide) 20 rfl ?_
  refine gIconst X165 H d1_20 (z := 0) rfl 21 rfl ?_
  exact gRetN X165 H hlk hret (t := .boolean) (by simp) d1_21 e165 ⟨rfl, rfl, rfl⟩
theorem rm172_1 (B : Bg Z a0 w_ApiKey_PRODUCE w_ApiKey_FETCH w_ApiKey_LIST_OFFSETS w_ApiKey_OFFSET_FOR_LEADER_EPOCH w_ApiKey_METADATA w_ApiKey_API_VERSIONS) (p2 : Int32) (hk2 : ¬ (((((4 : Int32) + (p2 &&& (7 : Int32))) - (4 : Int32)).toInt16.toInt32) < (0 : Int32))) (hk3 : (4 : Int32) < ((((4 : Int32) + (p2 &&& (7 : Int32))) - (4 : Int32)).toInt16.toInt32)) :
    Con l Z (⟨"com/example/rolling_quorum/rollingquorum/protocol/ApiKey", "supports", "(S)Z"⟩ : MethodName) prog_29_method_8_code 2 (some .boolean) ({ frames := 0, cells := 0, slots := 0, locals := 0 } : Room) #[(.ref w_ApiKey_METADATA), (.int ((((4 : Int32) + (p2 &&& (7 : Int32))) - (4 : Int32)).toInt16.toInt32))] Z.heap (fun v h' L => v = some (.int 0) ∧ h' = Z.heap ∧ L = []) := by
  have hw := B.1
  obtain ⟨S_w_ApiKey_PRODUCE, E_w_ApiKey_PRODUCE, S_w_ApiKey_FETCH, E_w_ApiKey_FETCH, S_w_ApiKey_LIST_OFFSETS, E_w_ApiKey_LIST_OFFSETS, S_w_ApiKey_OFFSET_FOR_LEADER_EPOCH, E_w_ApiKey_OFFSET_FOR_LEADER_EPOCH, S_w_ApiKey_METADATA, E_w_ApiKey_METADATA, S_w_ApiKey_API_VERSIONS, E_w_ApiKey_API_VERSIONS, F_w_ApiKey_PRODUCE_minVersion, F_w_ApiKey_FETCH_minVersion, F_w_ApiKey_LIST_OFFSETS_minVersion, F_w_ApiKey_LIST_OFFSETS_maxVersion, F_w_ApiKey_OFFSET_FOR_LEADER_EPOCH_minVersion, F_w_ApiKey_OFFSET_FOR_LEADER_EPOCH_maxVersion, F_w_ApiKey_FETCH_maxVersion, F_w_ApiKey_METADATA_minVersion, F_w_ApiKey_API_VERSIONS_minVersion, F_w_ApiKey_API_VERSIONS_maxVersion, F_w_ApiKey_PRODUCE_maxVersion, F_w_ApiKey_METADATA_maxVersion⟩ := B.2
  refine Con.of (plainFor_of_name pn1) (Ls := #[vR w_ApiKey_METADATA, vI ((((4 : Int32) + (p2 &&& (7 : Int32))) - (4 : Int32)).toInt16.toInt32)]) (fun m => by first | rfl | (simp [entryFrame, mkF, argsToLocals, Value.category]; done)) ?_
  intro p e s m below meth c T0 X0 H hml hZ hown hnm hret hlk e0
  refine gIloadN X0 H d1_0 rfl 1 rfl ?_
  refine gAloadN X0 H d1_1 rfl rfl 2 rfl ?_
  refine gGetF X0 H hZ hown (hw _ wd9) Via.refl e0 F_w_ApiKey_METADATA_minVersion d1_2 5 rfl ?_
  intro T170 X170 e170
  refine gCmpN X170 H d1_5 (flt hk2).1 8 rfl ?_
  refine gIloadN X170 H d1_8 rfl 9 rfl ?_
  refine gAloadN X170 H d1_9 rfl rfl 10 rfl ?_
  refine gGetF X170 H hZ hown (hw _ wd15) Via.refl e170 F_w_ApiKey_METADATA_maxVersion d1_10 13 rfl ?_
  intro T171 X171 e171
  refine gCmpY X171 H d1_13 (tlt hk3).2.2.1 (by decide) 20 rfl ?_
  refine gIconst X171 H d1_20 (z := 0) rfl 21 rfl ?_
  exact gRetN X171 H hlk hret (t := .boolean) (by simp) d1_21 e171 ⟨rfl, rfl, rfl⟩
theorem rm176_1 (B : Bg Z a0 w_ApiKey_PRODUCE w_ApiKey_FETCH w_ApiKey_LIST_OFFSETS w_ApiKey_OFFSET_FOR_LEADER_EPOCH w_ApiKey_METADATA w_ApiKey_API_VERSIONS) (p2 : Int32) (hk2 : ¬ (((((4 : Int32) + (p2 &&& (7 : Int32))) - (4 : Int32)).toInt16.toInt32) < (0 : Int32))) (hk3 : ¬ ((4 : Int32) < ((((4 : Int32) + (p2 &&& (7 : Int32))) - (4 : Int32)).toInt16.toInt32))) :
    Con l Z (⟨"com/example/rolling_quorum/rollingquorum/protocol/ApiKey", "supports", "(S)Z"⟩ : MethodName) prog_29_method_8_code 2 (some .boolean) ({ frames := 0, cells := 0, slots := 0, locals := 0 } : Room) #[(.ref w_ApiKey_METADATA), (.int ((((4 : Int32) + (p2 &&& (7 : Int32))) - (4 : Int32)).toInt16.toInt32))] Z.heap (fun v h' L => v = some (.int 1) ∧ h' = Z.heap ∧ L = []) := by
  have hw := B.1
  obtain ⟨S_w_ApiKey_PRODUCE, E_w_ApiKey_PRODUCE, S_w_ApiKey_FETCH, E_w_ApiKey_FETCH, S_w_ApiKey_LIST_OFFSETS, E_w_ApiKey_LIST_OFFSETS, S_w_ApiKey_OFFSET_FOR_LEADER_EPOCH, E_w_ApiKey_OFFSET_FOR_LEADER_EPOCH, S_w_ApiKey_METADATA, E_w_ApiKey_METADATA, S_w_ApiKey_API_VERSIONS, E_w_ApiKey_API_VERSIONS, F_w_ApiKey_PRODUCE_minVersion, F_w_ApiKey_FETCH_minVersion, F_w_ApiKey_LIST_OFFSETS_minVersion, F_w_ApiKey_LIST_OFFSETS_maxVersion, F_w_ApiKey_OFFSET_FOR_LEADER_EPOCH_minVersion, F_w_ApiKey_OFFSET_FOR_LEADER_EPOCH_maxVersion, F_w_ApiKey_FETCH_maxVersion, F_w_ApiKey_METADATA_minVersion, F_w_ApiKey_API_VERSIONS_minVersion, F_w_ApiKey_API_VERSIONS_maxVersion, F_w_ApiKey_PRODUCE_maxVersion, F_w_ApiKey_METADATA_maxVersion⟩ := B.2
  refine Con.of (plainFor_of_name pn1) (Ls := #[vR w_ApiKey_METADATA, vI ((((4 : Int32) + (p2 &&& (7 : Int32))) - (4 : Int32)).toInt16.toInt32)]) (fun m => by first | rfl | (simp [entryFrame, mkF, argsToLocals, Value.category]; done)) ?_
  intro p e s m below meth c T0 X0 H hml hZ hown hnm hret hlk e0
  refine gIloadN X0 H d1_0 rfl 1 rfl ?_
  refine gAloadN X0 H d1_1 rfl rfl 2 rfl ?_
  refine gGetF X0 H hZ hown (hw _ wd9) Via.refl e0 F_w_ApiKey_METADATA_minVersion d1_2 5 rfl ?_
  intro T174 X174 e174
  refine gCmpN X174 H d1_5 (flt hk2).1 8 rfl ?_
  refine gIloadN X174 H d1_8 rfl 9 rfl ?_
  refine gAloadN X174 H d1_9 rfl rfl 10 rfl ?_
  refine gGetF X174 H hZ hown (hw _ wd15) Via.refl e174 F_w_ApiKey_METADATA_maxVersion d1_10 13 rfl ?_
  intro T175 X175 e175
  refine gCmpN X175 H d1_13 (flt hk3).2.2.1 16 rfl ?_
  refine gIconst X175 H d1_16 (z := 1) rfl 17 rfl ?_
  refine gGoto X175 H d1_17 (by decide) 21 rfl ?_
  exact gRetN X175 H hlk hret (t := .boolean) (by simp) d1_21 e175 ⟨rfl, rfl, rfl⟩
theorem rm181_1 (B : Bg Z a0 w_ApiKey_PRODUCE w_ApiKey_FETCH w_ApiKey_LIST_OFFSETS w_ApiKey_OFFSET_FOR_LEADER_EPOCH w_ApiKey_METADATA w_ApiKey_API_VERSIONS) (p2 : Int32) (hk2 : (p2.toInt16.toInt32) < (0 : Int32)) :
    Con l Z (⟨"com/example/rolling_quorum/rollingquorum/protocol/ApiKey", "supports", "(S)Z"⟩ : MethodName) prog_29_method_8_code 2 (some .boolean) ({ frames := 0, cells := 0, slots := 0, locals := 0 } : Room) #[(.ref w_ApiKey_METADATA), (.int (p2.toInt16.toInt32))] Z.heap (fun v h' L => v = some (.int 0) ∧ h' = Z.heap ∧ L = []) := by
  have hw := B.1
  obtain ⟨S_w_ApiKey_PRODUCE, E_w_ApiKey_PRODUCE, S_w_ApiKey_FETCH, E_w_ApiKey_FETCH, S_w_ApiKey_LIST_OFFSETS, E_w_ApiKey_LIST_OFFSETS, S_w_ApiKey_OFFSET_FOR_LEADER_EPOCH, E_w_ApiKey_OFFSET_FOR_LEADER_EPOCH, S_w_ApiKey_METADATA, E_w_ApiKey_METADATA, S_w_ApiKey_API_VERSIONS, E_w_ApiKey_API_VERSIONS, F_w_ApiKey_PRODUCE_minVersion, F_w_ApiKey_FETCH_minVersion, F_w_ApiKey_LIST_OFFSETS_minVersion, F_w_ApiKey_LIST_OFFSETS_maxVersion, F_w_ApiKey_OFFSET_FOR_LEADER_EPOCH_minVersion, F_w_ApiKey_OFFSET_FOR_LEADER_EPOCH_maxVersion, F_w_ApiKey_FETCH_maxVersion, F_w_ApiKey_METADATA_minVersion, F_w_ApiKey_API_VERSIONS_minVersion, F_w_ApiKey_API_VERSIONS_maxVersion, F_w_ApiKey_PRODUCE_maxVersion, F_w_ApiKey_METADATA_maxVersion⟩ := B.2
  refine Con.of (plainFor_of_name pn1) (Ls := #[vR w_ApiKey_METADATA, vI (p2.toInt16.toInt32)]) (fun m => by first | rfl | (simp [entryFrame, mkF, argsToLocals, Value.category]; done)) ?_
  intro p e s m below meth c T0 X0 H hml hZ hown hnm hret hlk e0
  refine gIloadN X0 H d1_0 rfl 1 rfl ?_
  refine gAloadN X0 H d1_1 rfl rfl 2 rfl ?_
  refine gGetF X0 H hZ hown (hw _ wd9) Via.refl e0 F_w_ApiKey_METADATA_minVersion d1_2 5 rfl ?_
  intro T180 X180 e180
  refine gCmpY X180 H d1_5 (tlt hk2).1 (by decide) 20 rfl ?_
  refine gIconst X180 H d1_20 (z := 0) rfl 21 rfl ?_
  exact gRetN X180 H hlk hret (t := .boolean) (by simp) d1_21 e180 ⟨rfl, rfl, rfl⟩
theorem rm187_1 (B : Bg Z a0 w_ApiKey_PRODUCE w_ApiKey_FETCH w_ApiKey_LIST_OFFSETS w_ApiKey_OFFSET_FOR_LEADER_EPOCH w_ApiKey_METADATA w_ApiKey_API_VERSIONS) (p2 : Int32) (hk2 : ¬ ((p2.toInt16.toInt32) < (0 : Int32))) (hk3 : (4 : Int32) < (p2.toInt16.toInt32)) :
    Con l Z (⟨"com/example/rolling_quorum/rollingquorum/protocol/ApiKey", "supports", "(S)Z"⟩ : MethodName) prog_29_method_8_code 2 (some .boolean) ({ frames := 0, cells := 0, slots := 0, locals := 0 } : Room) #[(.ref w_ApiKey_METADATA), (.int (p2.toInt16.toInt32))] Z.heap (fun v h' L => v = some (.int 0) ∧ h' = Z.heap ∧ L = []) := by
  have hw := B.1
  obtain ⟨S_w_ApiKey_PRODUCE, E_w_ApiKey_PRODUCE, S_w_ApiKey_FETCH, E_w_ApiKey_FETCH, S_w_ApiKey_LIST_OFFSETS, E_w_ApiKey_LIST_OFFSETS, S_w_ApiKey_OFFSET_FOR_LEADER_EPOCH, E_w_ApiKey_OFFSET_FOR_LEADER_EPOCH, S_w_ApiKey_METADATA, E_w_ApiKey_METADATA, S_w_ApiKey_API_VERSIONS, E_w_ApiKey_API_VERSIONS, F_w_ApiKey_PRODUCE_minVersion, F_w_ApiKey_FETCH_minVersion, F_w_ApiKey_LIST_OFFSETS_minVersion, F_w_ApiKey_LIST_OFFSETS_maxVersion, F_w_ApiKey_OFFSET_FOR_LEADER_EPOCH_minVersion, F_w_ApiKey_OFFSET_FOR_LEADER_EPOCH_maxVersion, F_w_ApiKey_FETCH_maxVersion, F_w_ApiKey_METADATA_minVersion, F_w_ApiKey_API_VERSIONS_minVersion, F_w_ApiKey_API_VERSIONS_maxVersion, F_w_ApiKey_PRODUCE_maxVersion, F_w_ApiKey_METADATA_maxVersion⟩ := B.2
  refine Con.of (plainFor_of_name pn1) (Ls := #[vR w_ApiKey_METADATA, vI (p2.toInt16.toInt32)]) (fun m => by first | rfl | (simp [entryFrame, mkF, argsToLocals, Value.category]; done)) ?_
  intro p e s m below meth c T0 X0 H hml hZ hown hnm hret hlk e0
  refine gIloadN X0 H d1_0 rfl 1 rfl ?_
  refine gAloadN X0 H d1_1 rfl rfl 2 rfl ?_
  refine gGetF X0 H hZ hown (hw _ wd9) Via.refl e0 F_w_ApiKey_METADATA_minVersion d1_2 5 rfl ?_
  intro T185 X185 e185
  refine gCmpN X185 H d1_5 (flt hk2).1 8 rfl ?_
  refine gIloadN X185 H d1_8 rfl 9 rfl ?_
  refine gAloadN X185 H d1_9 rfl rfl 10 rfl ?_
  refine gGetF X185 H hZ hown (hw _ wd15) Via.refl e185 F_w_ApiKey_METADATA_maxVersion d1_10 13 rfl ?_
  intro T186 X186 e186
  refine gCmpY X186 H d1_13 (tlt hk3).2.2.1 (by decide) 20 rfl ?_
  refine gIconst X186 H d1_20 (z := 0) rfl 21 rfl ?_
  exact gRetN X186 H hlk hret (t := .boolean) (by simp) d1_21 e186 ⟨rfl, rfl, rfl⟩
theorem rm191_1 (B : Bg Z a0 w_ApiKey_PRODUCE w_ApiKey_FETCH w_ApiKey_LIST_OFFSETS w_ApiKey_OFFSET_FOR_LEADER_EPOCH w_ApiKey_METADATA w_ApiKey_API_VERSIONS) (p2 : Int32) (hk2 : ¬ ((p2.toInt16.toInt32) < (0 : Int32))) (hk3 : ¬ ((4 : Int32) < (p2.toInt16.toInt32))) :
    Con l Z (⟨"com/example/rolling_quorum/rollingquorum/protocol/ApiKey", "supports", "(S)Z"⟩ : MethodName) prog_29_method_8_code 2 (some .boolean) ({ frames := 0, cells := 0, slots := 0, locals := 0 } : Room) #[(.ref w_ApiKey_METADATA), (.int (p2.toInt16.toInt32))] Z.heap (fun v h' L => v = some (.int 1) ∧ h' = Z.heap ∧ L = []) := by
  have hw := B.1
  obtain ⟨S_w_ApiKey_PRODUCE, E_w_ApiKey_PRODUCE, S_w_ApiKey_FETCH, E_w_ApiKey_FETCH, S_w_ApiKey_LIST_OFFSETS, E_w_ApiKey_LIST_OFFSETS, S_w_ApiKey_OFFSET_FOR_LEADER_EPOCH, E_w_ApiKey_OFFSET_FOR_LEADER_EPOCH, S_w_ApiKey_METADATA, E_w_ApiKey_METADATA, S_w_ApiKey_API_VERSIONS, E_w_ApiKey_API_VERSIONS, F_w_ApiKey_PRODUCE_minVersion, F_w_ApiKey_FETCH_minVersion, F_w_ApiKey_LIST_OFFSETS_minVersion, F_w_ApiKey_LIST_OFFSETS_maxVersion, F_w_ApiKey_OFFSET_FOR_LEADER_EPOCH_minVersion, F_w_ApiKey_OFFSET_FOR_LEADER_EPOCH_maxVersion, F_w_ApiKey_FETCH_maxVersion, F_w_ApiKey_METADATA_minVersion, F_w_ApiKey_API_VERSIONS_minVersion, F_w_ApiKey_API_VERSIONS_maxVersion, F_w_ApiKey_PRODUCE_maxVersion, F_w_ApiKey_METADATA_maxVersion⟩ := B.2
  refine Con.of (plainFor_of_name pn1) (Ls := #[vR w_ApiKey_METADATA, vI (p2.toInt16.toInt32)]) (fun m => by first | rfl | (simp [entryFrame, mkF, argsToLocals, Value.category]; done)) ?_
  intro p e s m below meth c T0 X0 H hml hZ hown hnm hret hlk e0
  refine gIloadN X0 H d1_0 rfl 1 rfl ?_
  refine gAloadN X0 H d1_1 rfl rfl 2 rfl ?_
  refine gGetF X0 H hZ hown (hw _ wd9) Via.refl e0 F_w_ApiKey_METADATA_minVersion d1_2 5 rfl ?_
  intro T189 X189 e189
  refine gCmpN X189 H d1_5 (flt hk2).1 8 rfl ?_
  refine gIloadN X189 H d1_8 rfl 9 rfl ?_
  refine gAloadN X189 H d1_9 rfl rfl 10 rfl ?_
  refine gGetF X189 H hZ hown (hw _ wd15) Via.refl e189 F_w_ApiKey_METADATA_maxVersion d1_10 13 rfl ?_
  intro T190 X190 e190
  refine gCmpN X190 H d1_13 (flt hk3).2.2.1 16 rfl ?_
  refine gIconst X190 H d1_16 (z := 1) rfl 17 rfl ?_
  refine gGoto X190 H d1_17 (by decide) 21 rfl ?_
  exact gRetN X190 H hlk hret (t := .boolean) (by simp) d1_21 e190 ⟨rfl, rfl, rfl⟩
theorem lawAll_3 (B : Bg Z a0 w_ApiKey_PRODUCE w_ApiKey_FETCH w_ApiKey_LIST_OFFSETS w_ApiKey_OFFSET_FOR_LEADER_EPOCH w_ApiKey_METADATA w_ApiKey_API_VERSIONS) (p0 : Int32) (p1 : Int32) (p2 : Int32) (ha0 : ((p0 &&& (2147483647 : Int32)) % (6 : Int32)) = (3 : Int32)) :
    Con l Z x code maxLocals ret room_1 #[(.int p0), (.int p1), (.int p2)] Z.heap (fun v h' L => v = some (.int 1) ∧ Fr Z.heap.size L) := by
  have hw := B.1
  obtain ⟨S_w_ApiKey_PRODUCE, E_w_ApiKey_PRODUCE, S_w_ApiKey_FETCH, E_w_ApiKey_FETCH, S_w_ApiKey_LIST_OFFSETS, E_w_ApiKey_LIST_OFFSETS, S_w_ApiKey_OFFSET_FOR_LEADER_EPOCH, E_w_ApiKey_OFFSET_FOR_LEADER_EPOCH, S_w_ApiKey_METADATA, E_w_ApiKey_METADATA, S_w_ApiKey_API_VERSIONS, E_w_ApiKey_API_VERSIONS, F_w_ApiKey_PRODUCE_minVersion, F_w_ApiKey_FETCH_minVersion, F_w_ApiKey_LIST_OFFSETS_minVersion, F_w_ApiKey_LIST_OFFSETS_maxVersion, F_w_ApiKey_OFFSET_FOR_LEADER_EPOCH_minVersion, F_w_ApiKey_OFFSET_FOR_LEADER_EPOCH_maxVersion, F_w_ApiKey_FETCH_maxVersion, F_w_ApiKey_METADATA_minVersion, F_w_ApiKey_API_VERSIONS_minVersion, F_w_ApiKey_API_VERSIONS_maxVersion, F_w_ApiKey_PRODUCE_maxVersion, F_w_ApiKey_METADATA_maxVersion⟩ := B.2
  refine Con.of (plainFor_of_name pn0) (Ls := #[vI p0, vI p1, vI p2, .unset, .unset, .unset, .unset, .unset, .unset, .unset, .unset, .unset]) (fun m => by first | rfl | (simp [entryFrame, mkF, argsToLocals, Value.category, maxLocals]; done)) ?_
  intro p e s m below meth c T0 X0 H hml hZ hown hnm hret hlk e0
  refine gIloadN X0 H at_0 rfl 1 rfl ?_
  refine gLdc X0 H hZ hown (hw _ wd0) at_1 3 rfl ?_
  refine g_iand X0 H at_3 (z := (p0 &&& (2147483647 : Int32))) rfl 4 rfl ?_
  refine gBipush X0 H at_4 (z := 6) rfl 6 rfl ?_
  refine g_irem X0 H at_6 (by decide) (z := 3) ha0 7 rfl ?_
  refine gIstoreN X0 H at_7 (Ls' := #[vI p0, vI p1, vI p2, vI 3, .unset, .unset, .unset, .unset, .unset, .unset, .unset, .unset]) rfl 8 rfl ?_
  refine gIloadN X0 H at_8 rfl 9 rfl ?_
  refine gIfY X0 H at_9 (by decide) (by decide) 27 rfl ?_
  refine gIloadN X0 H at_27 rfl 28 rfl ?_
  refine gIconst X0 H at_28 (z := 1) rfl 29 rfl ?_
  refine gCmpY X0 H at_29 (by decide) (by decide) 47 rfl ?_
  refine gIloadN X0 H at_47 rfl 48 rfl ?_
  refine gIconst X0 H at_48 (z := 2) rfl 49 rfl ?_
  refine gCmpY X0 H at_49 (by decide) (by decide) 66 rfl ?_
  refine gIloadN X0 H at_66 rfl 67 rfl ?_
  refine gIconst X0 H at_67 (z := 3) rfl 68 rfl ?_
  refine gCmpN X0 H at_68 (by decide) 71 rfl ?_
  refine gGetS X0 H hZ hown (hw _ wd19) e0 S_w_ApiKey_METADATA at_71 74 rfl ?_
  intro T145 X145 e145
  refine gAstore X145 H at_74 rfl (Ls' := #[vI p0, vI p1, vI p2, vI 3, vR w_ApiKey_METADATA, .unset, .unset, .unset, .unset, .unset, .unset, .unset]) rfl 76 rfl ?_
  refine gIconst X145 H at_76 (z := 0) rfl 77 rfl ?_
  refine gIstore X145 H at_77 (Ls' := #[vI p0, vI p1, vI p2, vI 3, vR w_ApiKey_METADATA, vI 0, .unset, .unset, .unset, .unset, .unset, .unset]) rfl 79 rfl ?_
  refine gIconst X145 H at_79 (z := 4) rfl 80 rfl ?_
  refine gIstore X145 H at_80 (Ls' := #[vI p0, vI p1, vI p2, vI 3, vR w_ApiKey_METADATA, vI 0, vI 4, .unset, .unset, .unset, .unset, .unset]) rfl 82 rfl ?_
  refine gGoto X145 H at_82 (by decide) 115 rfl ?_
  refine gIloadN X145 H at_115 rfl 116 rfl ?_
  refine gIconst X145 H at_116 (z := 3) rfl 117 rfl ?_
  refine g_iand X145 H at_117 (z := (p1 &&& (3 : Int32))) rfl 118 rfl ?_
  refine gIstore X145 H at_118 (Ls' := #[vI p0, vI p1, vI p2, vI 3, vR w_ApiKey_METADATA, vI 0, vI 4, vI (p1 &&& (3 : Int32)), .unset, .unset, .unset, .unset]) rfl 120 rfl ?_
  refine gIload X145 H at_120 rfl 122 rfl ?_
  refine gIconst X145 H at_122 (z := 1) rfl 123 rfl ?_
  by_cases hc146 : (p1 &&& (3 : Int32)) = (1 : Int32)
  · refine gCmpN X145 H at_123 (teq hc146).2 126 rfl ?_
    refine gIload X145 H at_126 rfl 128 rfl ?_
    refine gIloadN X145 H at_128 rfl 129 rfl ?_
    refine gBipush X145 H at_129 (z := 7) rfl 131 rfl ?_
    refine g_iand X145 H at_131 (z := (p2 &&& (7 : Int32))) rfl 132 rfl ?_
    refine g_iadd X145 H at_132 (z := ((0 : Int32) + (p2 &&& (7 : Int32)))) rfl 133 rfl ?_
    refine gIconst X145 H at_133 (z := 3) rfl 134 rfl ?_
    refine g_isub X145 H at_134 (z := (((0 : Int32) + (p2 &&& (7 : Int32))) - (3 : Int32))) rfl 135 rfl ?_
    refine g_i2s X145 H at_135 (z := ((((0 : Int32) + (p2 &&& (7 : Int32))) - (3 : Int32)).toInt16.toInt32)) rfl 136 rfl ?_
    refine gIstore X145 H at_136 (Ls' := #[vI p0, vI p1, vI p2, vI 3, vR w_ApiKey_METADATA, vI 0, vI 4, vI (p1 &&& (3 : Int32)), vI ((((0 : Int32) + (p2 &&& (7 : Int32))) - (3 : Int32)).toInt16.toInt32), .unset, .unset, .unset]) rfl 138 rfl ?_
    refine gGoto X145 H at_138 (by decide) 166 rfl ?_
    refine gIload X145 H at_166 rfl 168 rfl ?_
    refine gIload X145 H at_168 rfl 170 rfl ?_
    by_cases hc147 : ((((0 : Int32) + (p2 &&& (7 : Int32))) - (3 : Int32)).toInt16.toInt32) < (0 : Int32)
    · refine gCmpN X145 H at_170 (tlt hc147).2.1 173 rfl ?_
      refine gIconst X145 H at_173 (z := 1) rfl 174 rfl ?_
      refine gGoto X145 H at_174 (by decide) 178 rfl ?_
      refine gIstore X145 H at_178 (Ls' := #[vI p0, vI p1, vI p2, vI 3, vR w_ApiKey_METADATA, vI 0, vI 4, vI (p1 &&& (3 : Int32)), vI ((((0 : Int32) + (p2 &&& (7 : Int32))) - (3 : Int32)).toInt16.toInt32), vI 1, .unset, .unset]) rfl 180 rfl ?_
      refine gIload X145 H at_180 rfl 182 rfl ?_
      refine gIload X145 H at_182 rfl 184 rfl ?_
      by_cases hc148 : (4 : Int32) < ((((0 : Int32) + (p2 &&& (7 : Int32))) - (3 : Int32)).toInt16.toInt32)
      · refine gCmpN X145 H at_184 (tlt hc148).2.2.2 187 rfl ?_
        refine gIconst X145 H at_187 (z := 1) rfl 188 rfl ?_
        refine gGoto X145 H at_188 (by decide) 192 rfl ?_
        refine gIstore X145 H at_192 (Ls' := #[vI p0, vI p1, vI p2, vI 3, vR w_ApiKey_METADATA, vI 0, vI 4, vI (p1 &&& (3 : Int32)), vI ((((0 : Int32) + (p2 &&& (7 : Int32))) - (3 : Int32)).toInt16.toInt32), vI 1, vI 1, .unset]) rfl 194 rfl ?_
        refine gIload X145 H at_194 rfl 196 rfl ?_
        refine gIfY X145 H at_196 (by decide) (by decide) 208 rfl ?_
        refine gIconst X145 H at_208 (z := 0) rfl 209 rfl ?_
        refine gIstore X145 H at_209 (Ls' := #[vI p0, vI p1, vI p2, vI 3, vR w_ApiKey_METADATA, vI 0, vI 4, vI (p1 &&& (3 : Int32)), vI ((((0 : Int32) + (p2 &&& (7 : Int32))) - (3 : Int32)).toInt16.toInt32), vI 1, vI 1, vI 0]) rfl 211 rfl ?_
        refine gAload X145 H at_211 rfl rfl 213 rfl ?_
        refine gIload X145 H at_213 rfl 215 rfl ?_
        refine gVirt X145 H hZ hown (hw _ wd4) (hw _ wd5) (hw _ wd7) (hw _ wd6) (by decide) E_w_ApiKey_METADATA (hw _ wd8) (hw _ wd2) (rm150_1 B p2 hc147) e145 hml rfl pd0 rfl (W := 0) (argsL := [(.int ((((0 : Int32) + (p2 &&& (7 : Int32))) - (3 : Int32)).toInt16.toInt32))]) (rest := []) rfl rfl at_215 218 rfl ?_
        intro v151 T151 L151 hq151 X151
        obtain ⟨rfl, e151, rfl⟩ := hq151
        show Go _ _ _ _ (State.setTop _ (mkF _ 218 _ [(.int 0)]))
        refine gIload X151 H at_218 rfl 220 rfl ?_
        refine gCmpN X151 H at_220 (by decide) 223 rfl ?_
        refine gIconst X151 H at_223 (z := 1) rfl 224 rfl ?_
        refine gGoto X151 H at_224 (by decide) 228 rfl ?_
        exact gRetN X151 H hlk hret (t := .boolean) (by simp) at_228 e151 ⟨rfl, Fr.nil _⟩
      · refine gCmpY X145 H at_184 (flt hc148).2.2.2 (by decide) 191 rfl ?_
        refine gIconst X145 H at_191 (z := 0) rfl 192 rfl ?_
        refine gIstore X145 H at_192 (Ls' := #[vI p0, vI p1, vI p2, vI 3, vR w_ApiKey_METADATA, vI 0, vI 4, vI (p1 &&& (3 : Int32)), vI ((((0 : Int32) + (p2 &&& (7 : Int32))) - (3 : Int32)).toInt16.toInt32), vI 1, vI 0, .unset]) rfl 194 rfl ?_
        refine gIload X145 H at_194 rfl 196 rfl ?_
        refine gIfY X145 H at_196 (by decide) (by decide) 208 rfl ?_
        refine gIconst X145 H at_208 (z := 0) rfl 209 rfl ?_
        refine gIstore X145 H at_209 (Ls' := #[vI p0, vI p1, vI p2, vI 3, vR w_ApiKey_METADATA, vI 0, vI 4, vI (p1 &&& (3 : Int32)), vI ((((0 : Int32) + (p2 &&& (7 : Int32))) - (3 : Int32)).toInt16.toInt32), vI 1, vI 0, vI 0]) rfl 211 rfl ?_
        refine gAload X145 H at_211 rfl rfl 213 rfl ?_
        refine gIload X145 H at_213 rfl 215 rfl ?_
        refine gVirt X145 H hZ hown (hw _ wd4) (hw _ wd5) (hw _ wd7) (hw _ wd6) (by decide) E_w_ApiKey_METADATA (hw _ wd8) (hw _ wd2) (rm150_1 B p2 hc147) e145 hml rfl pd0 rfl (W := 0) (argsL := [(.int ((((0 : Int32) + (p2 &&& (7 : Int32))) - (3 : Int32)).toInt16.toInt32))]) (rest := []) rfl rfl at_215 218 rfl ?_
        intro v152 T152 L152 hq152 X152
        obtain ⟨rfl, e152, rfl⟩ := hq152
        show Go _ _ _ _ (State.setTop _ (mkF _ 218 _ [(.int 0)]))
        refine gIload X152 H at_218 rfl 220 rfl ?_
        refine gCmpN X152 H at_220 (by decide) 223 rfl ?_
        refine gIconst X152 H at_223 (z := 1) rfl 224 rfl ?_
        refine gGoto X152 H at_224 (by decide) 228 rfl ?_
        exact gRetN X152 H hlk hret (t := .boolean) (by simp) at_228 e152 ⟨rfl, Fr.nil _⟩
    · refine gCmpY X145 H at_170 (flt hc147).2.1 (by decide) 177 rfl ?_
      refine gIconst X145 H at_177 (z := 0) rfl 178 rfl ?_
      refine gIstore X145 H at_178 (Ls' := #[vI p0, vI p1, vI p2, vI 3, vR w_ApiKey_METADATA, vI 0, vI 4, vI (p1 &&& (3 : Int32)), vI ((((0 : Int32) + (p2 &&& (7 : Int32))) - (3 : Int32)).toInt16.toInt32), vI 0, .unset, .unset]) rfl 180 rfl ?_
      refine gIload X145 H at_180 rfl 182 rfl ?_
      refine gIload X145 H at_182 rfl 184 rfl ?_
      by_cases hc153 : (4 : Int32) < ((((0 : Int32) + (p2 &&& (7 : Int32))) - (3 : Int32)).toInt16.toInt32)
      · refine gCmpN X145 H at_184 (tlt hc153).2.2.2 187 rfl ?_
        refine gIconst X145 H at_187 (z := 1) rfl 188 rfl ?_
        refine gGoto X145 H at_188 (by decide) 192 rfl ?_
        refine gIstore X145 H at_192 (Ls' := #[vI p0, vI p1, vI p2, vI 3, vR w_ApiKey_METADATA, vI 0, vI 4, vI (p1 &&& (3 : Int32)), vI ((((0 : Int32) + (p2 &&& (7 : Int32))) - (3 : Int32)).toInt16.toInt32), vI 0, vI 1, .unset]) rfl 194 rfl ?_
        refine gIload X145 H at_194 rfl 196 rfl ?_
        refine gIfN X145 H at_196 (by decide) 199 rfl ?_
        refine gIload X145 H at_199 rfl 201 rfl ?_
        refine gIfY X145 H at_201 (by decide) (by decide) 208 rfl ?_
        refine gIconst X145 H at_208 (z := 0) rfl 209 rfl ?_
        refine gIstore X145 H at_209 (Ls' := #[vI p0, vI p1, vI p2, vI 3, vR w_ApiKey_METADATA, vI 0, vI 4, vI (p1 &&& (3 : Int32)), vI ((((0 : Int32) + (p2 &&& (7 : Int32))) - (3 : Int32)).toInt16.toInt32), vI 0, vI 1, vI 0]) rfl 211 rfl ?_
        refine gAload X145 H at_211 rfl rfl 213 rfl ?_
        refine gIload X145 H at_213 rfl 215 rfl ?_
        refine gVirt X145 H hZ hown (hw _ wd4) (hw _ wd5) (hw _ wd7) (hw _ wd6) (by decide) E_w_ApiKey_METADATA (hw _ wd8) (hw _ wd2) (rm156_1 B p2 hc147 hc153) e145 hml rfl pd0 rfl (W := 0) (argsL := [(.int ((((0 : Int32) + (p2 &&& (7 : Int32))) - (3 : Int32)).toInt16.toInt32))]) (rest := []) rfl rfl at_215 218 rfl ?_
        intro v157 T157 L157 hq157 X157
        obtain ⟨rfl, e157, rfl⟩ := hq157
        show Go _ _ _ _ (State.setTop _ (mkF _ 218 _ [(.int 0)]))
        refine gIload X157 H at_218 rfl 220 rfl ?_
        refine gCmpN X157 H at_220 (by decide) 223 rfl ?_
        refine gIconst X157 H at_223 (z := 1) rfl 224 rfl ?_
        refine gGoto X157 H at_224 (by decide) 228 rfl ?_
        exact gRetN X157 H hlk hret (t := .boolean) (by simp) at_228 e157 ⟨rfl, Fr.nil _⟩
      · refine gCmpY X145 H at_184 (flt hc153).2.2.2 (by decide) 191 rfl ?_
        refine gIconst X145 H at_191 (z := 0) rfl 192 rfl ?_
        refine gIstore X145 H at_192 (Ls' := #[vI p0, vI p1, vI p2, vI 3, vR w_ApiKey_METADATA, vI 0, vI 4, vI (p1 &&& (3 : Int32)), vI ((((0 : Int32) + (p2 &&& (7 : Int32))) - (3 : Int32)).toInt16.toInt32), vI 0, vI 0, .unset]) rfl 194 rfl ?_
        refine gIload X145 H at_194 rfl 196 rfl ?_
        refine gIfN X145 H at_196 (by decide) 199 rfl ?_
        refine gIload X145 H at_199 rfl 201 rfl ?_
        refine gIfN X145 H at_201 (by decide) 204 rfl ?_
        refine gIconst X145 H at_204 (z := 1) rfl 205 rfl ?_
        refine gGoto X145 H at_205 (by decide) 209 rfl ?_
        refine gIstore X145 H at_209 (Ls' := #[vI p0, vI p1, vI p2, vI 3, vR w_ApiKey_METADATA, vI 0, vI 4, vI (p1 &&& (3 : Int32)), vI ((((0 : Int32) + (p2 &&& (7 : Int32))) - (3 : Int32)).toInt16.toInt32), vI 0, vI 0, vI 1]) rfl 211 rfl ?_
        refine gAload X145 H at_211 rfl rfl 213 rfl ?_
        refine gIload X145 H at_213 rfl 215 rfl ?_
        refine gVirt X145 H hZ hown (hw _ wd4) (hw _ wd5) (hw _ wd7) (hw _ wd6) (by decide) E_w_ApiKey_METADATA (hw _ wd8) (hw _ wd2) (rm160_1 B p2 hc147 hc153) e145 hml rfl pd0 rfl (W := 0) (argsL := [(.int ((((0 : Int32) + (p2 &&& (7 : Int32))) - (3 : Int32)).toInt16.toInt32))]) (rest := []) rfl rfl at_215 218 rfl ?_
        intro v161 T161 L161 hq161 X161
        obtain ⟨rfl, e161, rfl⟩ := hq161
        show Go _ _ _ _ (State.setTop _ (mkF _ 218 _ [(.int 1)]))
        refine gIload X161 H at_218 rfl 220 rfl ?_
        refine gCmpN X161 H at_220 (by decide) 223 rfl ?_
        refine gIconst X161 H at_223 (z := 1) rfl 224 rfl ?_
        refine gGoto X161 H at_224 (by decide) 228 rfl ?_
        exact gRetN X161 H hlk hret (t := .boolean) (by simp) at_228 e161 ⟨rfl, Fr.nil _⟩
  · refine gCmpY X145 H at_123 (feq hc146).2 (by decide) 141 rfl ?_
    refine gIload X145 H at_141 rfl 143 rfl ?_
    refine gIconst X145 H at_143 (z := 2) rfl 144 rfl ?_
    by_cases hc162 : (p1 &&& (3 : Int32)) = (2 : Int32)
    · refine gCmpN X145 H at_144 (teq hc162).2 147 rfl ?_
      refine gIload X145 H at_147 rfl 149 rfl ?_
      refine gIloadN X145 H at_149 rfl 150 rfl ?_
      refine gBipush X145 H at_150 (z := 7) rfl 152 rfl ?_
      refine g_iand X145 H at_152 (z := (p2 &&& (7 : Int32))) rfl 153 rfl ?_
      refine g_iadd X145 H at_153 (z := ((4 : Int32) + (p2 &&& (7 : Int32)))) rfl 154 rfl ?_
      refine gIconst X145 H at_154 (z := 4) rfl 155 rfl ?_
      refine g_isub X145 H at_155 (z := (((4 : Int32) + (p2 &&& (7 : Int32))) - (4 : Int32))) rfl 156 rfl ?_
      refine g_i2s X145 H at_156 (z := ((((4 : Int32) + (p2 &&& (7 : Int32))) - (4 : Int32)).toInt16.toInt32)) rfl 157 rfl ?_
      refine gIstore X145 H at_157 (Ls' := #[vI p0, vI p1, vI p2, vI 3, vR w_ApiKey_METADATA, vI 0, vI 4, vI (p1 &&& (3 : Int32)), vI ((((4 : Int32) + (p2 &&& (7 : Int32))) - (4 : Int32)).toInt16.toInt32), .unset, .unset, .unset]) rfl 159 rfl ?_
      refine gGoto X145 H at_159 (by decide) 166 rfl ?_
      refine gIload X145 H at_166 rfl 168 rfl ?_
      refine gIload X145 H at_168 rfl 170 rfl ?_
      by_cases hc163 : ((((4 : Int32) + (p2 &&& (7 : Int32))) - (4 : Int32)).toInt16.toInt32) < (0 : Int32)
      · refine gCmpN X145 H at_170 (tlt hc163).2.1 173 rfl ?_
        refine gIconst X145 H at_173 (z := 1) rfl 174 rfl ?_
        refine gGoto X145 H at_174 (by decide) 178 rfl ?_
        refine gIstore X145 H at_178 (Ls' := #[vI p0, vI p1, vI p2, vI 3, vR w_ApiKey_METADATA, vI 0, vI 4, vI (p1 &&& (3 : Int32)), vI ((((4 : Int32) + (p2 &&& (7 : Int32))) - (4 : Int32)).toInt16.toInt32), vI 1, .unset, .unset]) rfl 180 rfl ?_
        refine gIload X145 H at_180 rfl 182 rfl ?_
        refine gIload X145 H at_182 rfl 184 rfl ?_
        by_cases hc164 : (4 : Int32) < ((((4 : Int32) + (p2 &&& (7 : Int32))) - (4 : Int32)).toInt16.toInt32)
        · refine gCmpN X145 H at_184 (tlt hc164).2.2.2 187 rfl ?_
          refine gIconst X145 H at_187 (z := 1) rfl 188 rfl ?_
          refine gGoto X145 H at_188 (by decide) 192 rfl ?_
          refine gIstore X145 H at_192 (Ls' := #[vI p0, vI p1, vI p2, vI 3, vR w_ApiKey_METADATA, vI 0, vI 4, vI (p1 &&& (3 : Int32)), vI ((((4 : Int32) + (p2 &&& (7 : Int32))) - (4 : Int32)).toInt16.toInt32), vI 1, vI 1, .unset]) rfl 194 rfl ?_
          refine gIload X145 H at_194 rfl 196 rfl ?_
          refine gIfY X145 H at_196 (by decide) (by decide) 208 rfl ?_
          refine gIconst X145 H at_208 (z := 0) rfl 209 rfl ?_
          refine gIstore X145 H at_209 (Ls' := #[vI p0, vI p1, vI p2, vI 3, vR w_ApiKey_METADATA, vI 0, vI 4, vI (p1 &&& (3 : Int32)), vI ((((4 : Int32) + (p2 &&& (7 : Int32))) - (4 : Int32)).toInt16.toInt32), vI 1, vI 1, vI 0]) rfl 211 rfl ?_
          refine gAload X145 H at_211 rfl rfl 213 rfl ?_
          refine gIload X145 H at_213 rfl 215 rfl ?_
          refine gVirt X145 H hZ hown (hw _ wd4) (hw _ wd5) (hw _ wd7) (hw _ wd6) (by decide) E_w_ApiKey_METADATA (hw _ wd8) (hw _ wd2) (rm166_1 B p2 hc163) e145 hml rfl pd0 rfl (W := 0) (argsL := [(.int ((((4 : Int32) + (p2 &&& (7 : Int32))) - (4 : Int32)).toInt16.toInt32))]) (rest := []) rfl rfl at_215 218 rfl ?_
          intro v167 T167 L167 hq167 X167
          obtain ⟨rfl, e167, rfl⟩ := hq167
          show Go _ _ _ _ (State.setTop _ (mkF _ 218 _ [(.int 0)]))
          refine gIload X167 H at_218 rfl 220 rfl ?_
          refine gCmpN X167 H at_220 (by decide) 223 rfl ?_
          refine gIconst X167 H at_223 (z := 1) rfl 224 rfl ?_
          refine gGoto X167 H at_224 (by decide) 228 rfl ?_
          exact gRetN X167 H hlk hret (t := .boolean) (by simp) at_228 e167 ⟨rfl, Fr.nil _⟩
        · refine gCmpY X145 H at_184 (flt hc164).2.2.2 (by decide) 191 rfl ?_
          refine gIconst X145 H at_191 (z := 0) rfl 192 rfl ?_
          refine gIstore X145 H at_192 (Ls' := #[vI p0, vI p1, vI p2, vI 3, vR w_ApiKey_METADATA, vI 0, vI 4, vI (p1 &&& (3 : Int32)), vI ((((4 : Int32) + (p2 &&& (7 : Int32))) - (4 : Int32)).toInt16.toInt32), vI 1, vI 0, .unset]) rfl 194 rfl ?_
          refine gIload X145 H at_194 rfl 196 rfl ?_
          refine gIfY X145 H at_196 (by decide) (by decide) 208 rfl ?_
          refine gIconst X145 H at_208 (z := 0) rfl 209 rfl ?_
          refine gIstore X145 H at_209 (Ls' := #[vI p0, vI p1, vI p2, vI 3, vR w_ApiKey_METADATA, vI 0, vI 4, vI (p1 &&& (3 : Int32)), vI ((((4 : Int32) + (p2 &&& (7 : Int32))) - (4 : Int32)).toInt16.toInt32), vI 1, vI 0, vI 0]) rfl 211 rfl ?_
          refine gAload X145 H at_211 rfl rfl 213 rfl ?_
          refine gIload X145 H at_213 rfl 215 rfl ?_
          refine gVirt X145 H hZ hown (hw _ wd4) (hw _ wd5) (hw _ wd7) (hw _ wd6) (by decide) E_w_ApiKey_METADATA (hw _ wd8) (hw _ wd2) (rm166_1 B p2 hc163) e145 hml rfl pd0 rfl (W := 0) (argsL := [(.int ((((4 : Int32) + (p2 &&& (7 : Int32))) - (4 : Int32)).toInt16.toInt32))]) (rest := []) rfl rfl at_215 218 rfl ?_
          intro v168 T168 L168 hq168 X168
          obtain ⟨rfl, e168, rfl⟩ := hq168
          show Go _ _ _ _ (State.setTop _ (mkF _ 218 _ [(.int 0)]))
          refine gIload X168 H at_218 rfl 220 rfl ?_
          refine gCmpN X168 H at_220 (by decide) 223 rfl ?_
          refine gIconst X168 H at_223 (z := 1) rfl 224 rfl ?_
          refine gGoto X168 H at_224 (by decide) 228 rfl ?_
          exact gRetN X168 H hlk hret (t := .boolean) (by simp) at_228 e168 ⟨rfl, Fr.nil _⟩
      · refine gCmpY X145 H at_170 (flt hc163).2.1 (by decide) 177 rfl ?_
        refine gIconst X145 H at_177 (z := 0) rfl 178 rfl ?_
        refine gIstore X145 H at_178 (Ls' := #[vI p0, vI p1, vI p2, vI 3, vR w_ApiKey_METADATA, vI 0, vI 4, vI (p1 &&& (3 : Int32)), vI ((((4 : Int32) + (p2 &&& (7 : Int32))) - (4 : Int32)).toInt16.toInt32), vI 0, .unset, .unset]) rfl 180 rfl ?_
        refine gIload X145 H at_180 rfl 182 rfl ?_
        refine gIload X145 H at_182 rfl 184 rfl ?_
        by_cases hc169 : (4 : Int32) < ((((4 : Int32) + (p2 &&& (7 : Int32))) - (4 : Int32)).toInt16.toInt32)
        · refine gCmpN X145 H at_184 (tlt hc169).2.2.2 187 rfl ?_
          refine gIconst X145 H at_187 (z := 1) rfl 188 rfl ?_
          refine gGoto X145 H at_188 (by decide) 192 rfl ?_
          refine gIstore X145 H at_192 (Ls' := #[vI p0, vI p1, vI p2, vI 3, vR w_ApiKey_METADATA, vI 0, vI 4, vI (p1 &&& (3 : Int32)), vI ((((4 : Int32) + (p2 &&& (7 : Int32))) - (4 : Int32)).toInt16.toInt32), vI 0, vI 1, .unset]) rfl 194 rfl ?_
          refine gIload X145 H at_194 rfl 196 rfl ?_
          refine gIfN X145 H at_196 (by decide) 199 rfl ?_
          refine gIload X145 H at_199 rfl 201 rfl ?_
          refine gIfY X145 H at_201 (by decide) (by decide) 208 rfl ?_
          refine gIconst X145 H at_208 (z := 0) rfl 209 rfl ?_
          refine gIstore X145 H at_209 (Ls' := #[vI p0, vI p1, vI p2, vI 3, vR w_ApiKey_METADATA, vI 0, vI 4, vI (p1 &&& (3 : Int32)), vI ((((4 : Int32) + (p2 &&& (7 : Int32))) - (4 : Int32)).toInt16.toInt32), vI 0, vI 1, vI 0]) rfl 211 rfl ?_
          refine gAload X145 H at_211 rfl rfl 213 rfl ?_
          refine gIload X145 H at_213 rfl 215 rfl ?_
          refine gVirt X145 H hZ hown (hw _ wd4) (hw _ wd5) (hw _ wd7) (hw _ wd6) (by decide) E_w_ApiKey_METADATA (hw _ wd8) (hw _ wd2) (rm172_1 B p2 hc163 hc169) e145 hml rfl pd0 rfl (W := 0) (argsL := [(.int ((((4 : Int32) + (p2 &&& (7 : Int32))) - (4 : Int32)).toInt16.toInt32))]) (rest := []) rfl rfl at_215 218 rfl ?_
          intro v173 T173 L173 hq173 X173
          obtain ⟨rfl, e173, rfl⟩ := hq173
          show Go _ _ _ _ (State.setTop _ (mkF _ 218 _ [(.int 0)]))
          refine gIload X173 H at_218 rfl 220 rfl ?_
          refine gCmpN X173 H at_220 (by decide) 223 rfl ?_
          refine gIconst X173 H at_223 (z := 1) rfl 224 rfl ?_
          refine gGoto X173 H at_224 (by decide) 228 rfl ?_
          exact gRetN X173 H hlk hret (t := .boolean) (by simp) at_228 e173 ⟨rfl, Fr.nil _⟩
        · refine gCmpY X145 H at_184 (flt hc169).2.2.2 (by decide) 191 rfl ?_
          refine gIconst X145 H at_191 (z := 0) rfl 192 rfl ?_
          refine gIstore X145 H at_192 (Ls' := #[vI p0, vI p1, vI p2, vI 3, vR w_ApiKey_METADATA, vI 0, vI 4, vI (p1 &&& (3 : Int32)), vI ((((4 : Int32) + (p2 &&& (7 : Int32))) - (4 : Int32)).toInt16.toInt32), vI 0, vI 0, .unset]) rfl 194 rfl ?_
          refine gIload X145 H at_194 rfl 196 rfl ?_
          refine gIfN X145 H at_196 (by decide) 199 rfl ?_
          refine gIload X145 H at_199 rfl 201 rfl ?_
          refine gIfN X145 H at_201 (by decide) 204 rfl ?_
          refine gIconst X145 H at_204 (z := 1) rfl 205 rfl ?_
          refine gGoto X145 H at_205 (by decide) 209 rfl ?_
          refine gIstore X145 H at_209 (Ls' := #[vI p0, vI p1, vI p2, vI 3, vR w_ApiKey_METADATA, vI 0, vI 4, vI (p1 &&& (3 : Int32)), vI ((((4 : Int32) + (p2 &&& (7 : Int32))) - (4 : Int32)).toInt16.toInt32), vI 0, vI 0, vI 1]) rfl 211 rfl ?_
          refine gAload X145 H at_211 rfl rfl 213 rfl ?_
          refine gIload X145 H at_213 rfl 215 rfl ?_
          refine gVirt X145 H hZ hown (hw _ wd4) (hw _ wd5) (hw _ wd7) (hw _ wd6) (by decide) E_w_ApiKey_METADATA (hw _ wd8) (hw _ wd2) (rm176_1 B p2 hc163 hc169) e145 hml rfl pd0 rfl (W := 0) (argsL := [(.int ((((4 : Int32) + (p2 &&& (7 : Int32))) - (4 : Int32)).toInt16.toInt32))]) (rest := []) rfl rfl at_215 218 rfl ?_
          intro v177 T177 L177 hq177 X177
          obtain ⟨rfl, e177, rfl⟩ := hq177
          show Go _ _ _ _ (State.setTop _ (mkF _ 218 _ [(.int 1)]))
          refine gIload X177 H at_218 rfl 220 rfl ?_
          refine gCmpN X177 H at_220 (by decide) 223 rfl ?_
          refine gIconst X177 H at_223 (z := 1) rfl 224 rfl ?_
          refine gGoto X177 H at_224 (by decide) 228 rfl ?_
          exact gRetN X177 H hlk hret (t := .boolean) (by simp) at_228 e177 ⟨rfl, Fr.nil _⟩
    · refine gCmpY X145 H at_144 (feq hc162).2 (by decide) 162 rfl ?_
      refine gIloadN X145 H at_162 rfl 163 rfl ?_
      refine g_i2s X145 H at_163 (z := (p2.toInt16.toInt32)) rfl 164 rfl ?_
      refine gIstore X145 H at_164 (Ls' := #[vI p0, vI p1, vI p2, vI 3, vR w_ApiKey_METADATA, vI 0, vI 4, vI (p1 &&& (3 : Int32)), vI (p2.toInt16.toInt32), .unset, .unset, .unset]) rfl 166 rfl ?_
      refine gIload X145 H at_166 rfl 168 rfl ?_
      refine gIload X145 H at_168 rfl 170 rfl ?_
      by_cases hc178 : (p2.toInt16.toInt32) < (0 : Int32)
      · refine gCmpN X145 H at_170 (tlt hc178).2.1 173 rfl ?_
        refine gIconst X145 H at_173 (z := 1) rfl 174 rfl ?_
        refine gGoto X145 H at_174 (by decide) 178 rfl ?_
        refine gIstore X145 H at_178 (Ls' := #[vI p0, vI p1, vI p2, vI 3, vR w_ApiKey_METADATA, vI 0, vI 4, vI (p1 &&& (3 : Int32)), vI (p2.toInt16.toInt32), vI 1, .unset, .unset]) rfl 180 rfl ?_
        refine gIload X145 H at_180 rfl 182 rfl ?_
        refine gIload X145 H at_182 rfl 184 rfl ?_
        by_cases hc179 : (4 : Int32) < (p2.toInt16.toInt32)
        · refine gCmpN X145 H at_184 (tlt hc179).2.2.2 187 rfl ?_
          refine gIconst X145 H at_187 (z := 1) rfl 188 rfl ?_
          refine gGoto X145 H at_188 (by decide) 192 rfl ?_
          refine gIstore X145 H at_192 (Ls' := #[vI p0, vI p1, vI p2, vI 3, vR w_ApiKey_METADATA, vI 0, vI 4, vI (p1 &&& (3 : Int32)), vI (p2.toInt16.toInt32), vI 1, vI 1, .unset]) rfl 194 rfl ?_
          refine gIload X145 H at_194 rfl 196 rfl ?_
          refine gIfY X145 H at_196 (by decide) (by decide) 208 rfl ?_
          refine gIconst X145 H at_208 (z := 0) rfl 209 rfl ?_
          refine gIstore X145 H at_209 (Ls' := #[vI p0, vI p1, vI p2, vI 3, vR w_ApiKey_METADATA, vI 0, vI 4, vI (p1 &&& (3 : Int32)), vI (p2.toInt16.toInt32), vI 1, vI 1, vI 0]) rfl 211 rfl ?_
          refine gAload X145 H at_211 rfl rfl 213 rfl ?_
          refine gIload X145 H at_213 rfl 215 rfl ?_
          refine gVirt X145 H hZ hown (hw _ wd4) (hw _ wd5) (hw _ wd7) (hw _ wd6) (by decide) E_w_ApiKey_METADATA (hw _ wd8) (hw _ wd2) (rm181_1 B p2 hc178) e145 hml rfl pd0 rfl (W := 0) (argsL := [(.int (p2.toInt16.toInt32))]) (rest := []) rfl rfl at_215 218 rfl ?_
          intro v182 T182 L182 hq182 X182
          obtain ⟨rfl, e182, rfl⟩ := hq182
          show Go _ _ _ _ (State.setTop _ (mkF _ 218 _ [(.int 0)]))
          refine gIload X182 H at_218 rfl 220 rfl ?_
          refine gCmpN X182 H at_220 (by decide) 223 rfl ?_
          refine gIconst X182 H at_223 (z := 1) rfl 224 rfl ?_
          refine gGoto X182 H at_224 (by decide) 228 rfl ?_
          exact gRetN X182 H hlk hret (t := .boolean) (by simp) at_228 e182 ⟨rfl, Fr.nil _⟩
        · refine gCmpY X145 H at_184 (flt hc179).2.2.2 (by decide) 191 rfl ?_
          refine gIconst X145 H at_191 (z := 0) rfl 192 rfl ?_
          refine gIstore X145 H at_192 (Ls' := #[vI p0, vI p1, vI p2, vI 3, vR w_ApiKey_METADATA, vI 0, vI 4, vI (p1 &&& (3 : Int32)), vI (p2.toInt16.toInt32), vI 1, vI 0, .unset]) rfl 194 rfl ?_
          refine gIload X145 H at_194 rfl 196 rfl ?_
          refine gIfY X145 H at_196 (by decide) (by decide) 208 rfl ?_
          refine gIconst X145 H at_208 (z := 0) rfl 209 rfl ?_
          refine gIstore X145 H at_209 (Ls' := #[vI p0, vI p1, vI p2, vI 3, vR w_ApiKey_METADATA, vI 0, vI 4, vI (p1 &&& (3 : Int32)), vI (p2.toInt16.toInt32), vI 1, vI 0, vI 0]) rfl 211 rfl ?_
          refine gAload X145 H at_211 rfl rfl 213 rfl ?_
          refine gIload X145 H at_213 rfl 215 rfl ?_
          refine gVirt X145 H hZ hown (hw _ wd4) (hw _ wd5) (hw _ wd7) (hw _ wd6) (by decide) E_w_ApiKey_METADATA (hw _ wd8) (hw _ wd2) (rm181_1 B p2 hc178) e145 hml rfl pd0 rfl (W := 0) (argsL := [(.int (p2.toInt16.toInt32))]) (rest := []) rfl rfl at_215 218 rfl ?_
          intro v183 T183 L183 hq183 X183
          obtain ⟨rfl, e183, rfl⟩ := hq183
          show Go _ _ _ _ (State.setTop _ (mkF _ 218 _ [(.int 0)]))
          refine gIload X183 H at_218 rfl 220 rfl ?_
          refine gCmpN X183 H at_220 (by decide) 223 rfl ?_
          refine gIconst X183 H at_223 (z := 1) rfl 224 rfl ?_
          refine gGoto X183 H at_224 (by decide) 228 rfl ?_
          exact gRetN X183 H hlk hret (t := .boolean) (by simp) at_228 e183 ⟨rfl, Fr.nil _⟩
      · refine gCmpY X145 H at_170 (flt hc178).2.1 (by decide) 177 rfl ?_
        refine gIconst X145 H at_177 (z := 0) rfl 178 rfl ?_
        refine gIstore X145 H at_178 (Ls' := #[vI p0, vI p1, vI p2, vI 3, vR w_ApiKey_METADATA, vI 0, vI 4, vI (p1 &&& (3 : Int32)), vI (p2.toInt16.toInt32), vI 0, .unset, .unset]) rfl 180 rfl ?_
        refine gIload X145 H at_180 rfl 182 rfl ?_
        refine gIload X145 H at_182 rfl 184 rfl ?_
        by_cases hc184 : (4 : Int32) < (p2.toInt16.toInt32)
        · refine gCmpN X145 H at_184 (tlt hc184).2.2.2 187 rfl ?_
          refine gIconst X145 H at_187 (z := 1) rfl 188 rfl ?_
          refine gGoto X145 H at_188 (by decide) 192 rfl ?_
          refine gIstore X145 H at_192 (Ls' := #[vI p0, vI p1, vI p2, vI 3, vR w_ApiKey_METADATA, vI 0, vI 4, vI (p1 &&& (3 : Int32)), vI (p2.toInt16.toInt32), vI 0, vI 1, .unset]) rfl 194 rfl ?_
          refine gIload X145 H at_194 rfl 196 rfl ?_
          refine gIfN X145 H at_196 (by decide) 199 rfl ?_
          refine gIload X145 H at_199 rfl 201 rfl ?_
          refine gIfY X145 H at_201 (by decide) (by decide) 208 rfl ?_
          refine gIconst X145 H at_208 (z := 0) rfl 209 rfl ?_
          refine gIstore X145 H at_209 (Ls' := #[vI p0, vI p1, vI p2, vI 3, vR w_ApiKey_METADATA, vI 0, vI 4, vI (p1 &&& (3 : Int32)), vI (p2.toInt16.toInt32), vI 0, vI 1, vI 0]) rfl 211 rfl ?_
          refine gAload X145 H at_211 rfl rfl 213 rfl ?_
          refine gIload X145 H at_213 rfl 215 rfl ?_
          refine gVirt X145 H hZ hown (hw _ wd4) (hw _ wd5) (hw _ wd7) (hw _ wd6) (by decide) E_w_ApiKey_METADATA (hw _ wd8) (hw _ wd2) (rm187_1 B p2 hc178 hc184) e145 hml rfl pd0 rfl (W := 0) (argsL := [(.int (p2.toInt16.toInt32))]) (rest := []) rfl rfl at_215 218 rfl ?_
          intro v188 T188 L188 hq188 X188
          obtain ⟨rfl, e188, rfl⟩ := hq188
          show Go _ _ _ _ (State.setTop _ (mkF _ 218 _ [(.int 0)]))
          refine gIload X188 H at_218 rfl 220 rfl ?_
          refine gCmpN X188 H at_220 (by decide) 223 rfl ?_
          refine gIconst X188 H at_223 (z := 1) rfl 224 rfl ?_
          refine gGoto X188 H at_224 (by decide) 228 rfl ?_
          exact gRetN X188 H hlk hret (t := .boolean) (by simp) at_228 e188 ⟨rfl, Fr.nil _⟩
        · refine gCmpY X145 H at_184 (flt hc184).2.2.2 (by decide) 191 rfl ?_
          refine gIconst X145 H at_191 (z := 0) rfl 192 rfl ?_
          refine gIstore X145 H at_192 (Ls' := #[vI p0, vI p1, vI p2, vI 3, vR w_ApiKey_METADATA, vI 0, vI 4, vI (p1 &&& (3 : Int32)), vI (p2.toInt16.toInt32), vI 0, vI 0, .unset]) rfl 194 rfl ?_
          refine gIload X145 H at_194 rfl 196 rfl ?_
          refine gIfN X145 H at_196 (by decide) 199 rfl ?_
          refine gIload X145 H at_199 rfl 201 rfl ?_
          refine gIfN X145 H at_201 (by decide) 204 rfl ?_
          refine gIconst X145 H at_204 (z := 1) rfl 205 rfl ?_
          refine gGoto X145 H at_205 (by decide) 209 rfl ?_
          refine gIstore X145 H at_209 (Ls' := #[vI p0, vI p1, vI p2, vI 3, vR w_ApiKey_METADATA, vI 0, vI 4, vI (p1 &&& (3 : Int32)), vI (p2.toInt16.toInt32), vI 0, vI 0, vI 1]) rfl 211 rfl ?_
          refine gAload X145 H at_211 rfl rfl 213 rfl ?_
          refine gIload X145 H at_213 rfl 215 rfl ?_
          refine gVirt X145 H hZ hown (hw _ wd4) (hw _ wd5) (hw _ wd7) (hw _ wd6) (by decide) E_w_ApiKey_METADATA (hw _ wd8) (hw _ wd2) (rm191_1 B p2 hc178 hc184) e145 hml rfl pd0 rfl (W := 0) (argsL := [(.int (p2.toInt16.toInt32))]) (rest := []) rfl rfl at_215 218 rfl ?_
          intro v192 T192 L192 hq192 X192
          obtain ⟨rfl, e192, rfl⟩ := hq192
          show Go _ _ _ _ (State.setTop _ (mkF _ 218 _ [(.int 1)]))
          refine gIload X192 H at_218 rfl 220 rfl ?_
          refine gCmpN X192 H at_220 (by decide) 223 rfl ?_
          refine gIconst X192 H at_223 (z := 1) rfl 224 rfl ?_
          refine gGoto X192 H at_224 (by decide) 228 rfl ?_
          exact gRetN X192 H hlk hret (t := .boolean) (by simp) at_228 e192 ⟨rfl, Fr.nil _⟩
theorem rm198_1 (B : Bg Z a0 w_ApiKey_PRODUCE w_ApiKey_FETCH w_ApiKey_LIST_OFFSETS w_ApiKey_OFFSET_FOR_LEADER_EPOCH w_ApiKey_METADATA w_ApiKey_API_VERSIONS) (p2 : Int32) (hk1 : ((((0 : Int32) + (p2 &&& (7 : Int32))) - (3 : Int32)).toInt16.toInt32) < (0 : Int32)) :
    Con l Z (⟨"com/example/rolling_quorum/rollingquorum/protocol/ApiKey", "supports", "(S)Z"⟩ : MethodName) prog_29_method_8_code 2 (some .boolean) ({ frames := 0, cells := 0, slots := 0, locals := 0 } : Room) #[(.ref w_ApiKey_API_VERSIONS), (.int ((((0 : Int32) + (p2 &&& (7 : Int32))) - (3 : Int32)).toInt16.toInt32))] Z.heap (fun v h' L => v = some (.int 0) ∧ h' = Z.heap ∧ L = []) := by
  have hw := B.1
  obtain ⟨S_w_ApiKey_PRODUCE, E_w_ApiKey_PRODUCE, S_w_ApiKey_FETCH, E_w_ApiKey_FETCH, S_w_ApiKey_LIST_OFFSETS, E_w_ApiKey_LIST_OFFSETS, S_w_ApiKey_OFFSET_FOR_LEADER_EPOCH, E_w_ApiKey_OFFSET_FOR_LEADER_EPOCH, S_w_ApiKey_METADATA, E_w_ApiKey_METADATA, S_w_ApiKey_API_VERSIONS, E_w_ApiKey_API_VERSIONS, F_w_ApiKey_PRODUCE_minVersion, F_w_ApiKey_FETCH_minVersion, F_w_ApiKey_LIST_OFFSETS_minVersion, F_w_ApiKey_LIST_OFFSETS_maxVersion, F_w_ApiKey_OFFSET_FOR_LEADER_EPOCH_minVersion, F_w_ApiKey_OFFSET_FOR_LEADER_EPOCH_maxVersion, F_w_ApiKey_FETCH_maxVersion, F_w_ApiKey_METADATA_minVersion, F_w_ApiKey_API_VERSIONS_minVersion, F_w_ApiKey_API_VERSIONS_maxVersion, F_w_ApiKey_PRODUCE_maxVersion, F_w_ApiKey_METADATA_maxVersion⟩ := B.2
  refine Con.of (plainFor_of_name pn1) (Ls := #[vR w_ApiKey_API_VERSIONS, vI ((((0 : Int32) + (p2 &&& (7 : Int32))) - (3 : Int32)).toInt16.toInt32)]) (fun m => by first | rfl | (simp [entryFrame, mkF, argsToLocals, Value.category]; done)) ?_
  intro p e s m below meth c T0 X0 H hml hZ hown hnm hret hlk e0
  refine gIloadN X0 H d1_0 rfl 1 rfl ?_
  refine gAloadN X0 H d1_1 rfl rfl 2 rfl ?_
  refine gGetF X0 H hZ hown (hw _ wd9) Via.refl e0 F_w_ApiKey_API_VERSIONS_minVersion d1_2 5 rfl ?_
  intro T197 X197 e197
  refine gCmpY X197 H d1_5 (tlt hk1).1 (by decide) 20 rfl ?_
  refine gIconst X197 H d1_20 (z := 0) rfl 21 rfl ?_
  exact gRetN X197 H hlk hret (t := .boolean) (by simp) d1_21 e197 ⟨rfl, rfl, rfl⟩
theorem rm204_1 (B : Bg Z a0 w_ApiKey_PRODUCE w_ApiKey_FETCH w_ApiKey_LIST_OFFSETS w_ApiKey_OFFSET_FOR_LEADER_EPOCH w_ApiKey_METADATA w_ApiKey_API_VERSIONS) (p2 : Int32) (hk1 : ¬ (((((0 : Int32) + (p2 &&& (7 : Int32))) - (3 : Int32)).toInt16.toInt32) < (0 : Int32))) (hk2 : (3 : Int32) < ((((0 : Int32) + (p2 &&& (7 : Int32))) - (3 : Int32)).toInt16.toInt32)) :
    Con l Z (⟨"com/example/rolling_quorum/rollingquorum/protocol/ApiKey", "supports", "(S)Z"⟩ : MethodName) prog_29_method_8_code 2 (some .boolean) ({ frames := 0, cells := 0, slots := 0, locals := 0 } : Room) #[(.ref w_ApiKey_API_VERSIONS), (.int ((((0 : Int32) + (p2 &&& (7 : Int32))) - (3 : Int32)).toInt16.toInt32))] Z.heap (fun v h' L => v = some (.int 0) ∧ h' = Z.heap ∧ L = []) := by
  have hw := B.1
  obtain ⟨S_w_ApiKey_PRODUCE, E_w_ApiKey_PRODUCE, S_w_ApiKey_FETCH, E_w_ApiKey_FETCH, S_w_ApiKey_LIST_OFFSETS, E_w_ApiKey_LIST_OFFSETS, S_w_ApiKey_OFFSET_FOR_LEADER_EPOCH, E_w_ApiKey_OFFSET_FOR_LEADER_EPOCH, S_w_ApiKey_METADATA, E_w_ApiKey_METADATA, S_w_ApiKey_API_VERSIONS, E_w_ApiKey_API_VERSIONS, F_w_ApiKey_PRODUCE_minVersion, F_w_ApiKey_FETCH_minVersion, F_w_ApiKey_LIST_OFFSETS_minVersion, F_w_ApiKey_LIST_OFFSETS_maxVersion, F_w_ApiKey_OFFSET_FOR_LEADER_EPOCH_minVersion, F_w_ApiKey_OFFSET_FOR_LEADER_EPOCH_maxVersion, F_w_ApiKey_FETCH_maxVersion, F_w_ApiKey_METADATA_minVersion, F_w_ApiKey_API_VERSIONS_minVersion, F_w_ApiKey_API_VERSIONS_maxVersion, F_w_ApiKey_PRODUCE_maxVersion, F_w_ApiKey_METADATA_maxVersion⟩ := B.2
  refine Con.of (plainFor_of_name pn1) (Ls := #[vR w_ApiKey_API_VERSIONS, vI ((((0 : Int32) + (p2 &&& (7 : Int32))) - (3 : Int32)).toInt16.toInt32)]) (fun m => by first | rfl | (simp [entryFrame, mkF, argsToLocals, Value.category]; done)) ?_
  intro p e s m below meth c T0 X0 H hml hZ hown hnm hret hlk e0
  refine gIloadN X0 H d1_0 rfl 1 rfl ?_
  refine gAloadN X0 H d1_1 rfl rfl 2 rfl ?_
  refine gGetF X0 H hZ hown (hw _ wd9) Via.refl e0 F_w_ApiKey_API_VERSIONS_minVersion d1_2 5 rfl ?_
  intro T202 X202 e202
  refine gCmpN X202 H d1_5 (flt hk1).1 8 rfl ?_
  refine gIloadN X202 H d1_8 rfl 9 rfl ?_
  refine gAloadN X202 H d1_9 rfl rfl 10 rfl ?_
  refine gGetF X202 H hZ hown (hw _ wd15) Via.refl e202 F_w_ApiKey_API_VERSIONS_maxVersion d1_10 13 rfl ?_
  intro T203 X203 e203
  refine gCmpY X203 H d1_13 (tlt hk2).2.2.1 (by decide) 20 rfl ?_
  refine gIconst X203 H d1_20 (z := 0) rfl 21 rfl ?_
  exact gRetN X203 H hlk hret (t := .boolean) (by simp) d1_21 e203 ⟨rfl, rfl, rfl⟩
theorem rm208_1 (B : Bg Z a0 w_ApiKey_PRODUCE w_ApiKey_FETCH w_ApiKey_LIST_OFFSETS w_ApiKey_OFFSET_FOR_LEADER_EPOCH w_ApiKey_METADATA w_ApiKey_API_VERSIONS) (p2 : Int32) (hk1 : ¬ (((((0 : Int32) + (p2 &&& (7 : Int32))) - (3 : Int32)).toInt16.toInt32) < (0 : Int32))) (hk2 : ¬ ((3 : Int32) < ((((0 : Int32) + (p2 &&& (7 : Int32))) - (3 : Int32)).toInt16.toInt32))) :
    Con l Z (⟨"com/example/rolling_quorum/rollingquorum/protocol/ApiKey", "supports", "(S)Z"⟩ : MethodName) prog_29_method_8_code 2 (some .boolean) ({ frames := 0, cells := 0, slots := 0, locals := 0 } : Room) #[(.ref w_ApiKey_API_VERSIONS), (.int ((((0 : Int32) + (p2 &&& (7 : Int32))) - (3 : Int32)).toInt16.toInt32))] Z.heap (fun v h' L => v = some (.int 1) ∧ h' = Z.heap ∧ L = []) := by
  have hw := B.1
  obtain ⟨S_w_ApiKey_PRODUCE, E_w_ApiKey_PRODUCE, S_w_ApiKey_FETCH, E_w_ApiKey_FETCH, S_w_ApiKey_LIST_OFFSETS, E_w_ApiKey_LIST_OFFSETS, S_w_ApiKey_OFFSET_FOR_LEADER_EPOCH, E_w_ApiKey_OFFSET_FOR_LEADER_EPOCH, S_w_ApiKey_METADATA, E_w_ApiKey_METADATA, S_w_ApiKey_API_VERSIONS, E_w_ApiKey_API_VERSIONS, F_w_ApiKey_PRODUCE_minVersion, F_w_ApiKey_FETCH_minVersion, F_w_ApiKey_LIST_OFFSETS_minVersion, F_w_ApiKey_LIST_OFFSETS_maxVersion, F_w_ApiKey_OFFSET_FOR_LEADER_EPOCH_minVersion, F_w_ApiKey_OFFSET_FOR_LEADER_EPOCH_maxVersion, F_w_ApiKey_FETCH_maxVersion, F_w_ApiKey_METADATA_minVersion, F_w_ApiKey_API_VERSIONS_minVersion, F_w_ApiKey_API_VERSIONS_maxVersion, F_w_ApiKey_PRODUCE_maxVersion, F_w_ApiKey_METADATA_maxVersion⟩ := B.2
  refine Con.of (plainFor_of_name pn1) (Ls := #[vR w_ApiKey_API_VERSIONS, vI ((((0 : Int32) + (p2 &&& (7 : Int32))) - (3 : Int32)).toInt16.toInt32)]) (fun m => by first | rfl | (simp [entryFrame, mkF, argsToLocals, Value.category]; done)) ?_
  intro p e s m below meth c T0 X0 H hml hZ hown hnm hret hlk e0
  refine gIloadN X0 H d1_0 rfl 1 rfl ?_
  refine gAloadN X0 H d1_1 rfl rfl 2 rfl ?_
  refine gGetF X0 H hZ hown (hw _ wd9) Via.refl e0 F_w_ApiKey_API_VERSIONS_minVersion d1_2 5 rfl ?_
  intro T206 X206 e206
  refine gCmpN X206 H d1_5 (flt hk1).1 8 rfl ?_
  refine gIloadN X206 H d1_8 rfl 9 rfl ?_
  refine gAloadN X206 H d1_9 rfl rfl 10 rfl ?_
  refine gGetF X206 H hZ hown (hw _ wd15) Via.refl e206 F_w_ApiKey_API_VERSIONS_maxVersion d1_10 13 rfl ?_
  intro T207 X207 e207
  refine gCmpN X207 H d1_13 (flt hk2).2.2.1 16 rfl ?_
  refine gIconst X207 H d1_16 (z := 1) rfl 17 rfl ?_
  refine gGoto X207 H d1_17 (by decide) 21 rfl ?_
  exact gRetN X207 H hlk hret (t := .boolean) (by simp) d1_21 e207 ⟨rfl, rfl, rfl⟩
theorem rm214_1 (B : Bg Z a0 w_ApiKey_PRODUCE w_ApiKey_FETCH w_ApiKey_LIST_OFFSETS w_ApiKey_OFFSET_FOR_LEADER_EPOCH w_ApiKey_METADATA w_ApiKey_API_VERSIONS) (p2 : Int32) (hk2 : ((((3 : Int32) + (p2 &&& (7 : Int32))) - (4 : Int32)).toInt16.toInt32) < (0 : Int32)) :
    Con l Z (⟨"com/example/rolling_quorum/rollingquorum/protocol/ApiKey", "supports", "(S)Z"⟩ : MethodName) prog_29_method_8_code 2 (some .boolean) ({ frames := 0, cells := 0, slots := 0, locals := 0 } : Room) #[(.ref w_ApiKey_API_VERSIONS), (.int ((((3 : Int32) + (p2 &&& (7 : Int32))) - (4 : Int32)).toInt16.toInt32))] Z.heap (fun v h' L => v = some (.int 0) ∧ h' = Z.heap ∧ L = []) := by
  have hw := B.1
  obtain ⟨S_w_ApiKey_PRODUCE, E_w_ApiKey_PRODUCE, S_w_ApiKey_FETCH, E_w_ApiKey_FETCH, S_w_ApiKey_LIST_OFFSETS, E_w_ApiKey_LIST_OFFSETS, S_w_ApiKey_OFFSET_FOR_LEADER_EPOCH, E_w_ApiKey_OFFSET_FOR_LEADER_EPOCH, S_w_ApiKey_METADATA, E_w_ApiKey_METADATA, S_w_ApiKey_API_VERSIONS, E_w_ApiKey_API_VERSIONS, F_w_ApiKey_PRODUCE_minVersion, F_w_ApiKey_FETCH_minVersion, F_w_ApiKey_LIST_OFFSETS_minVersion, F_w_ApiKey_LIST_OFFSETS_maxVersion, F_w_ApiKey_OFFSET_FOR_LEADER_EPOCH_minVersion, F_w_ApiKey_OFFSET_FOR_LEADER_EPOCH_maxVersion, F_w_ApiKey_FETCH_maxVersion, F_w_ApiKey_METADATA_minVersion, F_w_ApiKey_API_VERSIONS_minVersion, F_w_ApiKey_API_VERSIONS_maxVersion, F_w_ApiKey_PRODUCE_maxVersion, F_w_ApiKey_METADATA_maxVersion⟩ := B.2
  refine Con.of (plainFor_of_name pn1) (Ls := #[vR w_ApiKey_API_VERSIONS, vI ((((3 : Int32) + (p2 &&& (7 : Int32))) - (4 : Int32)).toInt16.toInt32)]) (fun m => by first | rfl | (simp [entryFrame, mkF, argsToLocals, Value.category]; done)) ?_
  intro p e s m below meth c T0 X0 H hml hZ hown hnm hret hlk e0
  refine gIloadN X0 H d1_0 rfl 1 rfl ?_
  refine gAloadN X0 H d1_1 rfl rfl 2 rfl ?_
  refine gGetF X0 H hZ hown (hw _ wd9) Via.refl e0 F_w_ApiKey_API_VERSIONS_minVersion d1_2 5 rfl ?_
  intro T213 X213 e213
  refine gCmpY X213 H d1_5 (tlt hk2).1 (by decide) 20 rfl ?_
  refine gIconst X213 H d1_20 (z := 0) rfl 21 rfl ?_
  exact gRetN X213 H hlk hret (t := .boolean) (by simp) d1_21 e213 ⟨rfl, rfl, rfl⟩
theorem rm220_1 (B : Bg Z a0 w_ApiKey_PRODUCE w_ApiKey_FETCH w_ApiKey_LIST_OFFSETS w_ApiKey_OFFSET_FOR_LEADER_EPOCH w_ApiKey_METADATA w_ApiKey_API_VERSIONS) (p2 : Int32) (hk2 : ¬ (((((3 : Int32) + (p2 &&& (7 : Int32))) - (4 : Int32)).toInt16.toInt32) < (0 : Int32))) (hk3 : (3 : Int32) < ((((3 : Int32) + (p2 &&& (7 : Int32))) - (4 : Int32)).toInt16.toInt32)) :
    Con l Z (⟨"com/example/rolling_quorum/rollingquorum/protocol/ApiKey", "supports", "(S)Z"⟩ : MethodName) prog_29_method_8_code 2 (some .boolean) ({ frames := 0, cells := 0, slots := 0, locals := 0 } : Room) #[(.ref w_ApiKey_API_VERSIONS), (.int ((((3 : Int32) + (p2 &&& (7 : Int32))) - (4 : Int32)).toInt16.toInt32))] Z.heap (fun v h' L => v = some (.int 0) ∧ h' = Z.heap ∧ L = []) := by
  have hw := B.1
  obtain ⟨S_w_ApiKey_PRODUCE, E_w_ApiKey_PRODUCE, S_w_ApiKey_FETCH, E_w_ApiKey_FETCH, S_w_ApiKey_LIST_OFFSETS, E_w_ApiKey_LIST_OFFSETS, S_w_ApiKey_OFFSET_FOR_LEADER_EPOCH, E_w_ApiKey_OFFSET_FOR_LEADER_EPOCH, S_w_ApiKey_METADATA, E_w_ApiKey_METADATA, S_w_ApiKey_API_VERSIONS, E_w_ApiKey_API_VERSIONS, F_w_ApiKey_PRODUCE_minVersion, F_w_ApiKey_FETCH_minVersion, F_w_ApiKey_LIST_OFFSETS_minVersion, F_w_ApiKey_LIST_OFFSETS_maxVersion, F_w_ApiKey_OFFSET_FOR_LEADER_EPOCH_minVersion, F_w_ApiKey_OFFSET_FOR_LEADER_EPOCH_maxVersion, F_w_ApiKey_FETCH_maxVersion, F_w_ApiKey_METADATA_minVersion, F_w_ApiKey_API_VERSIONS_minVersion, F_w_ApiKey_API_VERSIONS_maxVersion, F_w_ApiKey_PRODUCE_maxVersion, F_w_ApiKey_METADATA_maxVersion⟩ := B.2
  refine Con.of (plainFor_of_name pn1) (Ls := #[vR w_ApiKey_API_VERSIONS, vI ((((3 : Int32) + (p2 &&& (7 : Int32))) - (4 : Int32)).toInt16.toInt32)]) (fun m => by first | rfl | (simp [entryFrame, mkF, argsToLocals, Value.category]; done)) ?_
  intro p e s m below meth c T0 X0 H hml hZ hown hnm hret hlk e0
  refine gIloadN X0 H d1_0 rfl 1 rfl ?_
  refine gAloadN X0 H d1_1 rfl rfl 2 rfl ?_
  refine gGetF X0 H hZ hown (hw _ wd9) Via.refl e0 F_w_ApiKey_API_VERSIONS_minVersion d1_2 5 rfl ?_
  intro T218 X218 e218
  refine gCmpN X218 H d1_5 (flt hk2).1 8 rfl ?_
  refine gIloadN X218 H d1_8 rfl 9 rfl ?_
  refine gAloadN X218 H d1_9 rfl rfl 10 rfl ?_
  refine gGetF X218 H hZ hown (hw _ wd15) Via.refl e218 F_w_ApiKey_API_VERSIONS_maxVersion d1_10 13 rfl ?_
  intro T219 X219 e219
  refine gCmpY X219 H d1_13 (tlt hk3).2.2.1 (by decide) 20 rfl ?_
  refine gIconst X219 H d1_20 (z := 0) rfl 21 rfl ?_
  exact gRetN X219 H hlk hret (t := .boolean) (by simp) d1_21 e219 ⟨rfl, rfl, rfl⟩
theorem rm224_1 (B : Bg Z a0 w_ApiKey_PRODUCE w_ApiKey_FETCH w_ApiKey_LIST_OFFSETS w_ApiKey_OFFSET_FOR_LEADER_EPOCH w_ApiKey_METADATA w_ApiKey_API_VERSIONS) (p2 : Int32) (hk2 : ¬ (((((3 : Int32) + (p2 &&& (7 : Int32))) - (4 : Int32)).toInt16.toInt32) < (0 : Int32))) (hk3 : ¬ ((3 : Int32) < ((((3 : Int32) + (p2 &&& (7 : Int32))) - (4 : Int32)).toInt16.toInt32))) :
    Con l Z (⟨"com/example/rolling_quorum/rollingquorum/protocol/ApiKey", "supports", "(S)Z"⟩ : MethodName) prog_29_method_8_code 2 (some .boolean) ({ frames := 0, cells := 0, slots := 0, locals := 0 } : Room) #[(.ref w_ApiKey_API_VERSIONS), (.int ((((3 : Int32) + (p2 &&& (7 : Int32))) - (4 : Int32)).toInt16.toInt32))] Z.heap (fun v h' L => v = some (.int 1) ∧ h' = Z.heap ∧ L = []) := by
  have hw := B.1
  obtain ⟨S_w_ApiKey_PRODUCE, E_w_ApiKey_PRODUCE, S_w_ApiKey_FETCH, E_w_ApiKey_FETCH, S_w_ApiKey_LIST_OFFSETS, E_w_ApiKey_LIST_OFFSETS, S_w_ApiKey_OFFSET_FOR_LEADER_EPOCH, E_w_ApiKey_OFFSET_FOR_LEADER_EPOCH, S_w_ApiKey_METADATA, E_w_ApiKey_METADATA, S_w_ApiKey_API_VERSIONS, E_w_ApiKey_API_VERSIONS, F_w_ApiKey_PRODUCE_minVersion, F_w_ApiKey_FETCH_minVersion, F_w_ApiKey_LIST_OFFSETS_minVersion, F_w_ApiKey_LIST_OFFSETS_maxVersion, F_w_ApiKey_OFFSET_FOR_LEADER_EPOCH_minVersion, F_w_ApiKey_OFFSET_FOR_LEADER_EPOCH_maxVersion, F_w_ApiKey_FETCH_maxVersion, F_w_ApiKey_METADATA_minVersion, F_w_ApiKey_API_VERSIONS_minVersion, F_w_ApiKey_API_VERSIONS_maxVersion, F_w_ApiKey_PRODUCE_maxVersion, F_w_ApiKey_METADATA_maxVersion⟩ := B.2
  refine Con.of (plainFor_of_name pn1) (Ls := #[vR w_ApiKey_API_VERSIONS, vI ((((3 : Int32) + (p2 &&& (7 : Int32))) - (4 : Int32)).toInt16.toInt32)]) (fun m => by first | rfl | (simp [entryFrame, mkF, argsToLocals, Value.category]; done)) ?_
  intro p e s m below meth c T0 X0 H hml hZ hown hnm hret hlk e0
  refine gIloadN X0 H d1_0 rfl 1 rfl ?_
  refine gAloadN X0 H d1_1 rfl rfl 2 rfl ?_
  refine gGetF X0 H hZ hown (hw _ wd9) Via.refl e0 F_w_ApiKey_API_VERSIONS_minVersion d1_2 5 rfl ?_
  intro T222 X222 e222
  refine gCmpN X222 H d1_5 (flt hk2).1 8 rfl ?_
  refine gIloadN X222 H d1_8 rfl 9 rfl ?_
  refine gAloadN X222 H d1_9 rfl rfl 10 rfl ?_
  refine gGetF X222 H hZ hown (hw _ wd15) Via.refl e222 F_w_ApiKey_API_VERSIONS_maxVersion d1_10 13 rfl ?_
  intro T223 X223 e223
  refine gCmpN X223 H d1_13 (flt hk3).2.2.1 16 rfl ?_
  refine gIconst X223 H d1_16 (z := 1) rfl 17 rfl ?_
  refine gGoto X223 H d1_17 (by decide) 21 rfl ?_
  exact gRetN X223 H hlk hret (t := .boolean) (by simp) d1_21 e223 ⟨rfl, rfl, rfl⟩
theorem rm229_1 (B : Bg Z a0 w_ApiKey_PRODUCE w_ApiKey_FETCH w_ApiKey_LIST_OFFSETS w_ApiKey_OFFSET_FOR_LEADER_EPOCH w_ApiKey_METADATA w_ApiKey_API_VERSIONS) (p2 : Int32) (hk2 : (p2.toInt16.toInt32) < (0 : Int32)) :
    Con l Z (⟨"com/example/rolling_quorum/rollingquorum/protocol/ApiKey", "supports", "(S)Z"⟩ : MethodName) prog_29_method_8_code 2 (some .boolean) ({ frames := 0, cells := 0, slots := 0, locals := 0 } : Room) #[(.ref w_ApiKey_API_VERSIONS), (.int (p2.toInt16.toInt32))] Z.heap (fun v h' L => v = some (.int 0) ∧ h' = Z.heap ∧ L = []) := by
  have hw := B.1
  obtain ⟨S_w_ApiKey_PRODUCE, E_w_ApiKey_PRODUCE, S_w_ApiKey_FETCH, E_w_ApiKey_FETCH, S_w_ApiKey_LIST_OFFSETS, E_w_ApiKey_LIST_OFFSETS, S_w_ApiKey_OFFSET_FOR_LEADER_EPOCH, E_w_ApiKey_OFFSET_FOR_LEADER_EPOCH, S_w_ApiKey_METADATA, E_w_ApiKey_METADATA, S_w_ApiKey_API_VERSIONS, E_w_ApiKey_API_VERSIONS, F_w_ApiKey_PRODUCE_minVersion, F_w_ApiKey_FETCH_minVersion, F_w_ApiKey_LIST_OFFSETS_minVersion, F_w_ApiKey_LIST_OFFSETS_maxVersion, F_w_ApiKey_OFFSET_FOR_LEADER_EPOCH_minVersion, F_w_ApiKey_OFFSET_FOR_LEADER_EPOCH_maxVersion, F_w_ApiKey_FETCH_maxVersion, F_w_ApiKey_METADATA_minVersion, F_w_ApiKey_API_VERSIONS_minVersion, F_w_ApiKey_API_VERSIONS_maxVersion, F_w_ApiKey_PRODUCE_maxVersion, F_w_ApiKey_METADATA_maxVersion⟩ := B.2
  refine Con.of (plainFor_of_name pn1) (Ls := #[vR w_ApiKey_API_VERSIONS, vI (p2.toInt16.toInt32)]) (fun m => by first | rfl | (simp [entryFrame, mkF, argsToLocals, Value.category]; done)) ?_
  intro p e s m below meth c T0 X0 H hml hZ hown hnm hret hlk e0
  refine gIloadN X0 H d1_0 rfl 1 rfl ?_
  refine gAloadN X0 H d1_1 rfl rfl 2 rfl ?_
  refine gGetF X0 H hZ hown (hw _ wd9) Via.refl e0 F_w_ApiKey_API_VERSIONS_minVersion d1_2 5 rfl ?_
  intro T228 X228 e228
  refine gCmpY X228 H d1_5 (tlt hk2).1 (by decide) 20 rfl ?_
  refine gIconst X228 H d1_20 (z := 0) rfl 21 rfl ?_
  exact gRetN X228 H hlk hret (t := .boolean) (by simp) d1_21 e228 ⟨rfl, rfl, rfl⟩
theorem rm235_1 (B : Bg Z a0 w_ApiKey_PRODUCE w_ApiKey_FETCH w_ApiKey_LIST_OFFSETS w_ApiKey_OFFSET_FOR_LEADER_EPOCH w_ApiKey_METADATA w_ApiKey_API_VERSIONS) (p2 : Int32) (hk2 : ¬ ((p2.toInt16.toInt32) < (0 : Int32))) (hk3 : (3 : Int32) < (p2.toInt16.toInt32)) :
    Con l Z (⟨"com/example/rolling_quorum/rollingquorum/protocol/ApiKey", "supports", "(S)Z"⟩ : MethodName) prog_29_method_8_code 2 (some .boolean) ({ frames := 0, cells := 0, slots := 0, locals := 0 } : Room) #[(.ref w_ApiKey_API_VERSIONS), (.int (p2.toInt16.toInt32))] Z.heap (fun v h' L => v = some (.int 0) ∧ h' = Z.heap ∧ L = []) := by
  have hw := B.1
  obtain ⟨S_w_ApiKey_PRODUCE, E_w_ApiKey_PRODUCE, S_w_ApiKey_FETCH, E_w_ApiKey_FETCH, S_w_ApiKey_LIST_OFFSETS, E_w_ApiKey_LIST_OFFSETS, S_w_ApiKey_OFFSET_FOR_LEADER_EPOCH, E_w_ApiKey_OFFSET_FOR_LEADER_EPOCH, S_w_ApiKey_METADATA, E_w_ApiKey_METADATA, S_w_ApiKey_API_VERSIONS, E_w_ApiKey_API_VERSIONS, F_w_ApiKey_PRODUCE_minVersion, F_w_ApiKey_FETCH_minVersion, F_w_ApiKey_LIST_OFFSETS_minVersion, F_w_ApiKey_LIST_OFFSETS_maxVersion, F_w_ApiKey_OFFSET_FOR_LEADER_EPOCH_minVersion, F_w_ApiKey_OFFSET_FOR_LEADER_EPOCH_maxVersion, F_w_ApiKey_FETCH_maxVersion, F_w_ApiKey_METADATA_minVersion, F_w_ApiKey_API_VERSIONS_minVersion, F_w_ApiKey_API_VERSIONS_maxVersion, F_w_ApiKey_PRODUCE_maxVersion, F_w_ApiKey_METADATA_maxVersion⟩ := B.2
  refine Con.of (plainFor_of_name pn1) (Ls := #[vR w_ApiKey_API_VERSIONS, vI (p2.toInt16.toInt32)]) (fun m => by first | rfl | (simp [entryFrame, mkF, argsToLocals, Value.category]; done)) ?_
  intro p e s m below meth c T0 X0 H hml hZ hown hnm hret hlk e0
  refine gIloadN X0 H d1_0 rfl 1 rfl ?_
  refine gAloadN X0 H d1_1 rfl rfl 2 rfl ?_
  refine gGetF X0 H hZ hown (hw _ wd9) Via.refl e0 F_w_ApiKey_API_VERSIONS_minVersion d1_2 5 rfl ?_
  intro T233 X233 e233
  refine gCmpN X233 H d1_5 (flt hk2).1 8 rfl ?_
  refine gIloadN X233 H d1_8 rfl 9 rfl ?_
  refine gAloadN X233 H d1_9 rfl rfl 10 rfl ?_
  refine gGetF X233 H hZ hown (hw _ wd15) Via.refl e233 F_w_ApiKey_API_VERSIONS_maxVersion d1_10 13 rfl ?_
  intro T234 X234 e234
  refine gCmpY X234 H d1_13 (tlt hk3).2.2.1 (by decide) 20 rfl ?_
  refine gIconst X234 H d1_20 (z := 0) rfl 21 rfl ?_
  exact gRetN X234 H hlk hret (t := .boolean) (by simp) d1_21 e234 ⟨rfl, rfl, rfl⟩
theorem rm239_1 (B : Bg Z a0 w_ApiKey_PRODUCE w_ApiKey_FETCH w_ApiKey_LIST_OFFSETS w_ApiKey_OFFSET_FOR_LEADER_EPOCH w_ApiKey_METADATA w_ApiKey_API_VERSIONS) (p2 : Int32) (hk2 : ¬ ((p2.toInt16.toInt32) < (0 : Int32))) (hk3 : ¬ ((3 : Int32) < (p2.toInt16.toInt32))) :
    Con l Z (⟨"com/example/rolling_quorum/rollingquorum/protocol/ApiKey", "supports", "(S)Z"⟩ : MethodName) prog_29_method_8_code 2 (some .boolean) ({ frames := 0, cells := 0, slots := 0, locals := 0 } : Room) #[(.ref w_ApiKey_API_VERSIONS), (.int (p2.toInt16.toInt32))] Z.heap (fun v h' L => v = some (.int 1) ∧ h' = Z.heap ∧ L = []) := by
  have hw := B.1
  obtain ⟨S_w_ApiKey_PRODUCE, E_w_ApiKey_PRODUCE, S_w_ApiKey_FETCH, E_w_ApiKey_FETCH, S_w_ApiKey_LIST_OFFSETS, E_w_ApiKey_LIST_OFFSETS, S_w_ApiKey_OFFSET_FOR_LEADER_EPOCH, E_w_ApiKey_OFFSET_FOR_LEADER_EPOCH, S_w_ApiKey_METADATA, E_w_ApiKey_METADATA, S_w_ApiKey_API_VERSIONS, E_w_ApiKey_API_VERSIONS, F_w_ApiKey_PRODUCE_minVersion, F_w_ApiKey_FETCH_minVersion, F_w_ApiKey_LIST_OFFSETS_minVersion, F_w_ApiKey_LIST_OFFSETS_maxVersion, F_w_ApiKey_OFFSET_FOR_LEADER_EPOCH_minVersion, F_w_ApiKey_OFFSET_FOR_LEADER_EPOCH_maxVersion, F_w_ApiKey_FETCH_maxVersion, F_w_ApiKey_METADATA_minVersion, F_w_ApiKey_API_VERSIONS_minVersion, F_w_ApiKey_API_VERSIONS_maxVersion, F_w_ApiKey_PRODUCE_maxVersion, F_w_ApiKey_METADATA_maxVersion⟩ := B.2
  refine Con.of (plainFor_of_name pn1) (Ls := #[vR w_ApiKey_API_VERSIONS, vI (p2.toInt16.toInt32)]) (fun m => by first | rfl | (simp [entryFrame, mkF, argsToLocals, Value.category]; done)) ?_
  intro p e s m below meth c T0 X0 H hml hZ hown hnm hret hlk e0
  refine gIloadN X0 H d1_0 rfl 1 rfl ?_
  refine gAloadN X0 H d1_1 rfl rfl 2 rfl ?_
  refine gGetF X0 H hZ hown (hw _ wd9) Via.refl e0 F_w_ApiKey_API_VERSIONS_minVersion d1_2 5 rfl ?_
  intro T237 X237 e237
  refine gCmpN X237 H d1_5 (flt hk2).1 8 rfl ?_
  refine gIloadN X237 H d1_8 rfl 9 rfl ?_
  refine gAloadN X237 H d1_9 rfl rfl 10 rfl ?_
  refine gGetF X237 H hZ hown (hw _ wd15) Via.refl e237 F_w_ApiKey_API_VERSIONS_maxVersion d1_10 13 rfl ?_
  intro T238 X238 e238
  refine gCmpN X238 H d1_13 (flt hk3).2.2.1 16 rfl ?_
  refine gIconst X238 H d1_16 (z := 1) rfl 17 rfl ?_
  refine gGoto X238 H d1_17 (by decide) 21 rfl ?_
  exact gRetN X238 H hlk hret (t := .boolean) (by simp) d1_21 e238 ⟨rfl, rfl, rfl⟩
theorem lawAll_4 (B : Bg Z a0 w_ApiKey_PRODUCE w_ApiKey_FETCH w_ApiKey_LIST_OFFSETS w_ApiKey_OFFSET_FOR_LEADER_EPOCH w_ApiKey_METADATA w_ApiKey_API_VERSIONS) (p0 : Int32) (p1 : Int32) (p2 : Int32) (ha0 : ((p0 &&& (2147483647 : Int32)) % (6 : Int32)) = (4 : Int32)) :
    Con l Z x code maxLocals ret room_1 #[(.int p0), (.int p1), (.int p2)] Z.heap (fun v h' L => v = some (.int 1) ∧ Fr Z.heap.size L) := by
  have hw := B.1
  obtain ⟨S_w_ApiKey_PRODUCE, E_w_ApiKey_PRODUCE, S_w_ApiKey_FETCH, E_w_ApiKey_FETCH, S_w_ApiKey_LIST_OFFSETS, E_w_ApiKey_LIST_OFFSETS, S_w_ApiKey_OFFSET_FOR_LEADER_EPOCH, E_w_ApiKey_OFFSET_FOR_LEADER_EPOCH, S_w_ApiKey_METADATA, E_w_ApiKey_METADATA, S_w_ApiKey_API_VERSIONS, E_w_ApiKey_API_VERSIONS, F_w_ApiKey_PRODUCE_minVersion, F_w_ApiKey_FETCH_minVersion, F_w_ApiKey_LIST_OFFSETS_minVersion, F_w_ApiKey_LIST_OFFSETS_maxVersion, F_w_ApiKey_OFFSET_FOR_LEADER_EPOCH_minVersion, F_w_ApiKey_OFFSET_FOR_LEADER_EPOCH_maxVersion, F_w_ApiKey_FETCH_maxVersion, F_w_ApiKey_METADATA_minVersion, F_w_ApiKey_API_VERSIONS_minVersion, F_w_ApiKey_API_VERSIONS_maxVersion, F_w_ApiKey_PRODUCE_maxVersion, F_w_ApiKey_METADATA_maxVersion⟩ := B.2
  refine Con.of (plainFor_of_name pn0) (Ls := #[vI p0, vI p1, vI p2, .unset, .unset, .unset, .unset, .unset, .unset, .unset, .unset, .unset]) (fun m => by first | rfl | (simp [entryFrame, mkF, argsToLocals, Value.category, maxLocals]; done)) ?_
  intro p e s m below meth c T0 X0 H hml hZ hown hnm hret hlk e0
  refine gIloadN X0 H at_0 rfl 1 rfl ?_
  refine gLdc X0 H hZ hown (hw _ wd0) at_1 3 rfl ?_
  refine g_iand X0 H at_3 (z := (p0 &&& (2147483647 : Int32))) rfl 4 rfl ?_
  refine gBipush X0 H at_4 (z := 6) rfl 6 rfl ?_
  refine g_irem X0 H at_6 (by decide) (z := 4) ha0 7 rfl ?_
  refine gIstoreN X0 H at_7 (Ls' := #[vI p0, vI p1, vI p2, vI 4, .unset, .unset, .unset, .unset, .unset, .unset, .unset, .unset]) rfl 8 rfl ?_
  refine gIloadN X0 H at_8 rfl 9 rfl ?_
  refine gIfY X0 H at_9 (by decide) (by decide) 27 rfl ?_
  refine gIloadN X0 H at_27 rfl 28 rfl ?_
  refine gIconst X0 H at_28 (z := 1) rfl 29 rfl ?_
  refine gCmpY X0 H at_29 (by decide) (by decide) 47 rfl ?_
  refine gIloadN X0 H at_47 rfl 48 rfl ?_
  refine gIconst X0 H at_48 (z := 2) rfl 49 rfl ?_
  refine gCmpY X0 H at_49 (by decide) (by decide) 66 rfl ?_
  refine gIloadN X0 H at_66 rfl 67 rfl ?_
  refine gIconst X0 H at_67 (z := 3) rfl 68 rfl ?_
  refine gCmpY X0 H at_68 (by decide) (by decide) 85 rfl ?_
  refine gIloadN X0 H at_85 rfl 86 rfl ?_
  refine gIconst X0 H at_86 (z := 4) rfl 87 rfl ?_
  refine gCmpN X0 H at_87 (by decide) 90 rfl ?_
  refine gGetS X0 H hZ hown (hw _ wd21) e0 S_w_ApiKey_API_VERSIONS at_90 93 rfl ?_
  intro T193 X193 e193
  refine gAstore X193 H at_93 rfl (Ls' := #[vI p0, vI p1, vI p2, vI 4, vR w_ApiKey_API_VERSIONS, .unset, .unset, .unset, .unset, .unset, .unset, .unset]) rfl 95 rfl ?_
  refine gIconst X193 H at_95 (z := 0) rfl 96 rfl ?_
  refine gIstore X193 H at_96 (Ls' := #[vI p0, vI p1, vI p2, vI 4, vR w_ApiKey_API_VERSIONS, vI 0, .unset, .unset, .unset, .unset, .unset, .unset]) rfl 98 rfl ?_
  refine gIconst X193 H at_98 (z := 3) rfl 99 rfl ?_
  refine gIstore X193 H at_99 (Ls' := #[vI p0, vI p1, vI p2, vI 4, vR w_ApiKey_API_VERSIONS, vI 0, vI 3, .unset, .unset, .unset, .unset, .unset]) rfl 101 rfl ?_
  refine gGoto X193 H at_101 (by decide) 115 rfl ?_
  refine gIloadN X193 H at_115 rfl 116 rfl ?_
  refine gIconst X193 H at_116 (z := 3) rfl 117 rfl ?_
  refine g_iand X193 H at_117 (z := (p1 &&& (3 : Int32))) rfl 118 rfl ?_
  refine gIstore X193 H at_118 (Ls' := #[vI p0, vI p1, vI p2, vI 4, vR w_ApiKey_API_VERSIONS, vI 0, vI 3, vI (p1 &&& (3 : Int32)), .unset, .unset, .unset, .unset]) rfl 120 rfl ?_
  refine gIload X193 H at_120 rfl 122 rfl ?_
  refine gIconst X193 H at_122 (z := 1) rfl 123 rfl ?_
  by_cases hc194 : (p1 &&& (3 : Int32)) = (1 : Int32)
  · refine gCmpN X193 H at_123 (teq hc194).2 126 rfl ?_
    refine gIload X193 H at_126 rfl 128 rfl ?_
    refine gIloadN X193 H at_128 rfl 129 rfl ?_
    refine gBipush X193 H at_129 (z := 7) rfl 131 rfl ?_
    refine g_iand X193 H at_131 (z := (p2 &&& (7 : Int32))) rfl 132 rfl ?_
    refine g_iadd X193 H at_132 (z := ((0 : Int32) + (p2 &&& (7 : Int32)))) rfl 133 rfl ?_
    refine gIconst X193 H at_133 (z := 3) rfl 134 rfl ?_
    refine g_isub X193 H at_134 (z := (((0 : Int32) + (p2 &&& (7 : Int32))) - (3 : Int32))) rfl 135 rfl ?_
    refine g_i2s X193 H at_135 (z := ((((0 : Int32) + (p2 &&& (7 : Int32))) - (3 : Int32)).toInt16.toInt32)) rfl 136 rfl ?_
    refine gIstore X193 H at_136 (Ls' := #[vI p0, vI p1, vI p2, vI 4, vR w_ApiKey_API_VERSIONS, vI 0, vI 3, vI (p1 &&& (3 : Int32)), vI ((((0 : Int32) + (p2 &&& (7 : Int32))) - (3 : Int32)).toInt16.toInt32), .unset, .unset, .unset]) rfl 138 rfl ?_
    refine gGoto X193 H at_138 (by decide) 166 rfl ?_
    refine gIload X193 H at_166 rfl 168 rfl ?_
    refine gIload X193 H at_168 rfl 170 rfl ?_
    by_cases hc195 : ((((0 : Int32) + (p2 &&& (7 : Int32))) - (3 : Int32)).toInt16.toInt32) < (0 : Int32)
    · refine gCmpN X193 H at_170 (tlt hc195).2.1 173 rfl ?_
      refine gIconst X193 H at_173 (z := 1) rfl 174 rfl ?_
      refine gGoto X193 H at_174 (by decide) 178 rfl ?_
      refine gIstore X193 H at_178 (Ls' := #[vI p0, vI p1, vI p2, vI 4, vR w_ApiKey_API_VERSIONS, vI 0, vI 3, vI (p1 &&& (3 : Int32)), vI ((((0 : Int32) + (p2 &&& (7 : Int32))) - (3 : Int32)).toInt16.toInt32), vI 1, .unset, .unset]) rfl 180 rfl ?_
      refine gIload X193 H at_180 rfl 182 rfl ?_
      refine gIload X193 H at_182 rfl 184 rfl ?_
      by_cases hc196 : (3 : Int32) < ((((0 : Int32) + (p2 &&& (7 : Int32))) - (3 : Int32)).toInt16.toInt32)
      · refine gCmpN X193 H at_184 (tlt hc196).2.2.2 187 rfl ?_
        refine gIconst X193 H at_187 (z := 1) rfl 188 rfl ?_
        refine gGoto X193 H at_188 (by decide) 192 rfl ?_
        refine gIstore X193 H at_192 (Ls' := #[vI p0, vI p1, vI p2, vI 4, vR w_ApiKey_API_VERSIONS, vI 0, vI 3, vI (p1 &&& (3 : Int32)), vI ((((0 : Int32) + (p2 &&& (7 : Int32))) - (3 : Int32)).toInt16.toInt32), vI 1, vI 1, .unset]) rfl 194 rfl ?_
        refine gIload X193 H at_194 rfl 196 rfl ?_
        refine gIfY X193 H at_196 (by decide) (by decide) 208 rfl ?_
        refine gIconst X193 H at_208 (z := 0) rfl 209 rfl ?_
        refine gIstore X193 H at_209 (Ls' := #[vI p0, vI p1, vI p2, vI 4, vR w_ApiKey_API_VERSIONS, vI 0, vI 3, vI (p1 &&& (3 : Int32)), vI ((((0 : Int32) + (p2 &&& (7 : Int32))) - (3 : Int32)).toInt16.toInt32), vI 1, vI 1, vI 0]) rfl 211 rfl ?_
        refine gAload X193 H at_211 rfl rfl 213 rfl ?_
        refine gIload X193 H at_213 rfl 215 rfl ?_
        refine gVirt X193 H hZ hown (hw _ wd4) (hw _ wd5) (hw _ wd7) (hw _ wd6) (by decide) E_w_ApiKey_API_VERSIONS (hw _ wd8) (hw _ wd2) (rm198_1 B p2 hc195) e193 hml rfl pd0 rfl (W := 0) (argsL := [(.int ((((0 : Int32) + (p2 &&& (7 : Int32))) - (3 : Int32)).toInt16.toInt32))]) (rest := []) rfl rfl at_215 218 rfl ?_
        intro v199 T199 L199 hq199 X199
        obtain ⟨rfl, e199, rfl⟩ := hq199
        show Go _ _ _ _ (State.setTop _ (mkF _ 218 _ [(.int 0)]))
        refine gIload X199 H at_218 rfl 220 rfl ?_
        refine gCmpN X199 H at_220 (by decide) 223 rfl ?_
        refine gIconst X199 H at_223 (z := 1) rfl 224 rfl ?_
        refine gGoto X199 H at_224 (by decide) 228 rfl ?_
        exact gRetN X199 H hlk hret (t := .boolean) (by simp) at_228 e199 ⟨rfl, Fr.nil _⟩
      · refine gCmpY X193 H at_184 (flt hc196).2.2.2 (by decide) 191 rfl ?_
        refine gIconst X193 H at_191 (z := 0) rfl 192 rfl ?_
        refine gIstore X193 H at_192 (Ls' := #[vI p0, vI p1, vI p2, vI 4, vR w_ApiKey_API_VERSIONS, vI 0, vI 3, vI (p1 &&& (3 : Int32)), vI ((((0 : Int32) + (p2 &&& (7 : Int32))) - (3 : Int32)).toInt16.toInt32), vI 1, vI 0, .unset]) rfl 194 rfl ?_
        refine gIload X193 H at_194 rfl 196 rfl ?_
        refine gIfY X193 H at_196 (by decide) (by decide) 208 rfl ?_
        refine gIconst X193 H at_208 (z := 0) rfl 209 rfl ?_
        refine gIstore X193 H at_209 (Ls' := #[vI p0, vI p1, vI p2, vI 4, vR w_ApiKey_API_VERSIONS, vI 0, vI 3, vI (p1 &&& (3 : Int32)), vI ((((0 : Int32) + (p2 &&& (7 : Int32))) - (3 : Int32)).toInt16.toInt32), vI 1, vI 0, vI 0]) rfl 211 rfl ?_
        refine gAload X193 H at_211 rfl rfl 213 rfl ?_
        refine gIload X193 H at_213 rfl 215 rfl ?_
        refine gVirt X193 H hZ hown (hw _ wd4) (hw _ wd5) (hw _ wd7) (hw _ wd6) (by decide) E_w_ApiKey_API_VERSIONS (hw _ wd8) (hw _ wd2) (rm198_1 B p2 hc195) e193 hml rfl pd0 rfl (W := 0) (argsL := [(.int ((((0 : Int32) + (p2 &&& (7 : Int32))) - (3 : Int32)).toInt16.toInt32))]) (rest := []) rfl rfl at_215 218 rfl ?_
        intro v200 T200 L200 hq200 X200
        obtain ⟨rfl, e200, rfl⟩ := hq200
        show Go _ _ _ _ (State.setTop _ (mkF _ 218 _ [(.int 0)]))
        refine gIload X200 H at_218 rfl 220 rfl ?_
        refine gCmpN X200 H at_220 (by decide) 223 rfl ?_
        refine gIconst X200 H at_223 (z := 1) rfl 224 rfl ?_
        refine gGoto X200 H at_224 (by decide) 228 rfl ?_
        exact gRetN X200 H hlk hret (t := .boolean) (by simp) at_228 e200 ⟨rfl, Fr.nil _⟩
    · refine gCmpY X193 H at_170 (flt hc195).2.1 (by decide) 177 rfl ?_
      refine gIconst X193 H at_177 (z := 0) rfl 178 rfl ?_
      refine gIstore X193 H at_178 (Ls' := #[vI p0, vI p1, vI p2, vI 4, vR w_ApiKey_API_VERSIONS, vI 0, vI 3, vI (p1 &&& (3 : Int32)), vI ((((0 : Int32) + (p2 &&& (7 : Int32))) - (3 : Int32)).toInt16.toInt32), vI 0, .unset, .unset]) rfl 180 rfl ?_
      refine gIload X193 H at_180 rfl 182 rfl ?_
      refine gIload X193 H at_182 rfl 184 rfl ?_
      by_cases hc201 : (3 : Int32) < ((((0 : Int32) + (p2 &&& (7 : Int32))) - (3 : Int32)).toInt16.toInt32)
      · refine gCmpN X193 H at_184 (tlt hc201).2.2.2 187 rfl ?_
        refine gIconst X193 H at_187 (z := 1) rfl 188 rfl ?_
        refine gGoto X193 H at_188 (by decide) 192 rfl ?_
        refine gIstore X193 H at_192 (Ls' := #[vI p0, vI p1, vI p2, vI 4, vR w_ApiKey_API_VERSIONS, vI 0, vI 3, vI (p1 &&& (3 : Int32)), vI ((((0 : Int32) + (p2 &&& (7 : Int32))) - (3 : Int32)).toInt16.toInt32), vI 0, vI 1, .unset]) rfl 194 rfl ?_
        refine gIload X193 H at_194 rfl 196 rfl ?_
        refine gIfN X193 H at_196 (by decide) 199 rfl ?_
        refine gIload X193 H at_199 rfl 201 rfl ?_
        refine gIfY X193 H at_201 (by decide) (by decide) 208 rfl ?_
        refine gIconst X193 H at_208 (z := 0) rfl 209 rfl ?_
        refine gIstore X193 H at_209 (Ls' := #[vI p0, vI p1, vI p2, vI 4, vR w_ApiKey_API_VERSIONS, vI 0, vI 3, vI (p1 &&& (3 : Int32)), vI ((((0 : Int32) + (p2 &&& (7 : Int32))) - (3 : Int32)).toInt16.toInt32), vI 0, vI 1, vI 0]) rfl 211 rfl ?_
        refine gAload X193 H at_211 rfl rfl 213 rfl ?_
        refine gIload X193 H at_213 rfl 215 rfl ?_
        refine gVirt X193 H hZ hown (hw _ wd4) (hw _ wd5) (hw _ wd7) (hw _ wd6) (by decide) E_w_ApiKey_API_VERSIONS (hw _ wd8) (hw _ wd2) (rm204_1 B p2 hc195 hc201) e193 hml rfl pd0 rfl (W := 0) (argsL := [(.int ((((0 : Int32) + (p2 &&& (7 : Int32))) - (3 : Int32)).toInt16.toInt32))]) (rest := []) rfl rfl at_215 218 rfl ?_
        intro v205 T205 L205 hq205 X205
        obtain ⟨rfl, e205, rfl⟩ := hq205
        show Go _ _ _ _ (State.setTop _ (mkF _ 218 _ [(.int 0)]))
        refine gIload X205 H at_218 rfl 220 rfl ?_
        refine gCmpN X205 H at_220 (by decide) 223 rfl ?_
        refine gIconst X205 H at_223 (z := 1) rfl 224 rfl ?_
        refine gGoto X205 H at_224 (by decide) 228 rfl ?_
        exact gRetN X205 H hlk hret (t := .boolean) (by simp) at_228 e205 ⟨rfl, Fr.nil _⟩
      · refine gCmpY X193 H at_184 (flt hc201).2.2.2 (by decide) 191 rfl ?_
        refine gIconst X193 H at_191 (z := 0) rfl 192 rfl ?_
        refine gIstore X193 H at_192 (Ls' := #[vI p0, vI p1, vI p2, vI 4, vR w_ApiKey_API_VERSIONS, vI 0, vI 3, vI (p1 &&& (3 : Int32)), vI ((((0 : Int32) + (p2 &&& (7 : Int32))) - (3 : Int32)).toInt16.toInt32), vI 0, vI 0, .unset]) rfl 194 rfl ?_
        refine gIload X193 H at_194 rfl 196 rfl ?_
        refine gIfN X193 H at_196 (by decide) 199 rfl ?_
        refine gIload X193 H at_199 rfl 201 rfl ?_
        refine gIfN X193 H at_201 (by decide) 204 rfl ?_
        refine gIconst X193 H at_204 (z := 1) rfl 205 rfl ?_
        refine gGoto X193 H at_205 (by decide) 209 rfl ?_
        refine gIstore X193 H at_209 (Ls' := #[vI p0, vI p1, vI p2, vI 4, vR w_ApiKey_API_VERSIONS, vI 0, vI 3, vI (p1 &&& (3 : Int32)), vI ((((0 : Int32) + (p2 &&& (7 : Int32))) - (3 : Int32)).toInt16.toInt32), vI 0, vI 0, vI 1]) rfl 211 rfl ?_
        refine gAload X193 H at_211 rfl rfl 213 rfl ?_
        refine gIload X193 H at_213 rfl 215 rfl ?_
        refine gVirt X193 H hZ hown (hw _ wd4) (hw _ wd5) (hw _ wd7) (hw _ wd6) (by decide) E_w_ApiKey_API_VERSIONS (hw _ wd8) (hw _ wd2) (rm208_1 B p2 hc195 hc201) e193 hml rfl pd0 rfl (W := 0) (argsL := [(.int ((((0 : Int32) + (p2 &&& (7 : Int32))) - (3 : Int32)).toInt16.toInt32))]) (rest := []) rfl rfl at_215 218 rfl ?_
        intro v209 T209 L209 hq209 X209
        obtain ⟨rfl, e209, rfl⟩ := hq209
        show Go _ _ _ _ (State.setTop _ (mkF _ 218 _ [(.int 1)]))
        refine gIload X209 H at_218 rfl 220 rfl ?_
        refine gCmpN X209 H at_220 (by decide) 223 rfl ?_
        refine gIconst X209 H at_223 (z := 1) rfl 224 rfl ?_
        refine gGoto X209 H at_224 (by decide) 228 rfl ?_
        exact gRetN X209 H hlk hret (t := .boolean) (by simp) at_228 e209 ⟨rfl, Fr.nil _⟩
  · refine gCmpY X193 H at_123 (feq hc194).2 (by decide) 141 rfl ?_
    refine gIload X193 H at_141 rfl 143 rfl ?_
    refine gIconst X193 H at_143 (z := 2) rfl 144 rfl ?_
    by_cases hc210 : (p1 &&& (3 : Int32)) = (2 : Int32)
    · refine gCmpN X193 H at_144 (teq hc210).2 147 rfl ?_
      refine gIload X193 H at_147 rfl 149 rfl ?_
      refine gIloadN X193 H at_149 rfl 150 rfl ?_
      refine gBipush X193 H at_150 (z := 7) rfl 152 rfl ?_
      refine g_iand X193 H at_152 (z := (p2 &&& (7 : Int32))) rfl 153 rfl ?_
      refine g_iadd X193 H at_153 (z := ((3 : Int32) + (p2 &&& (7 : Int32)))) rfl 154 rfl ?_
      refine gIconst X193 H at_154 (z := 4) rfl 155 rfl ?_
      refine g_isub X193 H at_155 (z := (((3 : Int32) + (p2 &&& (7 : Int32))) - (4 : Int32))) rfl 156 rfl ?_
      refine g_i2s X193 H at_156 (z := ((((3 : Int32) + (p2 &&& (7 : Int32))) - (4 : Int32)).toInt16.toInt32)) rfl 157 rfl ?_
      refine gIstore X193 H at_157 (Ls' := #[vI p0, vI p1, vI p2, vI 4, vR w_ApiKey_API_VERSIONS, vI 0, vI 3, vI (p1 &&& (3 : Int32)), vI ((((3 : Int32) + (p2 &&& (7 : Int32))) - (4 : Int32)).toInt16.toInt32), .unset, .unset, .unset]) rfl 159 rfl ?_
      refine gGoto X193 H at_159 (by decide) 166 rfl ?_
      refine gIload X193 H at_166 rfl 168 rfl ?_
      refine gIload X193 H at_168 rfl 170 rfl ?_
      by_cases hc211 : ((((3 : Int32) + (p2 &&& (7 : Int32))) - (4 : Int32)).toInt16.toInt32) < (0 : Int32)
      · refine gCmpN X193 H at_170 (tlt hc211).2.1 173 rfl ?_
        refine gIconst X193 H at_173 (z := 1) rfl 174 rfl ?_
        refine gGoto X193 H at_174 (by decide) 178 rfl ?_
        refine gIstore X193 H at_178 (Ls' := #[vI p0, vI p1, vI p2, vI 4, vR w_ApiKey_API_VERSIONS, vI 0, vI 3, vI (p1 &&& (3 : Int32)), vI ((((3 : Int32) + (p2 &&& (7 : Int32))) - (4 : Int32)).toInt16.toInt32), vI 1, .unset, .unset]) rfl 180 rfl ?_
        refine gIload X193 H at_180 rfl 182 rfl ?_
        refine gIload X193 H at_182 rfl 184 rfl ?_
        by_cases hc212 : (3 : Int32) < ((((3 : Int32) + (p2 &&& (7 : Int32))) - (4 : Int32)).toInt16.toInt32)
        · refine gCmpN X193 H at_184 (tlt hc212).2.2.2 187 rfl ?_
          refine gIconst X193 H at_187 (z := 1) rfl 188 rfl ?_
          refine gGoto X193 H at_188 (by decide) 192 rfl ?_
          refine gIstore X193 H at_192 (Ls' := #[vI p0, vI p1, vI p2, vI 4, vR w_ApiKey_API_VERSIONS, vI 0, vI 3, vI (p1 &&& (3 : Int32)), vI ((((3 : Int32) + (p2 &&& (7 : Int32))) - (4 : Int32)).toInt16.toInt32), vI 1, vI 1, .unset]) rfl 194 rfl ?_
          refine gIload X193 H at_194 rfl 196 rfl ?_
          refine gIfY X193 H at_196 (by decide) (by decide) 208 rfl ?_
          refine gIconst X193 H at_208 (z := 0) rfl 209 rfl ?_
          refine gIstore X193 H at_209 (Ls' := #[vI p0, vI p1, vI p2, vI 4, vR w_ApiKey_API_VERSIONS, vI 0, vI 3, vI (p1 &&& (3 : Int32)), vI ((((3 : Int32) + (p2 &&& (7 : Int32))) - (4 : Int32)).toInt16.toInt32), vI 1, vI 1, vI 0]) rfl 211 rfl ?_
          refine gAload X193 H at_211 rfl rfl 213 rfl ?_
          refine gIload X193 H at_213 rfl 215 rfl ?_
          refine gVirt X193 H hZ hown (hw _ wd4) (hw _ wd5) (hw _ wd7) (hw _ wd6) (by decide) E_w_ApiKey_API_VERSIONS (hw _ wd8) (hw _ wd2) (rm214_1 B p2 hc211) e193 hml rfl pd0 rfl (W := 0) (argsL := [(.int ((((3 : Int32) + (p2 &&& (7 : Int32))) - (4 : Int32)).toInt16.toInt32))]) (rest := []) rfl rfl at_215 218 rfl ?_
          intro v215 T215 L215 hq215 X215
          obtain ⟨rfl, e215, rfl⟩ := hq215
          show Go _ _ _ _ (State.setTop _ (mkF _ 218 _ [(.int 0)]))
          refine gIload X215 H at_218 rfl 220 rfl ?_
          refine gCmpN X215 H at_220 (by decide) 223 rfl ?_
          refine gIconst X215 H at_223 (z := 1) rfl 224 rfl ?_
          refine gGoto X215 H at_224 (by decide) 228 rfl ?_
          exact gRetN X215 H hlk hret (t := .boolean) (by simp) at_228 e215 ⟨rfl, Fr.nil _⟩
        · refine gCmpY X193 H at_184 (flt hc212).2.2.2 (by decide) 191 rfl ?_
          refine gIconst X193 H at_191 (z := 0) rfl 192 rfl ?_
          refine gIstore X193 H at_192 (Ls' := #[vI p0, vI p1, vI p2, vI 4, vR w_ApiKey_API_VERSIONS, vI 0, vI 3, vI (p1 &&& (3 : Int32)), vI ((((3 : Int32) + (p2 &&& (7 : Int32))) - (4 : Int32)).toInt16.toInt32), vI 1, vI 0, .unset]) rfl 194 rfl ?_
          refine gIload X193 H at_194 rfl 196 rfl ?_
          refine gIfY X193 H at_196 (by decide) (by decide) 208 rfl ?_
          refine gIconst X193 H at_208 (z := 0) rfl 209 rfl ?_
          refine gIstore X193 H at_209 (Ls' := #[vI p0, vI p1, vI p2, vI 4, vR w_ApiKey_API_VERSIONS, vI 0, vI 3, vI (p1 &&& (3 : Int32)), vI ((((3 : Int32) + (p2 &&& (7 : Int32))) - (4 : Int32)).toInt16.toInt32), vI 1, vI 0, vI 0]) rfl 211 rfl ?_
          refine gAload X193 H at_211 rfl rfl 213 rfl ?_
          refine gIload X193 H at_213 rfl 215 rfl ?_
          refine gVirt X193 H hZ hown (hw _ wd4) (hw _ wd5) (hw _ wd7) (hw _ wd6) (by decide) E_w_ApiKey_API_VERSIONS (hw _ wd8) (hw _ wd2) (rm214_1 B p2 hc211) e193 hml rfl pd0 rfl (W := 0) (argsL := [(.int ((((3 : Int32) + (p2 &&& (7 : Int32))) - (4 : Int32)).toInt16.toInt32))]) (rest := []) rfl rfl at_215 218 rfl ?_
          intro v216 T216 L216 hq216 X216
          obtain ⟨rfl, e216, rfl⟩ := hq216
          show Go _ _ _ _ (State.setTop _ (mkF _ 218 _ [(.int 0)]))
          refine gIload X216 H at_218 rfl 220 rfl ?_
          refine gCmpN X216 H at_220 (by decide) 223 rfl ?_
          refine gIconst X216 H at_223 (z := 1) rfl 224 rfl ?_
          refine gGoto X216 H at_224 (by decide) 228 rfl ?_
          exact gRetN X216 H hlk hret (t := .boolean) (by simp) at_228 e216 ⟨rfl, Fr.nil _⟩
      · refine gCmpY X193 H at_170 (flt hc211).2.1 (by decide) 177 rfl ?_
        refine gIconst X193 H at_177 (z := 0) rfl 178 rfl ?_
        refine gIstore X193 H at_178 (Ls' := #[vI p0, vI p1, vI p2, vI 4, vR w_ApiKey_API_VERSIONS, vI 0, vI 3, vI (p1 &&& (3 : Int32)), vI ((((3 : Int32) + (p2 &&& (7 : Int32))) - (4 : Int32)).toInt16.toInt32), vI 0, .unset, .unset]) rfl 180 rfl ?_
        refine gIload X193 H at_180 rfl 182 rfl ?_
        refine gIload X193 H at_182 rfl 184 rfl ?_
        by_cases hc217 : (3 : Int32) < ((((3 : Int32) + (p2 &&& (7 : Int32))) - (4 : Int32)).toInt16.toInt32)
        · refine gCmpN X193 H at_184 (tlt hc217).2.2.2 187 rfl ?_
          refine gIconst X193 H at_187 (z := 1) rfl 188 rfl ?_
          refine gGoto X193 H at_188 (by decide) 192 rfl ?_
          refine gIstore X193 H at_192 (Ls' := #[vI p0, vI p1, vI p2, vI 4, vR w_ApiKey_API_VERSIONS, vI 0, vI 3, vI (p1 &&& (3 : Int32)), vI ((((3 : Int32) + (p2 &&& (7 : Int32))) - (4 : Int32)).toInt16.toInt32), vI 0, vI 1, .unset]) rfl 194 rfl ?_
          refine gIload X193 H at_194 rfl 196 rfl ?_
          refine gIfN X193 H at_196 (by decide) 199 rfl ?_
          refine gIload X193 H at_199 rfl 201 rfl ?_
          refine gIfY X193 H at_201 (by decide) (by decide) 208 rfl ?_
          refine gIconst X193 H at_208 (z := 0) rfl 209 rfl ?_
          refine gIstore X193 H at_209 (Ls' := #[vI p0, vI p1, vI p2, vI 4, vR w_ApiKey_API_VERSIONS, vI 0, vI 3, vI (p1 &&& (3 : Int32)), vI ((((3 : Int32) + (p2 &&& (7 : Int32))) - (4 : Int32)).toInt16.toInt32), vI 0, vI 1, vI 0]) rfl 211 rfl ?_
          refine gAload X193 H at_211 rfl rfl 213 rfl ?_
          refine gIload X193 H at_213 rfl 215 rfl ?_
          refine gVirt X193 H hZ hown (hw _ wd4) (hw _ wd5) (hw _ wd7) (hw _ wd6) (by decide) E_w_ApiKey_API_VERSIONS (hw _ wd8) (hw _ wd2) (rm220_1 B p2 hc211 hc217) e193 hml rfl pd0 rfl (W := 0) (argsL := [(.int ((((3 : Int32) + (p2 &&& (7 : Int32))) - (4 : Int32)).toInt16.toInt32))]) (rest := []) rfl rfl at_215 218 rfl ?_
          intro v221 T221 L221 hq221 X221
          obtain ⟨rfl, e221, rfl⟩ := hq221
          show Go _ _ _ _ (State.setTop _ (mkF _ 218 _ [(.int 0)]))
          refine gIload X221 H at_218 rfl 220 rfl ?_
          refine gCmpN X221 H at_220 (by decide) 223 rfl ?_
          refine gIconst X221 H at_223 (z := 1) rfl 224 rfl ?_
          refine gGoto X221 H at_224 (by decide) 228 rfl ?_
          exact gRetN X221 H hlk hret (t := .boolean) (by simp) at_228 e221 ⟨rfl, Fr.nil _⟩
        · refine gCmpY X193 H at_184 (flt hc217).2.2.2 (by decide) 191 rfl ?_
          refine gIconst X193 H at_191 (z := 0) rfl 192 rfl ?_
          refine gIstore X193 H at_192 (Ls' := #[vI p0, vI p1, vI p2, vI 4, vR w_ApiKey_API_VERSIONS, vI 0, vI 3, vI (p1 &&& (3 : Int32)), vI ((((3 : Int32) + (p2 &&& (7 : Int32))) - (4 : Int32)).toInt16.toInt32), vI 0, vI 0, .unset]) rfl 194 rfl ?_
          refine gIload X193 H at_194 rfl 196 rfl ?_
          refine gIfN X193 H at_196 (by decide) 199 rfl ?_
          refine gIload X193 H at_199 rfl 201 rfl ?_
          refine gIfN X193 H at_201 (by decide) 204 rfl ?_
          refine gIconst X193 H at_204 (z := 1) rfl 205 rfl ?_
          refine gGoto X193 H at_205 (by decide) 209 rfl ?_
          refine gIstore X193 H at_209 (Ls' := #[vI p0, vI p1, vI p2, vI 4, vR w_ApiKey_API_VERSIONS, vI 0, vI 3, vI (p1 &&& (3 : Int32)), vI ((((3 : Int32) + (p2 &&& (7 : Int32))) - (4 : Int32)).toInt16.toInt32), vI 0, vI 0, vI 1]) rfl 211 rfl ?_
          refine gAload X193 H at_211 rfl rfl 213 rfl ?_
          refine gIload X193 H at_213 rfl 215 rfl ?_
          refine gVirt X193 H hZ hown (hw _ wd4) (hw _ wd5) (hw _ wd7) (hw _ wd6) (by decide) E_w_ApiKey_API_VERSIONS (hw _ wd8) (hw _ wd2) (rm224_1 B p2 hc211 hc217) e193 hml rfl pd0 rfl (W := 0) (argsL := [(.int ((((3 : Int32) + (p2 &&& (7 : Int32))) - (4 : Int32)).toInt16.toInt32))]) (rest := []) rfl rfl at_215 218 rfl ?_
          intro v225 T225 L225 hq225 X225
          obtain ⟨rfl, e225, rfl⟩ := hq225
          show Go _ _ _ _ (State.setTop _ (mkF _ 218 _ [(.int 1)]))
          refine gIload X225 H at_218 rfl 220 rfl ?_
          refine gCmpN X225 H at_220 (by decide) 223 rfl ?_
          refine gIconst X225 H at_223 (z := 1) rfl 224 rfl ?_
          refine gGoto X225 H at_224 (by decide) 228 rfl ?_
          exact gRetN X225 H hlk hret (t := .boolean) (by simp) at_228 e225 ⟨rfl, Fr.nil _⟩
    · refine gCmpY X193 H at_144 (feq hc210).2 (by decide) 162 rfl ?_
      refine gIloadN X193 H at_162 rfl 163 rfl ?_
      refine g_i2s X193 H at_163 (z := (p2.toInt16.toInt32)) rfl 164 rfl ?_
      refine gIstore X193 H at_164 (Ls' := #[vI p0, vI p1, vI p2, vI 4, vR w_ApiKey_API_VERSIONS, vI 0, vI 3, vI (p1 &&& (3 : Int32)), vI (p2.toInt16.toInt32), .unset, .unset, .unset]) rfl 166 rfl ?_
      refine gIload X193 H at_166 rfl 168 rfl ?_
      refine gIload X193 H at_168 rfl 170 rfl ?_
      by_cases hc226 : (p2.toInt16.toInt32) < (0 : Int32)
      · refine gCmpN X193 H at_170 (tlt hc226).2.1 173 rfl ?_
        refine gIconst X193 H at_173 (z := 1) rfl 174 rfl ?_
        refine gGoto X193 H at_174 (by decide) 178 rfl ?_
        refine gIstore X193 H at_178 (Ls' := #[vI p0, vI p1, vI p2, vI 4, vR w_ApiKey_API_VERSIONS, vI 0, vI 3, vI (p1 &&& (3 : Int32)), vI (p2.toInt16.toInt32), vI 1, .unset, .unset]) rfl 180 rfl ?_
        refine gIload X193 H at_180 rfl 182 rfl ?_
        refine gIload X193 H at_182 rfl 184 rfl ?_
        by_cases hc227 : (3 : Int32) < (p2.toInt16.toInt32)
        · refine gCmpN X193 H at_184 (tlt hc227).2.2.2 187 rfl ?_
          refine gIconst X193 H at_187 (z := 1) rfl 188 rfl ?_
          refine gGoto X193 H at_188 (by decide) 192 rfl ?_
          refine gIstore X193 H at_192 (Ls' := #[vI p0, vI p1, vI p2, vI 4, vR w_ApiKey_API_VERSIONS, vI 0, vI 3, vI (p1 &&& (3 : Int32)), vI (p2.toInt16.toInt32), vI 1, vI 1, .unset]) rfl 194 rfl ?_
          refine gIload X193 H at_194 rfl 196 rfl ?_
          refine gIfY X193 H at_196 (by decide) (by decide) 208 rfl ?_
          refine gIconst X193 H at_208 (z := 0) rfl 209 rfl ?_
          refine gIstore X193 H at_209 (Ls' := #[vI p0, vI p1, vI p2, vI 4, vR w_ApiKey_API_VERSIONS, vI 0, vI 3, vI (p1 &&& (3 : Int32)), vI (p2.toInt16.toInt32), vI 1, vI 1, vI 0]) rfl 211 rfl ?_
          refine gAload X193 H at_211 rfl rfl 213 rfl ?_
          refine gIload X193 H at_213 rfl 215 rfl ?_
          refine gVirt X193 H hZ hown (hw _ wd4) (hw _ wd5) (hw _ wd7) (hw _ wd6) (by decide) E_w_ApiKey_API_VERSIONS (hw _ wd8) (hw _ wd2) (rm229_1 B p2 hc226) e193 hml rfl pd0 rfl (W := 0) (argsL := [(.int (p2.toInt16.toInt32))]) (rest := []) rfl rfl at_215 218 rfl ?_
          intro v230 T230 L230 hq230 X230
          obtain ⟨rfl, e230, rfl⟩ := hq230
          show Go _ _ _ _ (State.setTop _ (mkF _ 218 _ [(.int 0)]))
          refine gIload X230 H at_218 rfl 220 rfl ?_
          refine gCmpN X230 H at_220 (by decide) 223 rfl ?_
          refine gIconst X230 H at_223 (z := 1) rfl 224 rfl ?_
          refine gGoto X230 H at_224 (by decide) 228 rfl ?_
          exact gRetN X230 H hlk hret (t := .boolean) (by simp) at_228 e230 ⟨rfl, Fr.nil _⟩
        · refine gCmpY X193 H at_184 (flt hc227).2.2.2 (by decide) 191 rfl ?_
          refine gIconst X193 H at_191 (z := 0) rfl 192 rfl ?_
          refine gIstore X193 H at_192 (Ls' := #[vI p0, vI p1, vI p2, vI 4, vR w_ApiKey_API_VERSIONS, vI 0, vI 3, vI (p1 &&& (3 : Int32)), vI (p2.toInt16.toInt32), vI 1, vI 0, .unset]) rfl 194 rfl ?_
          refine gIload X193 H at_194 rfl 196 rfl ?_
          refine gIfY X193 H at_196 (by decide) (by decide) 208 rfl ?_
          refine gIconst X193 H at_208 (z := 0) rfl 209 rfl ?_
          refine gIstore X193 H at_209 (Ls' := #[vI p0, vI p1, vI p2, vI 4, vR w_ApiKey_API_VERSIONS, vI 0, vI 3, vI (p1 &&& (3 : Int32)), vI (p2.toInt16.toInt32), vI 1, vI 0, vI 0]) rfl 211 rfl ?_
          refine gAload X193 H at_211 rfl rfl 213 rfl ?_
          refine gIload X193 H at_213 rfl 215 rfl ?_
          refine gVirt X193 H hZ hown (hw _ wd4) (hw _ wd5) (hw _ wd7) (hw _ wd6) (by decide) E_w_ApiKey_API_VERSIONS (hw _ wd8) (hw _ wd2) (rm229_1 B p2 hc226) e193 hml rfl pd0 rfl (W := 0) (argsL := [(.int (p2.toInt16.toInt32))]) (rest := []) rfl rfl at_215 218 rfl ?_
          intro v231 T231 L231 hq231 X231
          obtain ⟨rfl, e231, rfl⟩ := hq231
          show Go _ _ _ _ (State.setTop _ (mkF _ 218 _ [(.int 0)]))
          refine gIload X231 H at_218 rfl 220 rfl ?_
          refine gCmpN X231 H at_220 (by decide) 223 rfl ?_
          refine gIconst X231 H at_223 (z := 1) rfl 224 rfl ?_
          refine gGoto X231 H at_224 (by decide) 228 rfl ?_
          exact gRetN X231 H hlk hret (t := .boolean) (by simp) at_228 e231 ⟨rfl, Fr.nil _⟩
      · refine gCmpY X193 H at_170 (flt hc226).2.1 (by decide) 177 rfl ?_
        refine gIconst X193 H at_177 (z := 0) rfl 178 rfl ?_
        refine gIstore X193 H at_178 (Ls' := #[vI p0, vI p1, vI p2, vI 4, vR w_ApiKey_API_VERSIONS, vI 0, vI 3, vI (p1 &&& (3 : Int32)), vI (p2.toInt16.toInt32), vI 0, .unset, .unset]) rfl 180 rfl ?_
        refine gIload X193 H at_180 rfl 182 rfl ?_
        refine gIload X193 H at_182 rfl 184 rfl ?_
        by_cases hc232 : (3 : Int32) < (p2.toInt16.toInt32)
        · refine gCmpN X193 H at_184 (tlt hc232).2.2.2 187 rfl ?_
          refine gIconst X193 H at_187 (z := 1) rfl 188 rfl ?_
          refine gGoto X193 H at_188 (by decide) 192 rfl ?_
          refine gIstore X193 H at_192 (Ls' := #[vI p0, vI p1, vI p2, vI 4, vR w_ApiKey_API_VERSIONS, vI 0, vI 3, vI (p1 &&& (3 : Int32)), vI (p2.toInt16.toInt32), vI 0, vI 1, .unset]) rfl 194 rfl ?_
          refine gIload X193 H at_194 rfl 196 rfl ?_
          refine gIfN X193 H at_196 (by decide) 199 rfl ?_
          refine gIload X193 H at_199 rfl 201 rfl ?_
          refine gIfY X193 H at_201 (by decide) (by decide) 208 rfl ?_
          refine gIconst X193 H at_208 (z := 0) rfl 209 rfl ?_
          refine gIstore X193 H at_209 (Ls' := #[vI p0, vI p1, vI p2, vI 4, vR w_ApiKey_API_VERSIONS, vI 0, vI 3, vI (p1 &&& (3 : Int32)), vI (p2.toInt16.toInt32), vI 0, vI 1, vI 0]) rfl 211 rfl ?_
          refine gAload X193 H at_211 rfl rfl 213 rfl ?_
          refine gIload X193 H at_213 rfl 215 rfl ?_
          refine gVirt X193 H hZ hown (hw _ wd4) (hw _ wd5) (hw _ wd7) (hw _ wd6) (by decide) E_w_ApiKey_API_VERSIONS (hw _ wd8) (hw _ wd2) (rm235_1 B p2 hc226 hc232) e193 hml rfl pd0 rfl (W := 0) (argsL := [(.int (p2.toInt16.toInt32))]) (rest := []) rfl rfl at_215 218 rfl ?_
          intro v236 T236 L236 hq236 X236
          obtain ⟨rfl, e236, rfl⟩ := hq236
          show Go _ _ _ _ (State.setTop _ (mkF _ 218 _ [(.int 0)]))
          refine gIload X236 H at_218 rfl 220 rfl ?_
          refine gCmpN X236 H at_220 (by decide) 223 rfl ?_
          refine gIconst X236 H at_223 (z := 1) rfl 224 rfl ?_
          refine gGoto X236 H at_224 (by decide) 228 rfl ?_
          exact gRetN X236 H hlk hret (t := .boolean) (by simp) at_228 e236 ⟨rfl, Fr.nil _⟩
        · refine gCmpY X193 H at_184 (flt hc232).2.2.2 (by decide) 191 rfl ?_
          refine gIconst X193 H at_191 (z := 0) rfl 192 rfl ?_
          refine gIstore X193 H at_192 (Ls' := #[vI p0, vI p1, vI p2, vI 4, vR w_ApiKey_API_VERSIONS, vI 0, vI 3, vI (p1 &&& (3 : Int32)), vI (p2.toInt16.toInt32), vI 0, vI 0, .unset]) rfl 194 rfl ?_
          refine gIload X193 H at_194 rfl 196 rfl ?_
          refine gIfN X193 H at_196 (by decide) 199 rfl ?_
          refine gIload X193 H at_199 rfl 201 rfl ?_
          refine gIfN X193 H at_201 (by decide) 204 rfl ?_
          refine gIconst X193 H at_204 (z := 1) rfl 205 rfl ?_
          refine gGoto X193 H at_205 (by decide) 209 rfl ?_
          refine gIstore X193 H at_209 (Ls' := #[vI p0, vI p1, vI p2, vI 4, vR w_ApiKey_API_VERSIONS, vI 0, vI 3, vI (p1 &&& (3 : Int32)), vI (p2.toInt16.toInt32), vI 0, vI 0, vI 1]) rfl 211 rfl ?_
          refine gAload X193 H at_211 rfl rfl 213 rfl ?_
          refine gIload X193 H at_213 rfl 215 rfl ?_
          refine gVirt X193 H hZ hown (hw _ wd4) (hw _ wd5) (hw _ wd7) (hw _ wd6) (by decide) E_w_ApiKey_API_VERSIONS (hw _ wd8) (hw _ wd2) (rm239_1 B p2 hc226 hc232) e193 hml rfl pd0 rfl (W := 0) (argsL := [(.int (p2.toInt16.toInt32))]) (rest := []) rfl rfl at_215 218 rfl ?_
          intro v240 T240 L240 hq240 X240
          obtain ⟨rfl, e240, rfl⟩ := hq240
          show Go _ _ _ _ (State.setTop _ (mkF _ 218 _ [(.int 1)]))
          refine gIload X240 H at_218 rfl 220 rfl ?_
          refine gCmpN X240 H at_220 (by decide) 223 rfl ?_
          refine gIconst X240 H at_223 (z := 1) rfl 224 rfl ?_
          refine gGoto X240 H at_224 (by decide) 228 rfl ?_
          exact gRetN X240 H hlk hret (t := .boolean) (by simp) at_228 e240 ⟨rfl, Fr.nil _⟩
theorem rm245_1 (B : Bg Z a0 w_ApiKey_PRODUCE w_ApiKey_FETCH w_ApiKey_LIST_OFFSETS w_ApiKey_OFFSET_FOR_LEADER_EPOCH w_ApiKey_METADATA w_ApiKey_API_VERSIONS) (p2 : Int32) (hk1 : ((((3 : Int32) + (p2 &&& (7 : Int32))) - (3 : Int32)).toInt16.toInt32) < (3 : Int32)) :
    Con l Z (⟨"com/example/rolling_quorum/rollingquorum/protocol/ApiKey", "supports", "(S)Z"⟩ : MethodName) prog_29_method_8_code 2 (some .boolean) ({ frames := 0, cells := 0, slots := 0, locals := 0 } : Room) #[(.ref w_ApiKey_OFFSET_FOR_LEADER_EPOCH), (.int ((((3 : Int32) + (p2 &&& (7 : Int32))) - (3 : Int32)).toInt16.toInt32))] Z.heap (fun v h' L => v = some (.int 0) ∧ h' = Z.heap ∧ L = []) := by
  have hw := B.1
  obtain ⟨S_w_ApiKey_PRODUCE, E_w_ApiKey_PRODUCE, S_w_ApiKey_FETCH, E_w_ApiKey_FETCH, S_w_ApiKey_LIST_OFFSETS, E_w_ApiKey_LIST_OFFSETS, S_w_ApiKey_OFFSET_FOR_LEADER_EPOCH, E_w_ApiKey_OFFSET_FOR_LEADER_EPOCH, S_w_ApiKey_METADATA, E_w_ApiKey_METADATA, S_w_ApiKey_API_VERSIONS, E_w_ApiKey_API_VERSIONS, F_w_ApiKey_PRODUCE_minVersion, F_w_ApiKey_FETCH_minVersion, F_w_ApiKey_LIST_OFFSETS_minVersion, F_w_ApiKey_LIST_OFFSETS_maxVersion, F_w_ApiKey_OFFSET_FOR_LEADER_EPOCH_minVersion, F_w_ApiKey_OFFSET_FOR_LEADER_EPOCH_maxVersion, F_w_ApiKey_FETCH_maxVersion, F_w_ApiKey_METADATA_minVersion, F_w_ApiKey_API_VERSIONS_minVersion, F_w_ApiKey_API_VERSIONS_maxVersion, F_w_ApiKey_PRODUCE_maxVersion, F_w_ApiKey_METADATA_maxVersion⟩ := B.2
  refine Con.of (plainFor_of_name pn1) (Ls := #[vR w_ApiKey_OFFSET_FOR_LEADER_EPOCH, vI ((((3 : Int32) + (p2 &&& (7 : Int32))) - (3 : Int32)).toInt16.toInt32)]) (fun m => by first | rfl | (simp [entryFrame, mkF, argsToLocals, Value.category]; done)) ?_
  intro p e s m below meth c T0 X0 H hml hZ hown hnm hret hlk e0
  refine gIloadN X0 H d1_0 rfl 1 rfl ?_
  refine gAloadN X0 H d1_1 rfl rfl 2 rfl ?_
  refine gGetF X0 H hZ hown (hw _ wd9) Via.refl e0 F_w_ApiKey_OFFSET_FOR_LEADER_EPOCH_minVersion d1_2 5 rfl ?_
  intro T244 X244 e244
  refine gCmpY X244 H d1_5 (tlt hk1).1 (by decide) 20 rfl ?_
  refine gIconst X244 H d1_20 (z := 0) rfl 21 rfl ?_
  exact gRetN X244 H hlk hret (t := .boolean) (by simp) d1_21 e244 ⟨rfl, rfl, rfl⟩
theorem rm250_1 (B : Bg Z a0 w_ApiKey_PRODUCE w_ApiKey_FETCH w_ApiKey_LIST_OFFSETS w_ApiKey_OFFSET_FOR_LEADER_EPOCH w_ApiKey_METADATA w_ApiKey_API_VERSIONS) (p2 : Int32) (hk1 : ¬ (((((3 : Int32) + (p2 &&& (7 : Int32))) - (3 : Int32)).toInt16.toInt32) < (3 : Int32))) (hk2 : (3 : Int32) < ((((3 : Int32) + (p2 &&& (7 : Int32))) - (3 : Int32)).toInt16.toInt32)) :
    Con l Z (⟨"com/example/rolling_quorum/rollingquorum/protocol/ApiKey", "supports", "(S)Z"⟩ : MethodName) prog_29_method_8_code 2 (some .boolean) ({ frames := 0, cells := 0, slots := 0, locals := 0 } : Room) #[(.ref w_ApiKey_OFFSET_FOR_LEADER_EPOCH), (.int ((((3 : Int32) + (p2 &&& (7 : Int32))) - (3 : Int32)).toInt16.toInt32))] Z.heap (fun v h' L => v = some (.int 0) ∧ h' = Z.heap ∧ L = []) := by
  have hw := B.1
  obtain ⟨S_w_ApiKey_PRODUCE, E_w_ApiKey_PRODUCE, S_w_ApiKey_FETCH, E_w_ApiKey_FETCH, S_w_ApiKey_LIST_OFFSETS, E_w_ApiKey_LIST_OFFSETS, S_w_ApiKey_OFFSET_FOR_LEADER_EPOCH, E_w_ApiKey_OFFSET_FOR_LEADER_EPOCH, S_w_ApiKey_METADATA, E_w_ApiKey_METADATA, S_w_ApiKey_API_VERSIONS, E_w_ApiKey_API_VERSIONS, F_w_ApiKey_PRODUCE_minVersion, F_w_ApiKey_FETCH_minVersion, F_w_ApiKey_LIST_OFFSETS_minVersion, F_w_ApiKey_LIST_OFFSETS_maxVersion, F_w_ApiKey_OFFSET_FOR_LEADER_EPOCH_minVersion, F_w_ApiKey_OFFSET_FOR_LEADER_EPOCH_maxVersion, F_w_ApiKey_FETCH_maxVersion, F_w_ApiKey_METADATA_minVersion, F_w_ApiKey_API_VERSIONS_minVersion, F_w_ApiKey_API_VERSIONS_maxVersion, F_w_ApiKey_PRODUCE_maxVersion, F_w_ApiKey_METADATA_maxVersion⟩ := B.2
  refine Con.of (plainFor_of_name pn1) (Ls := #[vR w_ApiKey_OFFSET_FOR_LEADER_EPOCH, vI ((((3 : Int32) + (p2 &&& (7 : Int32))) - (3 : Int32)).toInt16.toInt32)]) (fun m => by first | rfl | (simp [entryFrame, mkF, argsToLocals, Value.category]; done)) ?_
  intro p e s m below meth c T0 X0 H hml hZ hown hnm hret hlk e0
  refine gIloadN X0 H d1_0 rfl 1 rfl ?_
  refine gAloadN X0 H d1_1 rfl rfl 2 rfl ?_
  refine gGetF X0 H hZ hown (hw _ wd9) Via.refl e0 F_w_ApiKey_OFFSET_FOR_LEADER_EPOCH_minVersion d1_2 5 rfl ?_
  intro T248 X248 e248
  refine gCmpN X248 H d1_5 (flt hk1).1 8 rfl ?_
  refine gIloadN X248 H d1_8 rfl 9 rfl ?_
  refine gAloadN X248 H d1_9 rfl rfl 10 rfl ?_
  refine gGetF X248 H hZ hown (hw _ wd15) Via.refl e248 F_w_ApiKey_OFFSET_FOR_LEADER_EPOCH_maxVersion d1_10 13 rfl ?_
  intro T249 X249 e249
  refine gCmpY X249 H d1_13 (tlt hk2).2.2.1 (by decide) 20 rfl ?_
  refine gIconst X249 H d1_20 (z := 0) rfl 21 rfl ?_
  exact gRetN X249 H hlk hret (t := .boolean) (by simp) d1_21 e249 ⟨rfl, rfl, rfl⟩
theorem rm254_1 (B : Bg Z a0 w_ApiKey_PRODUCE w_ApiKey_FETCH w_ApiKey_LIST_OFFSETS w_ApiKey_OFFSET_FOR_LEADER_EPOCH w_ApiKey_METADATA w_ApiKey_API_VERSIONS) (p2 : Int32) (hk1 : ¬ (((((3 : Int32) + (p2 &&& (7 : Int32))) - (3 : Int32)).toInt16.toInt32) < (3 : Int32))) (hk2 : ¬ ((3 : Int32) < ((((3 : Int32) + (p2 &&& (7 : Int32))) - (3 : Int32)).toInt16.toInt32))) :
    Con l Z (⟨"com/example/rolling_quorum/rollingquorum/protocol/ApiKey", "supports", "(S)Z"⟩ : MethodName) prog_29_method_8_code 2 (some .boolean) ({ frames := 0, cells := 0, slots := 0, locals := 0 } : Room) #[(.ref w_ApiKey_OFFSET_FOR_LEADER_EPOCH), (.int ((((3 : Int32) + (p2 &&& (7 : Int32))) - (3 : Int32)).toInt16.toInt32))] Z.heap (fun v h' L => v = some (.int 1) ∧ h' = Z.heap ∧ L = []) := by
  have hw := B.1
  obtain ⟨S_w_ApiKey_PRODUCE, E_w_ApiKey_PRODUCE, S_w_ApiKey_FETCH, E_w_ApiKey_FETCH, S_w_ApiKey_LIST_OFFSETS, E_w_ApiKey_LIST_OFFSETS, S_w_ApiKey_OFFSET_FOR_LEADER_EPOCH, E_w_ApiKey_OFFSET_FOR_LEADER_EPOCH, S_w_ApiKey_METADATA, E_w_ApiKey_METADATA, S_w_ApiKey_API_VERSIONS, E_w_ApiKey_API_VERSIONS, F_w_ApiKey_PRODUCE_minVersion, F_w_ApiKey_FETCH_minVersion, F_w_ApiKey_LIST_OFFSETS_minVersion, F_w_ApiKey_LIST_OFFSETS_maxVersion, F_w_ApiKey_OFFSET_FOR_LEADER_EPOCH_minVersion, F_w_ApiKey_OFFSET_FOR_LEADER_EPOCH_maxVersion, F_w_ApiKey_FETCH_maxVersion, F_w_ApiKey_METADATA_minVersion, F_w_ApiKey_API_VERSIONS_minVersion, F_w_ApiKey_API_VERSIONS_maxVersion, F_w_ApiKey_PRODUCE_maxVersion, F_w_ApiKey_METADATA_maxVersion⟩ := B.2
  refine Con.of (plainFor_of_name pn1) (Ls := #[vR w_ApiKey_OFFSET_FOR_LEADER_EPOCH, vI ((((3 : Int32) + (p2 &&& (7 : Int32))) - (3 : Int32)).toInt16.toInt32)]) (fun m => by first | rfl | (simp [entryFrame, mkF, argsToLocals, Value.category]; done)) ?_
  intro p e s m below meth c T0 X0 H hml hZ hown hnm hret hlk e0
  refine gIloadN X0 H d1_0 rfl 1 rfl ?_
  refine gAloadN X0 H d1_1 rfl rfl 2 rfl ?_
  refine gGetF X0 H hZ hown (hw _ wd9) Via.refl e0 F_w_ApiKey_OFFSET_FOR_LEADER_EPOCH_minVersion d1_2 5 rfl ?_
  intro T252 X252 e252
  refine gCmpN X252 H d1_5 (flt hk1).1 8 rfl ?_
  refine gIloadN X252 H d1_8 rfl 9 rfl ?_
  refine gAloadN X252 H d1_9 rfl rfl 10 rfl ?_
  refine gGetF X252 H hZ hown (hw _ wd15) Via.refl e252 F_w_ApiKey_OFFSET_FOR_LEADER_EPOCH_maxVersion d1_10 13 rfl ?_
  intro T253 X253 e253
  refine gCmpN X253 H d1_13 (flt hk2).2.2.1 16 rfl ?_
  refine gIconst X253 H d1_16 (z := 1) rfl 17 rfl ?_
  refine gGoto X253 H d1_17 (by decide) 21 rfl ?_
  exact gRetN X253 H hlk hret (t := .boolean) (by simp) d1_21 e253 ⟨rfl, rfl, rfl⟩
theorem rm259_1 (B : Bg Z a0 w_ApiKey_PRODUCE w_ApiKey_FETCH w_ApiKey_LIST_OFFSETS w_ApiKey_OFFSET_FOR_LEADER_EPOCH w_ApiKey_METADATA w_ApiKey_API_VERSIONS) (p2 : Int32) (hk2 : ((((3 : Int32) + (p2 &&& (7 : Int32))) - (4 : Int32)).toInt16.toInt32) < (3 : Int32)) :
    Con l Z (⟨"com/example/rolling_quorum/rollingquorum/protocol/ApiKey", "supports", "(S)Z"⟩ : MethodName) prog_29_method_8_code 2 (some .boolean) ({ frames := 0, cells := 0, slots := 0, locals := 0 } : Room) #[(.ref w_ApiKey_OFFSET_FOR_LEADER_EPOCH), (.int ((((3 : Int32) + (p2 &&& (7 : Int32))) - (4 : Int32)).toInt16.toInt32))] Z.heap (fun v h' L => v = some (.int 0) ∧ h' = Z.heap ∧ L = []) := by
  have hw := B.1
  obtain ⟨S_w_ApiKey_PRODUCE, E_w_ApiKey_PRODUCE, S_w_ApiKey_FETCH, E_w_ApiKey_FETCH, S_w_ApiKey_LIST_OFFSETS, E_w_ApiKey_LIST_OFFSETS, S_w_ApiKey_OFFSET_FOR_LEADER_EPOCH, E_w_ApiKey_OFFSET_FOR_LEADER_EPOCH, S_w_ApiKey_METADATA, E_w_ApiKey_METADATA, S_w_ApiKey_API_VERSIONS, E_w_ApiKey_API_VERSIONS, F_w_ApiKey_PRODUCE_minVersion, F_w_ApiKey_FETCH_minVersion, F_w_ApiKey_LIST_OFFSETS_minVersion, F_w_ApiKey_LIST_OFFSETS_maxVersion, F_w_ApiKey_OFFSET_FOR_LEADER_EPOCH_minVersion, F_w_ApiKey_OFFSET_FOR_LEADER_EPOCH_maxVersion, F_w_ApiKey_FETCH_maxVersion, F_w_ApiKey_METADATA_minVersion, F_w_ApiKey_API_VERSIONS_minVersion, F_w_ApiKey_API_VERSIONS_maxVersion, F_w_ApiKey_PRODUCE_maxVersion, F_w_ApiKey_METADATA_maxVersion⟩ := B.2
  refine Con.of (plainFor_of_name pn1) (Ls := #[vR w_ApiKey_OFFSET_FOR_LEADER_EPOCH, vI ((((3 : Int32) + (p2 &&& (7 : Int32))) - (4 : Int32)).toInt16.toInt32)]) (fun m => by first | rfl | (simp [entryFrame, mkF, argsToLocals, Value.category]; done)) ?_
  intro p e s m below meth c T0 X0 H hml hZ hown hnm hret hlk e0
  refine gIloadN X0 H d1_0 rfl 1 rfl ?_
  refine gAloadN X0 H d1_1 rfl rfl 2 rfl ?_
  refine gGetF X0 H hZ hown (hw _ wd9) Via.refl e0 F_w_ApiKey_OFFSET_FOR_LEADER_EPOCH_minVersion d1_2 5 rfl ?_
  intro T258 X258 e258
  refine gCmpY X258 H d1_5 (tlt hk2).1 (by decide) 20 rfl ?_
  refine gIconst X258 H d1_20 (z := 0) rfl 21 rfl ?_
  exact gRetN X258 H hlk hret (t := .boolean) (by simp) d1_21 e258 ⟨rfl, rfl, rfl⟩
theorem rm264_1 (B : Bg Z a0 w_ApiKey_PRODUCE w_ApiKey_FETCH w_ApiKey_LIST_OFFSETS w_ApiKey_OFFSET_FOR_LEADER_EPOCH w_ApiKey_METADATA w_ApiKey_API_VERSIONS) (p2 : Int32) (hk2 : ¬ (((((3 : Int32) + (p2 &&& (7 : Int32))) - (4 : Int32)).toInt16.toInt32) < (3 : Int32))) (hk3 : (3 : Int32) < ((((3 : Int32) + (p2 &&& (7 : Int32))) - (4 : Int32)).toInt16.toInt32)) :
    Con l Z (⟨"com/example/rolling_quorum/rollingquorum/protocol/ApiKey", "supports", "(S)Z"⟩ : MethodName) prog_29_method_8_code 2 (some .boolean) ({ frames := 0, cells := 0, slots := 0, locals := 0 } : Room) #[(.ref w_ApiKey_OFFSET_FOR_LEADER_EPOCH), (.int ((((3 : Int32) + (p2 &&& (7 : Int32))) - (4 : Int32)).toInt16.toInt32))] Z.heap (fun v h' L => v = some (.int 0) ∧ h' = Z.heap ∧ L = []) := by
  have hw := B.1
  obtain ⟨S_w_ApiKey_PRODUCE, E_w_ApiKey_PRODUCE, S_w_ApiKey_FETCH, E_w_ApiKey_FETCH, S_w_ApiKey_LIST_OFFSETS, E_w_ApiKey_LIST_OFFSETS, S_w_ApiKey_OFFSET_FOR_LEADER_EPOCH, E_w_ApiKey_OFFSET_FOR_LEADER_EPOCH, S_w_ApiKey_METADATA, E_w_ApiKey_METADATA, S_w_ApiKey_API_VERSIONS, E_w_ApiKey_API_VERSIONS, F_w_ApiKey_PRODUCE_minVersion, F_w_ApiKey_FETCH_minVersion, F_w_ApiKey_LIST_OFFSETS_minVersion, F_w_ApiKey_LIST_OFFSETS_maxVersion, F_w_ApiKey_OFFSET_FOR_LEADER_EPOCH_minVersion, F_w_ApiKey_OFFSET_FOR_LEADER_EPOCH_maxVersion, F_w_ApiKey_FETCH_maxVersion, F_w_ApiKey_METADATA_minVersion, F_w_ApiKey_API_VERSIONS_minVersion, F_w_ApiKey_API_VERSIONS_maxVersion, F_w_ApiKey_PRODUCE_maxVersion, F_w_ApiKey_METADATA_maxVersion⟩ := B.2
  refine Con.of (plainFor_of_name pn1) (Ls := #[vR w_ApiKey_OFFSET_FOR_LEADER_EPOCH, vI ((((3 : Int32) + (p2 &&& (7 : Int32))) - (4 : Int32)).toInt16.toInt32)]) (fun m => by first | rfl | (simp [entryFrame, mkF, argsToLocals, Value.category]; done)) ?_
  intro p e s m below meth c T0 X0 H hml hZ hown hnm hret hlk e0
  refine gIloadN X0 H d1_0 rfl 1 rfl ?_
  refine gAloadN X0 H d1_1 rfl rfl 2 rfl ?_
  refine gGetF X0 H hZ hown (hw _ wd9) Via.refl e0 F_w_ApiKey_OFFSET_FOR_LEADER_EPOCH_minVersion d1_2 5 rfl ?_
  intro T262 X262 e262
  refine gCmpN X262 H d1_5 (flt hk2).1 8 rfl ?_
  refine gIloadN X262 H d1_8 rfl 9 rfl ?_
  refine gAloadN X262 H d1_9 rfl rfl 10 rfl ?_
  refine gGetF X262 H hZ hown (hw _ wd15) Via.refl e262 F_w_ApiKey_OFFSET_FOR_LEADER_EPOCH_maxVersion d1_10 13 rfl ?_
  intro T263 X263 e263
  refine gCmpY X263 H d1_13 (tlt hk3).2.2.1 (by decide) 20 rfl ?_
  refine gIconst X263 H d1_20 (z := 0) rfl 21 rfl ?_
  exact gRetN X263 H hlk hret (t := .boolean) (by simp) d1_21 e263 ⟨rfl, rfl, rfl⟩
theorem rm268_1 (B : Bg Z a0 w_ApiKey_PRODUCE w_ApiKey_FETCH w_ApiKey_LIST_OFFSETS w_ApiKey_OFFSET_FOR_LEADER_EPOCH w_ApiKey_METADATA w_ApiKey_API_VERSIONS) (p2 : Int32) (hk2 : ¬ (((((3 : Int32) + (p2 &&& (7 : Int32))) - (4 : Int32)).toInt16.toInt32) < (3 : Int32))) (hk3 : ¬ ((3 : Int32) < ((((3 : Int32) + (p2 &&& (7 : Int32))) - (4 : Int32)).toInt16.toInt32))) :
    Con l Z (⟨"com/example/rolling_quorum/rollingquorum/protocol/ApiKey", "supports", "(S)Z"⟩ : MethodName) prog_29_method_8_code 2 (some .boolean) ({ frames := 0, cells := 0, slots := 0, locals := 0 } : Room) #[(.ref w_ApiKey_OFFSET_FOR_LEADER_EPOCH), (.int ((((3 : Int32) + (p2 &&& (7 : Int32))) - (4 : Int32)).toInt16.toInt32))] Z.heap (fun v h' L => v = some (.int 1) ∧ h' = Z.heap ∧ L = []) := by
  have hw := B.1
  obtain ⟨S_w_ApiKey_PRODUCE, E_w_ApiKey_PRODUCE, S_w_ApiKey_FETCH, E_w_ApiKey_FETCH, S_w_ApiKey_LIST_OFFSETS, E_w_ApiKey_LIST_OFFSETS, S_w_ApiKey_OFFSET_FOR_LEADER_EPOCH, E_w_ApiKey_OFFSET_FOR_LEADER_EPOCH, S_w_ApiKey_METADATA, E_w_ApiKey_METADATA, S_w_ApiKey_API_VERSIONS, E_w_ApiKey_API_VERSIONS, F_w_ApiKey_PRODUCE_minVersion, F_w_ApiKey_FETCH_minVersion, F_w_ApiKey_LIST_OFFSETS_minVersion, F_w_ApiKey_LIST_OFFSETS_maxVersion, F_w_ApiKey_OFFSET_FOR_LEADER_EPOCH_minVersion, F_w_ApiKey_OFFSET_FOR_LEADER_EPOCH_maxVersion, F_w_ApiKey_FETCH_maxVersion, F_w_ApiKey_METADATA_minVersion, F_w_ApiKey_API_VERSIONS_minVersion, F_w_ApiKey_API_VERSIONS_maxVersion, F_w_ApiKey_PRODUCE_maxVersion, F_w_ApiKey_METADATA_maxVersion⟩ := B.2
  refine Con.of (plainFor_of_name pn1) (Ls := #[vR w_ApiKey_OFFSET_FOR_LEADER_EPOCH, vI ((((3 : Int32) + (p2 &&& (7 : Int32))) - (4 : Int32)).toInt16.toInt32)]) (fun m => by first | rfl | (simp [entryFrame, mkF, argsToLocals, Value.category]; done)) ?_
  intro p e s m below meth c T0 X0 H hml hZ hown hnm hret hlk e0
  refine gIloadN X0 H d1_0 rfl 1 rfl ?_
  refine gAloadN X0 H d1_1 rfl rfl 2 rfl ?_
  refine gGetF X0 H hZ hown (hw _ wd9) Via.refl e0 F_w_ApiKey_OFFSET_FOR_LEADER_EPOCH_minVersion d1_2 5 rfl ?_
  intro T266 X266 e266
  refine gCmpN X266 H d1_5 (flt hk2).1 8 rfl ?_
  refine gIloadN X266 H d1_8 rfl 9 rfl ?_
  refine gAloadN X266 H d1_9 rfl rfl 10 rfl ?_
  refine gGetF X266 H hZ hown (hw _ wd15) Via.refl e266 F_w_ApiKey_OFFSET_FOR_LEADER_EPOCH_maxVersion d1_10 13 rfl ?_
  intro T267 X267 e267
  refine gCmpN X267 H d1_13 (flt hk3).2.2.1 16 rfl ?_
  refine gIconst X267 H d1_16 (z := 1) rfl 17 rfl ?_
  refine gGoto X267 H d1_17 (by decide) 21 rfl ?_
  exact gRetN X267 H hlk hret (t := .boolean) (by simp) d1_21 e267 ⟨rfl, rfl, rfl⟩
theorem rm272_1 (B : Bg Z a0 w_ApiKey_PRODUCE w_ApiKey_FETCH w_ApiKey_LIST_OFFSETS w_ApiKey_OFFSET_FOR_LEADER_EPOCH w_ApiKey_METADATA w_ApiKey_API_VERSIONS) (p2 : Int32) (hk2 : (p2.toInt16.toInt32) < (3 : Int32)) :
    Con l Z (⟨"com/example/rolling_quorum/rollingquorum/protocol/ApiKey", "supports", "(S)Z"⟩ : MethodName) prog_29_method_8_code 2 (some .boolean) ({ frames := 0, cells := 0, slots := 0, locals := 0 } : Room) #[(.ref w_ApiKey_OFFSET_FOR_LEADER_EPOCH), (.int (p2.toInt16.toInt32))] Z.heap (fun v h' L => v = some (.int 0) ∧ h' = Z.heap ∧ L = []) := by
  have hw := B.1
  obtain ⟨S_w_ApiKey_PRODUCE, E_w_ApiKey_PRODUCE, S_w_ApiKey_FETCH, E_w_ApiKey_FETCH, S_w_ApiKey_LIST_OFFSETS, E_w_ApiKey_LIST_OFFSETS, S_w_ApiKey_OFFSET_FOR_LEADER_EPOCH, E_w_ApiKey_OFFSET_FOR_LEADER_EPOCH, S_w_ApiKey_METADATA, E_w_ApiKey_METADATA, S_w_ApiKey_API_VERSIONS, E_w_ApiKey_API_VERSIONS, F_w_ApiKey_PRODUCE_minVersion, F_w_ApiKey_FETCH_minVersion, F_w_ApiKey_LIST_OFFSETS_minVersion, F_w_ApiKey_LIST_OFFSETS_maxVersion, F_w_ApiKey_OFFSET_FOR_LEADER_EPOCH_minVersion, F_w_ApiKey_OFFSET_FOR_LEADER_EPOCH_maxVersion, F_w_ApiKey_FETCH_maxVersion, F_w_ApiKey_METADATA_minVersion, F_w_ApiKey_API_VERSIONS_minVersion, F_w_ApiKey_API_VERSIONS_maxVersion, F_w_ApiKey_PRODUCE_maxVersion, F_w_ApiKey_METADATA_maxVersion⟩ := B.2
  refine Con.of (plainFor_of_name pn1) (Ls := #[vR w_ApiKey_OFFSET_FOR_LEADER_EPOCH, vI (p2.toInt16.toInt32)]) (fun m => by first | rfl | (simp [entryFrame, mkF, argsToLocals, Value.category]; done)) ?_
  intro p e s m below meth c T0 X0 H hml hZ hown hnm hret hlk e0
  refine gIloadN X0 H d1_0 rfl 1 rfl ?_
  refine gAloadN X0 H d1_1 rfl rfl 2 rfl ?_
  refine gGetF X0 H hZ hown (hw _ wd9) Via.refl e0 F_w_ApiKey_OFFSET_FOR_LEADER_EPOCH_minVersion d1_2 5 rfl ?_
  intro T271 X271 e271
  refine gCmpY X271 H d1_5 (tlt hk2).1 (by decide) 20 rfl ?_
  refine gIconst X271 H d1_20 (z := 0) rfl 21 rfl ?_
  exact gRetN X271 H hlk hret (t := .boolean) (by simp) d1_21 e271 ⟨rfl, rfl, rfl⟩
theorem rm277_1 (B : Bg Z a0 w_ApiKey_PRODUCE w_ApiKey_FETCH w_ApiKey_LIST_OFFSETS w_ApiKey_OFFSET_FOR_LEADER_EPOCH w_ApiKey_METADATA w_ApiKey_API_VERSIONS) (p2 : Int32) (hk2 : ¬ ((p2.toInt16.toInt32) < (3 : Int32))) (hk3 : (3 : Int32) < (p2.toInt16.toInt32)) :
    Con l Z (⟨"com/example/rolling_quorum/rollingquorum/protocol/ApiKey", "supports", "(S)Z"⟩ : MethodName) prog_29_method_8_code 2 (some .boolean) ({ frames := 0, cells := 0, slots := 0, locals := 0 } : Room) #[(.ref w_ApiKey_OFFSET_FOR_LEADER_EPOCH), (.int (p2.toInt16.toInt32))] Z.heap (fun v h' L => v = some (.int 0) ∧ h' = Z.heap ∧ L = []) := by
  have hw := B.1
  obtain ⟨S_w_ApiKey_PRODUCE, E_w_ApiKey_PRODUCE, S_w_ApiKey_FETCH, E_w_ApiKey_FETCH, S_w_ApiKey_LIST_OFFSETS, E_w_ApiKey_LIST_OFFSETS, S_w_ApiKey_OFFSET_FOR_LEADER_EPOCH, E_w_ApiKey_OFFSET_FOR_LEADER_EPOCH, S_w_ApiKey_METADATA, E_w_ApiKey_METADATA, S_w_ApiKey_API_VERSIONS, E_w_ApiKey_API_VERSIONS, F_w_ApiKey_PRODUCE_minVersion, F_w_ApiKey_FETCH_minVersion, F_w_ApiKey_LIST_OFFSETS_minVersion, F_w_ApiKey_LIST_OFFSETS_maxVersion, F_w_ApiKey_OFFSET_FOR_LEADER_EPOCH_minVersion, F_w_ApiKey_OFFSET_FOR_LEADER_EPOCH_maxVersion, F_w_ApiKey_FETCH_maxVersion, F_w_ApiKey_METADATA_minVersion, F_w_ApiKey_API_VERSIONS_minVersion, F_w_ApiKey_API_VERSIONS_maxVersion, F_w_ApiKey_PRODUCE_maxVersion, F_w_ApiKey_METADATA_maxVersion⟩ := B.2
  refine Con.of (plainFor_of_name pn1) (Ls := #[vR w_ApiKey_OFFSET_FOR_LEADER_EPOCH, vI (p2.toInt16.toInt32)]) (fun m => by first | rfl | (simp [entryFrame, mkF, argsToLocals, Value.category]; done)) ?_
  intro p e s m below meth c T0 X0 H hml hZ hown hnm hret hlk e0
  refine gIloadN X0 H d1_0 rfl 1 rfl ?_
  refine gAloadN X0 H d1_1 rfl rfl 2 rfl ?_
  refine gGetF X0 H hZ hown (hw _ wd9) Via.refl e0 F_w_ApiKey_OFFSET_FOR_LEADER_EPOCH_minVersion d1_2 5 rfl ?_
  intro T275 X275 e275
  refine gCmpN X275 H d1_5 (flt hk2).1 8 rfl ?_
  refine gIloadN X275 H d1_8 rfl 9 rfl ?_
  refine gAloadN X275 H d1_9 rfl rfl 10 rfl ?_
  refine gGetF X275 H hZ hown (hw _ wd15) Via.refl e275 F_w_ApiKey_OFFSET_FOR_LEADER_EPOCH_maxVersion d1_10 13 rfl ?_
  intro T276 X276 e276
  refine gCmpY X276 H d1_13 (tlt hk3).2.2.1 (by decide) 20 rfl ?_
  refine gIconst X276 H d1_20 (z := 0) rfl 21 rfl ?_
  exact gRetN X276 H hlk hret (t := .boolean) (by simp) d1_21 e276 ⟨rfl, rfl, rfl⟩
theorem rm281_1 (B : Bg Z a0 w_ApiKey_PRODUCE w_ApiKey_FETCH w_ApiKey_LIST_OFFSETS w_ApiKey_OFFSET_FOR_LEADER_EPOCH w_ApiKey_METADATA w_ApiKey_API_VERSIONS) (p2 : Int32) (hk2 : ¬ ((p2.toInt16.toInt32) < (3 : Int32))) (hk3 : ¬ ((3 : Int32) < (p2.toInt16.toInt32))) :
    Con l Z (⟨"com/example/rolling_quorum/rollingquorum/protocol/ApiKey", "supports", "(S)Z"⟩ : MethodName) prog_29_method_8_code 2 (some .boolean) ({ frames := 0, cells := 0, slots := 0, locals := 0 } : Room) #[(.ref w_ApiKey_OFFSET_FOR_LEADER_EPOCH), (.int (p2.toInt16.toInt32))] Z.heap (fun v h' L => v = some (.int 1) ∧ h' = Z.heap ∧ L = []) := by
  have hw := B.1
  obtain ⟨S_w_ApiKey_PRODUCE, E_w_ApiKey_PRODUCE, S_w_ApiKey_FETCH, E_w_ApiKey_FETCH, S_w_ApiKey_LIST_OFFSETS, E_w_ApiKey_LIST_OFFSETS, S_w_ApiKey_OFFSET_FOR_LEADER_EPOCH, E_w_ApiKey_OFFSET_FOR_LEADER_EPOCH, S_w_ApiKey_METADATA, E_w_ApiKey_METADATA, S_w_ApiKey_API_VERSIONS, E_w_ApiKey_API_VERSIONS, F_w_ApiKey_PRODUCE_minVersion, F_w_ApiKey_FETCH_minVersion, F_w_ApiKey_LIST_OFFSETS_minVersion, F_w_ApiKey_LIST_OFFSETS_maxVersion, F_w_ApiKey_OFFSET_FOR_LEADER_EPOCH_minVersion, F_w_ApiKey_OFFSET_FOR_LEADER_EPOCH_maxVersion, F_w_ApiKey_FETCH_maxVersion, F_w_ApiKey_METADATA_minVersion, F_w_ApiKey_API_VERSIONS_minVersion, F_w_ApiKey_API_VERSIONS_maxVersion, F_w_ApiKey_PRODUCE_maxVersion, F_w_ApiKey_METADATA_maxVersion⟩ := B.2
  refine Con.of (plainFor_of_name pn1) (Ls := #[vR w_ApiKey_OFFSET_FOR_LEADER_EPOCH, vI (p2.toInt16.toInt32)]) (fun m => by first | rfl | (simp [entryFrame, mkF, argsToLocals, Value.category]; done)) ?_
  intro p e s m below meth c T0 X0 H hml hZ hown hnm hret hlk e0
  refine gIloadN X0 H d1_0 rfl 1 rfl ?_
  refine gAloadN X0 H d1_1 rfl rfl 2 rfl ?_
  refine gGetF X0 H hZ hown (hw _ wd9) Via.refl e0 F_w_ApiKey_OFFSET_FOR_LEADER_EPOCH_minVersion d1_2 5 rfl ?_
  intro T279 X279 e279
  refine gCmpN X279 H d1_5 (flt hk2).1 8 rfl ?_
  refine gIloadN X279 H d1_8 rfl 9 rfl ?_
  refine gAloadN X279 H d1_9 rfl rfl 10 rfl ?_
  refine gGetF X279 H hZ hown (hw _ wd15) Via.refl e279 F_w_ApiKey_OFFSET_FOR_LEADER_EPOCH_maxVersion d1_10 13 rfl ?_
  intro T280 X280 e280
  refine gCmpN X280 H d1_13 (flt hk3).2.2.1 16 rfl ?_
  refine gIconst X280 H d1_16 (z := 1) rfl 17 rfl ?_
  refine gGoto X280 H d1_17 (by decide) 21 rfl ?_
  exact gRetN X280 H hlk hret (t := .boolean) (by simp) d1_21 e280 ⟨rfl, rfl, rfl⟩
theorem lawAll_5 (B : Bg Z a0 w_ApiKey_PRODUCE w_ApiKey_FETCH w_ApiKey_LIST_OFFSETS w_ApiKey_OFFSET_FOR_LEADER_EPOCH w_ApiKey_METADATA w_ApiKey_API_VERSIONS) (p0 : Int32) (p1 : Int32) (p2 : Int32) (ha0 : ((p0 &&& (2147483647 : Int32)) % (6 : Int32)) = (5 : Int32)) :
    Con l Z x code maxLocals ret room_1 #[(.int p0), (.int p1), (.int p2)] Z.heap (fun v h' L => v = some (.int 1) ∧ Fr Z.heap.size L) := by
  have hw := B.1
  obtain ⟨S_w_ApiKey_PRODUCE, E_w_ApiKey_PRODUCE, S_w_ApiKey_FETCH, E_w_ApiKey_FETCH, S_w_ApiKey_LIST_OFFSETS, E_w_ApiKey_LIST_OFFSETS, S_w_ApiKey_OFFSET_FOR_LEADER_EPOCH, E_w_ApiKey_OFFSET_FOR_LEADER_EPOCH, S_w_ApiKey_METADATA, E_w_ApiKey_METADATA, S_w_ApiKey_API_VERSIONS, E_w_ApiKey_API_VERSIONS, F_w_ApiKey_PRODUCE_minVersion, F_w_ApiKey_FETCH_minVersion, F_w_ApiKey_LIST_OFFSETS_minVersion, F_w_ApiKey_LIST_OFFSETS_maxVersion, F_w_ApiKey_OFFSET_FOR_LEADER_EPOCH_minVersion, F_w_ApiKey_OFFSET_FOR_LEADER_EPOCH_maxVersion, F_w_ApiKey_FETCH_maxVersion, F_w_ApiKey_METADATA_minVersion, F_w_ApiKey_API_VERSIONS_minVersion, F_w_ApiKey_API_VERSIONS_maxVersion, F_w_ApiKey_PRODUCE_maxVersion, F_w_ApiKey_METADATA_maxVersion⟩ := B.2
  refine Con.of (plainFor_of_name pn0) (Ls := #[vI p0, vI p1, vI p2, .unset, .unset, .unset, .unset, .unset, .unset, .unset, .unset, .unset]) (fun m => by first | rfl | (simp [entryFrame, mkF, argsToLocals, Value.category, maxLocals]; done)) ?_
  intro p e s m below meth c T0 X0 H hml hZ hown hnm hret hlk e0
  refine gIloadN X0 H at_0 rfl 1 rfl ?_
  refine gLdc X0 H hZ hown (hw _ wd0) at_1 3 rfl ?_
  refine g_iand X0 H at_3 (z := (p0 &&& (2147483647 : Int32))) rfl 4 rfl ?_
  refine gBipush X0 H at_4 (z := 6) rfl 6 rfl ?_
  refine g_irem X0 H at_6 (by decide) (z := 5) ha0 7 rfl ?_
  refine gIstoreN X0 H at_7 (Ls' := #[vI p0, vI p1, vI p2, vI 5, .unset, .unset, .unset, .unset, .unset, .unset, .unset, .unset]) rfl 8 rfl ?_
  refine gIloadN X0 H at_8 rfl 9 rfl ?_
  refine gIfY X0 H at_9 (by decide) (by decide) 27 rfl ?_
  refine gIloadN X0 H at_27 rfl 28 rfl ?_
  refine gIconst X0 H at_28 (z := 1) rfl 29 rfl ?_
  refine gCmpY X0 H at_29 (by decide) (by decide) 47 rfl ?_
  refine gIloadN X0 H at_47 rfl 48 rfl ?_
  refine gIconst X0 H at_48 (z := 2) rfl 49 rfl ?_
  refine gCmpY X0 H at_49 (by decide) (by decide) 66 rfl ?_
  refine gIloadN X0 H at_66 rfl 67 rfl ?_
  refine gIconst X0 H at_67 (z := 3) rfl 68 rfl ?_
  refine gCmpY X0 H at_68 (by decide) (by decide) 85 rfl ?_
  refine gIloadN X0 H at_85 rfl 86 rfl ?_
  refine gIconst X0 H at_86 (z := 4) rfl 87 rfl ?_
  refine gCmpY X0 H at_87 (by decide) (by decide) 104 rfl ?_
  refine gGetS X0 H hZ hown (hw _ wd17) e0 S_w_ApiKey_OFFSET_FOR_LEADER_EPOCH at_104 107 rfl ?_
  intro T241 X241 e241
  refine gAstore X241 H at_107 rfl (Ls' := #[vI p0, vI p1, vI p2, vI 5, vR w_ApiKey_OFFSET_FOR_LEADER_EPOCH, .unset, .unset, .unset, .unset, .unset, .unset, .unset]) rfl 109 rfl ?_
  refine gIconst X241 H at_109 (z := 3) rfl 110 rfl ?_
  refine gIstore X241 H at_110 (Ls' := #[vI p0, vI p1, vI p2, vI 5, vR w_ApiKey_OFFSET_FOR_LEADER_EPOCH, vI 3, .unset, .unset, .unset, .unset, .unset, .unset]) rfl 112 rfl ?_
  refine gIconst X241 H at_112 (z := 3) rfl 113 rfl ?_
  refine gIstore X241 H at_113 (Ls' := #[vI p0, vI p1, vI p2, vI 5, vR w_ApiKey_OFFSET_FOR_LEADER_EPOCH, vI 3, vI 3, .unset, .unset, .unset, .unset, .unset]) rfl 115 rfl ?_
  refine gIloadN X241 H at_115 rfl 116 rfl ?_
  refine gIconst X241 H at_116 (z := 3) rfl 117 rfl ?_
  refine g_iand X241 H at_117 (z := (p1 &&& (3 : Int32))) rfl 118 rfl ?_
  refine gIstore X241 H at_118 (Ls' := #[vI p0, vI p1, vI p2, vI 5, vR w_ApiKey_OFFSET_FOR_LEADER_EPOCH, vI 3, vI 3, vI (p1 &&& (3 : Int32)), .unset, .unset, .unset, .unset]) rfl 120 rfl ?_
  refine gIload X241 H at_120 rfl 122 rfl ?_
  refine gIconst X241 H at_122 (z := 1) rfl 123 rfl ?_
  by_cases hc242 : (p1 &&& (3 : Int32)) = (1 : Int32)
  · refine gCmpN X241 H at_123 (teq hc242).2 126 rfl ?_
    refine gIload X241 H at_126 rfl 128 rfl ?_
    refine gIloadN X241 H at_128 rfl 129 rfl ?_
    refine gBipush X241 H at_129 (z := 7) rfl 131 rfl ?_
    refine g_iand X241 H at_131 (z := (p2 &&& (7 : Int32))) rfl 132 rfl ?_
    refine g_iadd X241 H at_132 (z := ((3 : Int32) + (p2 &&& (7 : Int32)))) rfl 133 rfl ?_
    refine gIconst X241 H at_133 (z := 3) rfl 134 rfl ?_
    refine g_isub X241 H at_134 (z := (((3 : Int32) + (p2 &&& (7 : Int32))) - (3 : Int32))) rfl 135 rfl ?_
    refine g_i2s X241 H at_135 (z := ((((3 : Int32) + (p2 &&& (7 : Int32))) - (3 : Int32)).toInt16.toInt32)) rfl 136 rfl ?_
    refine gIstore X241 H at_136 (Ls' := #[vI p0, vI p1, vI p2, vI 5, vR w_ApiKey_OFFSET_FOR_LEADER_EPOCH, vI 3, vI 3, vI (p1 &&& (3 : Int32)), vI ((((3 : Int32) + (p2 &&& (7 : Int32))) - (3 : Int32)).toInt16.toInt32), .unset, .unset, .unset]) rfl 138 rfl ?_
    refine gGoto X241 H at_138 (by decide) 166 rfl ?_
    refine gIload X241 H at_166 rfl 168 rfl ?_
    refine gIload X241 H at_168 rfl 170 rfl ?_
    by_cases hc243 : ((((3 : Int32) + (p2 &&& (7 : Int32))) - (3 : Int32)).toInt16.toInt32) < (3 : Int32)
    · refine gCmpN X241 H at_170 (tlt hc243).2.1 173 rfl ?_
      refine gIconst X241 H at_173 (z := 1) rfl 174 rfl ?_
      refine gGoto X241 H at_174 (by decide) 178 rfl ?_
      refine gIstore X241 H at_178 (Ls' := #[vI p0, vI p1, vI p2, vI 5, vR w_ApiKey_OFFSET_FOR_LEADER_EPOCH, vI 3, vI 3, vI (p1 &&& (3 : Int32)), vI ((((3 : Int32) + (p2 &&& (7 : Int32))) - (3 : Int32)).toInt16.toInt32), vI 1, .unset, .unset]) rfl 180 rfl ?_
      refine gIload X241 H at_180 rfl 182 rfl ?_
      refine gIload X241 H at_182 rfl 184 rfl ?_
      refine gCmpY X241 H at_184 (flt (t32_as hc243)).2.2.2 (by decide) 191 rfl ?_
      refine gIconst X241 H at_191 (z := 0) rfl 192 rfl ?_
      refine gIstore X241 H at_192 (Ls' := #[vI p0, vI p1, vI p2, vI 5, vR w_ApiKey_OFFSET_FOR_LEADER_EPOCH, vI 3, vI 3, vI (p1 &&& (3 : Int32)), vI ((((3 : Int32) + (p2 &&& (7 : Int32))) - (3 : Int32)).toInt16.toInt32), vI 1, vI 0, .unset]) rfl 194 rfl ?_
      refine gIload X241 H at_194 rfl 196 rfl ?_
      refine gIfY X241 H at_196 (by decide) (by decide) 208 rfl ?_
      refine gIconst X241 H at_208 (z := 0) rfl 209 rfl ?_
      refine gIstore X241 H at_209 (Ls' := #[vI p0, vI p1, vI p2, vI 5, vR w_ApiKey_OFFSET_FOR_LEADER_EPOCH, vI 3, vI 3, vI (p1 &&& (3 : Int32)), vI ((((3 : Int32) + (p2 &&& (7 : Int32))) - (3 : Int32)).toInt16.toInt32), vI 1, vI 0, vI 0]) rfl 211 rfl ?_
      refine gAload X241 H at_211 rfl rfl 213 rfl ?_
      refine gIload X241 H at_213 rfl 215 rfl ?_
      refine gVirt X241 H hZ hown (hw _ wd4) (hw _ wd5) (hw _ wd7) (hw _ wd6) (by decide) E_w_ApiKey_OFFSET_FOR_LEADER_EPOCH (hw _ wd8) (hw _ wd2) (rm245_1 B p2 hc243) e241 hml rfl pd0 rfl (W := 0) (argsL := [(.int ((((3 : Int32) + (p2 &&& (7 : Int32))) - (3 : Int32)).toInt16.toInt32))]) (rest := []) rfl rfl at_215 218 rfl ?_
      intro v246 T246 L246 hq246 X246
      obtain ⟨rfl, e246, rfl⟩ := hq246
      show Go _ _ _ _ (State.setTop _ (mkF _ 218 _ [(.int 0)]))
      refine gIload X246 H at_218 rfl 220 rfl ?_
      refine gCmpN X246 H at_220 (by decide) 223 rfl ?_
      refine gIconst X246 H at_223 (z := 1) rfl 224 rfl ?_
      refine gGoto X246 H at_224 (by decide) 228 rfl ?_
      exact gRetN X246 H hlk hret (t := .boolean) (by simp) at_228 e246 ⟨rfl, Fr.nil _⟩
    · refine gCmpY X241 H at_170 (flt hc243).2.1 (by decide) 177 rfl ?_
      refine gIconst X241 H at_177 (z := 0) rfl 178 rfl ?_
      refine gIstore X241 H at_178 (Ls' := #[vI p0, vI p1, vI p2, vI 5, vR w_ApiKey_OFFSET_FOR_LEADER_EPOCH, vI 3, vI 3, vI (p1 &&& (3 : Int32)), vI ((((3 : Int32) + (p2 &&& (7 : Int32))) - (3 : Int32)).toInt16.toInt32), vI 0, .unset, .unset]) rfl 180 rfl ?_
      refine gIload X241 H at_180 rfl 182 rfl ?_
      refine gIload X241 H at_182 rfl 184 rfl ?_
      by_cases hc247 : (3 : Int32) < ((((3 : Int32) + (p2 &&& (7 : Int32))) - (3 : Int32)).toInt16.toInt32)
      · refine gCmpN X241 H at_184 (tlt hc247).2.2.2 187 rfl ?_
        refine gIconst X241 H at_187 (z := 1) rfl 188 rfl ?_
        refine gGoto X241 H at_188 (by decide) 192 rfl ?_
        refine gIstore X241 H at_192 (Ls' := #[vI p0, vI p1, vI p2, vI 5, vR w_ApiKey_OFFSET_FOR_LEADER_EPOCH, vI 3, vI 3, vI (p1 &&& (3 : Int32)), vI ((((3 : Int32) + (p2 &&& (7 : Int32))) - (3 : Int32)).toInt16.toInt32), vI 0, vI 1, .unset]) rfl 194 rfl ?_
        refine gIload X241 H at_194 rfl 196 rfl ?_
        refine gIfN X241 H at_196 (by decide) 199 rfl ?_
        refine gIload X241 H at_199 rfl 201 rfl ?_
        refine gIfY X241 H at_201 (by decide) (by decide) 208 rfl ?_
        refine gIconst X241 H at_208 (z := 0) rfl 209 rfl ?_
        refine gIstore X241 H at_209 (Ls' := #[vI p0, vI p1, vI p2, vI 5, vR w_ApiKey_OFFSET_FOR_LEADER_EPOCH, vI 3, vI 3, vI (p1 &&& (3 : Int32)), vI ((((3 : Int32) + (p2 &&& (7 : Int32))) - (3 : Int32)).toInt16.toInt32), vI 0, vI 1, vI 0]) rfl 211 rfl ?_
        refine gAload X241 H at_211 rfl rfl 213 rfl ?_
        refine gIload X241 H at_213 rfl 215 rfl ?_
        refine gVirt X241 H hZ hown (hw _ wd4) (hw _ wd5) (hw _ wd7) (hw _ wd6) (by decide) E_w_ApiKey_OFFSET_FOR_LEADER_EPOCH (hw _ wd8) (hw _ wd2) (rm250_1 B p2 hc243 hc247) e241 hml rfl pd0 rfl (W := 0) (argsL := [(.int ((((3 : Int32) + (p2 &&& (7 : Int32))) - (3 : Int32)).toInt16.toInt32))]) (rest := []) rfl rfl at_215 218 rfl ?_
        intro v251 T251 L251 hq251 X251
        obtain ⟨rfl, e251, rfl⟩ := hq251
        show Go _ _ _ _ (State.setTop _ (mkF _ 218 _ [(.int 0)]))
        refine gIload X251 H at_218 rfl 220 rfl ?_
        refine gCmpN X251 H at_220 (by decide) 223 rfl ?_
        refine gIconst X251 H at_223 (z := 1) rfl 224 rfl ?_
        refine gGoto X251 H at_224 (by decide) 228 rfl ?_
        exact gRetN X251 H hlk hret (t := .boolean) (by simp) at_228 e251 ⟨rfl, Fr.nil _⟩
      · refine gCmpY X241 H at_184 (flt hc247).2.2.2 (by decide) 191 rfl ?_
        refine gIconst X241 H at_191 (z := 0) rfl 192 rfl ?_
        refine gIstore X241 H at_192 (Ls' := #[vI p0, vI p1, vI p2, vI 5, vR w_ApiKey_OFFSET_FOR_LEADER_EPOCH, vI 3, vI 3, vI (p1 &&& (3 : Int32)), vI ((((3 : Int32) + (p2 &&& (7 : Int32))) - (3 : Int32)).toInt16.toInt32), vI 0, vI 0, .unset]) rfl 194 rfl ?_
        refine gIload X241 H at_194 rfl 196 rfl ?_
        refine gIfN X241 H at_196 (by decide) 199 rfl ?_
        refine gIload X241 H at_199 rfl 201 rfl ?_
        refine gIfN X241 H at_201 (by decide) 204 rfl ?_
        refine gIconst X241 H at_204 (z := 1) rfl 205 rfl ?_
        refine gGoto X241 H at_205 (by decide) 209 rfl ?_
        refine gIstore X241 H at_209 (Ls' := #[vI p0, vI p1, vI p2, vI 5, vR w_ApiKey_OFFSET_FOR_LEADER_EPOCH, vI 3, vI 3, vI (p1 &&& (3 : Int32)), vI ((((3 : Int32) + (p2 &&& (7 : Int32))) - (3 : Int32)).toInt16.toInt32), vI 0, vI 0, vI 1]) rfl 211 rfl ?_
        refine gAload X241 H at_211 rfl rfl 213 rfl ?_
        refine gIload X241 H at_213 rfl 215 rfl ?_
        refine gVirt X241 H hZ hown (hw _ wd4) (hw _ wd5) (hw _ wd7) (hw _ wd6) (by decide) E_w_ApiKey_OFFSET_FOR_LEADER_EPOCH (hw _ wd8) (hw _ wd2) (rm254_1 B p2 hc243 hc247) e241 hml rfl pd0 rfl (W := 0) (argsL := [(.int ((((3 : Int32) + (p2 &&& (7 : Int32))) - (3 : Int32)).toInt16.toInt32))]) (rest := []) rfl rfl at_215 218 rfl ?_
        intro v255 T255 L255 hq255 X255
        obtain ⟨rfl, e255, rfl⟩ := hq255
        show Go _ _ _ _ (State.setTop _ (mkF _ 218 _ [(.int 1)]))
        refine gIload X255 H at_218 rfl 220 rfl ?_
        refine gCmpN X255 H at_220 (by decide) 223 rfl ?_
        refine gIconst X255 H at_223 (z := 1) rfl 224 rfl ?_
        refine gGoto X255 H at_224 (by decide) 228 rfl ?_
        exact gRetN X255 H hlk hret (t := .boolean) (by simp) at_228 e255 ⟨rfl, Fr.nil _⟩
  · refine gCmpY X241 H at_123 (feq hc242).2 (by decide) 141 rfl ?_
    refine gIload X241 H at_141 rfl 143 rfl ?_
    refine gIconst X241 H at_143 (z := 2) rfl 144 rfl ?_
    by_cases hc256 : (p1 &&& (3 : Int32)) = (2 : Int32)
    · refine gCmpN X241 H at_144 (teq hc256).2 147 rfl ?_
      refine gIload X241 H at_147 rfl 149 rfl ?_
      refine gIloadN X241 H at_149 rfl 150 rfl ?_
      refine gBipush X241 H at_150 (z := 7) rfl 152 rfl ?_
      refine g_iand X241 H at_152 (z := (p2 &&& (7 : Int32))) rfl 153 rfl ?_
      refine g_iadd X241 H at_153 (z := ((3 : Int32) + (p2 &&& (7 : Int32)))) rfl 154 rfl ?_
      refine gIconst X241 H at_154 (z := 4) rfl 155 rfl ?_
      refine g_isub X241 H at_155 (z := (((3 : Int32) + (p2 &&& (7 : Int32))) - (4 : Int32))) rfl 156 rfl ?_
      refine g_i2s X241 H at_156 (z := ((((3 : Int32) + (p2 &&& (7 : Int32))) - (4 : Int32)).toInt16.toInt32)) rfl 157 rfl ?_
      refine gIstore X241 H at_157 (Ls' := #[vI p0, vI p1, vI p2, vI 5, vR w_ApiKey_OFFSET_FOR_LEADER_EPOCH, vI 3, vI 3, vI (p1 &&& (3 : Int32)), vI ((((3 : Int32) + (p2 &&& (7 : Int32))) - (4 : Int32)).toInt16.toInt32), .unset, .unset, .unset]) rfl 159 rfl ?_
      refine gGoto X241 H at_159 (by decide) 166 rfl ?_
      refine gIload X241 H at_166 rfl 168 rfl ?_
      refine gIload X241 H at_168 rfl 170 rfl ?_
      by_cases hc257 : ((((3 : Int32) + (p2 &&& (7 : Int32))) - (4 : Int32)).toInt16.toInt32) < (3 : Int32)
      · refine gCmpN X241 H at_170 (tlt hc257).2.1 173 rfl ?_
        refine gIconst X241 H at_173 (z := 1) rfl 174 rfl ?_
        refine gGoto X241 H at_174 (by decide) 178 rfl ?_
        refine gIstore X241 H at_178 (Ls' := #[vI p0, vI p1, vI p2, vI 5, vR w_ApiKey_OFFSET_FOR_LEADER_EPOCH, vI 3, vI 3, vI (p1 &&& (3 : Int32)), vI ((((3 : Int32) + (p2 &&& (7 : Int32))) - (4 : Int32)).toInt16.toInt32), vI 1, .unset, .unset]) rfl 180 rfl ?_
        refine gIload X241 H at_180 rfl 182 rfl ?_
        refine gIload X241 H at_182 rfl 184 rfl ?_
        refine gCmpY X241 H at_184 (flt (t32_as hc257)).2.2.2 (by decide) 191 rfl ?_
        refine gIconst X241 H at_191 (z := 0) rfl 192 rfl ?_
        refine gIstore X241 H at_192 (Ls' := #[vI p0, vI p1, vI p2, vI 5, vR w_ApiKey_OFFSET_FOR_LEADER_EPOCH, vI 3, vI 3, vI (p1 &&& (3 : Int32)), vI ((((3 : Int32) + (p2 &&& (7 : Int32))) - (4 : Int32)).toInt16.toInt32), vI 1, vI 0, .unset]) rfl 194 rfl ?_
        refine gIload X241 H at_194 rfl 196 rfl ?_
        refine gIfY X241 H at_196 (by decide) (by decide) 208 rfl ?_
        refine gIconst X241 H at_208 (z := 0) rfl 209 rfl ?_
        refine gIstore X241 H at_209 (Ls' := #[vI p0, vI p1, vI p2, vI 5, vR w_ApiKey_OFFSET_FOR_LEADER_EPOCH, vI 3, vI 3, vI (p1 &&& (3 : Int32)), vI ((((3 : Int32) + (p2 &&& (7 : Int32))) - (4 : Int32)).toInt16.toInt32), vI 1, vI 0, vI 0]) rfl 211 rfl ?_
        refine gAload X241 H at_211 rfl rfl 213 rfl ?_
        refine gIload X241 H at_213 rfl 215 rfl ?_
        refine gVirt X241 H hZ hown (hw _ wd4) (hw _ wd5) (hw _ wd7) (hw _ wd6) (by decide) E_w_ApiKey_OFFSET_FOR_LEADER_EPOCH (hw _ wd8) (hw _ wd2) (rm259_1 B p2 hc257) e241 hml rfl pd0 rfl (W := 0) (argsL := [(.int ((((3 : Int32) + (p2 &&& (7 : Int32))) - (4 : Int32)).toInt16.toInt32))]) (rest := []) rfl rfl at_215 218 rfl ?_
        intro v260 T260 L260 hq260 X260
        obtain ⟨rfl, e260, rfl⟩ := hq260
        show Go _ _ _ _ (State.setTop _ (mkF _ 218 _ [(.int 0)]))
        refine gIload X260 H at_218 rfl 220 rfl ?_
        refine gCmpN X260 H at_220 (by decide) 223 rfl ?_
        refine gIconst X260 H at_223 (z := 1) rfl 224 rfl ?_
        refine gGoto X260 H at_224 (by decide) 228 rfl ?_
        exact gRetN X260 H hlk hret (t := .boolean) (by simp) at_228 e260 ⟨rfl, Fr.nil _⟩
      · refine gCmpY X241 H at_170 (flt hc257).2.1 (by decide) 177 rfl ?_
        refine gIconst X241 H at_177 (z := 0) rfl 178 rfl ?_
        refine gIstore X241 H at_178 (Ls' := #[vI p0, vI p1, vI p2, vI 5, vR w_ApiKey_OFFSET_FOR_LEADER_EPOCH, vI 3, vI 3, vI (p1 &&& (3 : Int32)), vI ((((3 : Int32) + (p2 &&& (7 : Int32))) - (4 : Int32)).toInt16.toInt32), vI 0, .unset, .unset]) rfl 180 rfl ?_
        refine gIload X241 H at_180 rfl 182 rfl ?_
        refine gIload X241 H at_182 rfl 184 rfl ?_
        by_cases hc261 : (3 : Int32) < ((((3 : Int32) + (p2 &&& (7 : Int32))) - (4 : Int32)).toInt16.toInt32)
        · refine gCmpN X241 H at_184 (tlt hc261).2.2.2 187 rfl ?_
          refine gIconst X241 H at_187 (z := 1) rfl 188 rfl ?_
          refine gGoto X241 H at_188 (by decide) 192 rfl ?_
          refine gIstore X241 H at_192 (Ls' := #[vI p0, vI p1, vI p2, vI 5, vR w_ApiKey_OFFSET_FOR_LEADER_EPOCH, vI 3, vI 3, vI (p1 &&& (3 : Int32)), vI ((((3 : Int32) + (p2 &&& (7 : Int32))) - (4 : Int32)).toInt16.toInt32), vI 0, vI 1, .unset]) rfl 194 rfl ?_
          refine gIload X241 H at_194 rfl 196 rfl ?_
          refine gIfN X241 H at_196 (by decide) 199 rfl ?_
          refine gIload X241 H at_199 rfl 201 rfl ?_
          refine gIfY X241 H at_201 (by decide) (by decide) 208 rfl ?_
          refine gIconst X241 H at_208 (z := 0) rfl 209 rfl ?_
          refine gIstore X241 H at_209 (Ls' := #[vI p0, vI p1, vI p2, vI 5, vR w_ApiKey_OFFSET_FOR_LEADER_EPOCH, vI 3, vI 3, vI (p1 &&& (3 : Int32)), vI ((((3 : Int32) + (p2 &&& (7 : Int32))) - (4 : Int32)).toInt16.toInt32), vI 0, vI 1, vI 0]) rfl 211 rfl ?_
          refine gAload X241 H at_211 rfl rfl 213 rfl ?_
          refine gIload X241 H at_213 rfl 215 rfl ?_
          refine gVirt X241 H hZ hown (hw _ wd4) (hw _ wd5) (hw _ wd7) (hw _ wd6) (by decide) E_w_ApiKey_OFFSET_FOR_LEADER_EPOCH (hw _ wd8) (hw _ wd2) (rm264_1 B p2 hc257 hc261) e241 hml rfl pd0 rfl (W := 0) (argsL := [(.int ((((3 : Int32) + (p2 &&& (7 : Int32))) - (4 : Int32)).toInt16.toInt32))]) (rest := []) rfl rfl at_215 218 rfl ?_
          intro v265 T265 L265 hq265 X265
          obtain ⟨rfl, e265, rfl⟩ := hq265
          show Go _ _ _ _ (State.setTop _ (mkF _ 218 _ [(.int 0)]))
          refine gIload X265 H at_218 rfl 220 rfl ?_
          refine gCmpN X265 H at_220 (by decide) 223 rfl ?_
          refine gIconst X265 H at_223 (z := 1) rfl 224 rfl ?_
          refine gGoto X265 H at_224 (by decide) 228 rfl ?_
          exact gRetN X265 H hlk hret (t := .boolean) (by simp) at_228 e265 ⟨rfl, Fr.nil _⟩
        · refine gCmpY X241 H at_184 (flt hc261).2.2.2 (by decide) 191 rfl ?_
          refine gIconst X241 H at_191 (z := 0) rfl 192 rfl ?_
          refine gIstore X241 H at_192 (Ls' := #[vI p0, vI p1, vI p2, vI 5, vR w_ApiKey_OFFSET_FOR_LEADER_EPOCH, vI 3, vI 3, vI (p1 &&& (3 : Int32)), vI ((((3 : Int32) + (p2 &&& (7 : Int32))) - (4 : Int32)).toInt16.toInt32), vI 0, vI 0, .unset]) rfl 194 rfl ?_
          refine gIload X241 H at_194 rfl 196 rfl ?_
          refine gIfN X241 H at_196 (by decide) 199 rfl ?_
          refine gIload X241 H at_199 rfl 201 rfl ?_
          refine gIfN X241 H at_201 (by decide) 204 rfl ?_
          refine gIconst X241 H at_204 (z := 1) rfl 205 rfl ?_
          refine gGoto X241 H at_205 (by decide) 209 rfl ?_
          refine gIstore X241 H at_209 (Ls' := #[vI p0, vI p1, vI p2, vI 5, vR w_ApiKey_OFFSET_FOR_LEADER_EPOCH, vI 3, vI 3, vI (p1 &&& (3 : Int32)), vI ((((3 : Int32) + (p2 &&& (7 : Int32))) - (4 : Int32)).toInt16.toInt32), vI 0, vI 0, vI 1]) rfl 211 rfl ?_
          refine gAload X241 H at_211 rfl rfl 213 rfl ?_
          refine gIload X241 H at_213 rfl 215 rfl ?_
          refine gVirt X241 H hZ hown (hw _ wd4) (hw _ wd5) (hw _ wd7) (hw _ wd6) (by decide) E_w_ApiKey_OFFSET_FOR_LEADER_EPOCH (hw _ wd8) (hw _ wd2) (rm268_1 B p2 hc257 hc261) e241 hml rfl pd0 rfl (W := 0) (argsL := [(.int ((((3 : Int32) + (p2 &&& (7 : Int32))) - (4 : Int32)).toInt16.toInt32))]) (rest := []) rfl rfl at_215 218 rfl ?_
          intro v269 T269 L269 hq269 X269
          obtain ⟨rfl, e269, rfl⟩ := hq269
          show Go _ _ _ _ (State.setTop _ (mkF _ 218 _ [(.int 1)]))
          refine gIload X269 H at_218 rfl 220 rfl ?_
          refine gCmpN X269 H at_220 (by decide) 223 rfl ?_
          refine gIconst X269 H at_223 (z := 1) rfl 224 rfl ?_
          refine gGoto X269 H at_224 (by decide) 228 rfl ?_
          exact gRetN X269 H hlk hret (t := .boolean) (by simp) at_228 e269 ⟨rfl, Fr.nil _⟩
    · refine gCmpY X241 H at_144 (feq hc256).2 (by decide) 162 rfl ?_
      refine gIloadN X241 H at_162 rfl 163 rfl ?_
      refine g_i2s X241 H at_163 (z := (p2.toInt16.toInt32)) rfl 164 rfl ?_
      refine gIstore X241 H at_164 (Ls' := #[vI p0, vI p1, vI p2, vI 5, vR w_ApiKey_OFFSET_FOR_LEADER_EPOCH, vI 3, vI 3, vI (p1 &&& (3 : Int32)), vI (p2.toInt16.toInt32), .unset, .unset, .unset]) rfl 166 rfl ?_
      refine gIload X241 H at_166 rfl 168 rfl ?_
      refine gIload X241 H at_168 rfl 170 rfl ?_
      by_cases hc270 : (p2.toInt16.toInt32) < (3 : Int32)
      · refine gCmpN X241 H at_170 (tlt hc270).2.1 173 rfl ?_
        refine gIconst X241 H at_173 (z := 1) rfl 174 rfl ?_
        refine gGoto X241 H at_174 (by decide) 178 rfl ?_
        refine gIstore X241 H at_178 (Ls' := #[vI p0, vI p1, vI p2, vI 5, vR w_ApiKey_OFFSET_FOR_LEADER_EPOCH, vI 3, vI 3, vI (p1 &&& (3 : Int32)), vI (p2.toInt16.toInt32), vI 1, .unset, .unset]) rfl 180 rfl ?_
        refine gIload X241 H at_180 rfl 182 rfl ?_
        refine gIload X241 H at_182 rfl 184 rfl ?_
        refine gCmpY X241 H at_184 (flt (t32_as hc270)).2.2.2 (by decide) 191 rfl ?_
        refine gIconst X241 H at_191 (z := 0) rfl 192 rfl ?_
        refine gIstore X241 H at_192 (Ls' := #[vI p0, vI p1, vI p2, vI 5, vR w_ApiKey_OFFSET_FOR_LEADER_EPOCH, vI 3, vI 3, vI (p1 &&& (3 : Int32)), vI (p2.toInt16.toInt32), vI 1, vI 0, .unset]) rfl 194 rfl ?_
        refine gIload X241 H at_194 rfl 196 rfl ?_
        refine gIfY X241 H at_196 (by decide) (by decide) 208 rfl ?_
        refine gIconst X241 H at_208 (z := 0) rfl 209 rfl ?_
        refine gIstore X241 H at_209 (Ls' := #[vI p0, vI p1, vI p2, vI 5, vR w_ApiKey_OFFSET_FOR_LEADER_EPOCH, vI 3, vI 3, vI (p1 &&& (3 : Int32)), vI (p2.toInt16.toInt32), vI 1, vI 0, vI 0]) rfl 211 rfl ?_
        refine gAload X241 H at_211 rfl rfl 213 rfl ?_
        refine gIload X241 H at_213 rfl 215 rfl ?_
        refine gVirt X241 H hZ hown (hw _ wd4) (hw _ wd5) (hw _ wd7) (hw _ wd6) (by decide) E_w_ApiKey_OFFSET_FOR_LEADER_EPOCH (hw _ wd8) (hw _ wd2) (rm272_1 B p2 hc270) e241 hml rfl pd0 rfl (W := 0) (argsL := [(.int (p2.toInt16.toInt32))]) (rest := []) rfl rfl at_215 218 rfl ?_
        intro v273 T273 L273 hq273 X273
        obtain ⟨rfl, e273, rfl⟩ := hq273
        show Go _ _ _ _ (State.setTop _ (mkF _ 218 _ [(.int 0)]))
        refine gIload X273 H at_218 rfl 220 rfl ?_
        refine gCmpN X273 H at_220 (by decide) 223 rfl ?_
        refine gIconst X273 H at_223 (z := 1) rfl 224 rfl ?_
        refine gGoto X273 H at_224 (by decide) 228 rfl ?_
        exact gRetN X273 H hlk hret (t := .boolean) (by simp) at_228 e273 ⟨rfl, Fr.nil _⟩
      · refine gCmpY X241 H at_170 (flt hc270).2.1 (by decide) 177 rfl ?_
        refine gIconst X241 H at_177 (z := 0) rfl 178 rfl ?_
        refine gIstore X241 H at_178 (Ls' := #[vI p0, vI p1, vI p2, vI 5, vR w_ApiKey_OFFSET_FOR_LEADER_EPOCH, vI 3, vI 3, vI (p1 &&& (3 : Int32)), vI (p2.toInt16.toInt32), vI 0, .unset, .unset]) rfl 180 rfl ?_
        refine gIload X241 H at_180 rfl 182 rfl ?_
        refine gIload X241 H at_182 rfl 184 rfl ?_
        by_cases hc274 : (3 : Int32) < (p2.toInt16.toInt32)
        · refine gCmpN X241 H at_184 (tlt hc274).2.2.2 187 rfl ?_
          refine gIconst X241 H at_187 (z := 1) rfl 188 rfl ?_
          refine gGoto X241 H at_188 (by decide) 192 rfl ?_
          refine gIstore X241 H at_192 (Ls' := #[vI p0, vI p1, vI p2, vI 5, vR w_ApiKey_OFFSET_FOR_LEADER_EPOCH, vI 3, vI 3, vI (p1 &&& (3 : Int32)), vI (p2.toInt16.toInt32), vI 0, vI 1, .unset]) rfl 194 rfl ?_
          refine gIload X241 H at_194 rfl 196 rfl ?_
          refine gIfN X241 H at_196 (by decide) 199 rfl ?_
          refine gIload X241 H at_199 rfl 201 rfl ?_
          refine gIfY X241 H at_201 (by decide) (by decide) 208 rfl ?_
          refine gIconst X241 H at_208 (z := 0) rfl 209 rfl ?_
          refine gIstore X241 H at_209 (Ls' := #[vI p0, vI p1, vI p2, vI 5, vR w_ApiKey_OFFSET_FOR_LEADER_EPOCH, vI 3, vI 3, vI (p1 &&& (3 : Int32)), vI (p2.toInt16.toInt32), vI 0, vI 1, vI 0]) rfl 211 rfl ?_
          refine gAload X241 H at_211 rfl rfl 213 rfl ?_
          refine gIload X241 H at_213 rfl 215 rfl ?_
          refine gVirt X241 H hZ hown (hw _ wd4) (hw _ wd5) (hw _ wd7) (hw _ wd6) (by decide) E_w_ApiKey_OFFSET_FOR_LEADER_EPOCH (hw _ wd8) (hw _ wd2) (rm277_1 B p2 hc270 hc274) e241 hml rfl pd0 rfl (W := 0) (argsL := [(.int (p2.toInt16.toInt32))]) (rest := []) rfl rfl at_215 218 rfl ?_
          intro v278 T278 L278 hq278 X278
          obtain ⟨rfl, e278, rfl⟩ := hq278
          show Go _ _ _ _ (State.setTop _ (mkF _ 218 _ [(.int 0)]))
          refine gIload X278 H at_218 rfl 220 rfl ?_
          refine gCmpN X278 H at_220 (by decide) 223 rfl ?_
          refine gIconst X278 H at_223 (z := 1) rfl 224 rfl ?_
          refine gGoto X278 H at_224 (by decide) 228 rfl ?_
          exact gRetN X278 H hlk hret (t := .boolean) (by simp) at_228 e278 ⟨rfl, Fr.nil _⟩
        · refine gCmpY X241 H at_184 (flt hc274).2.2.2 (by decide) 191 rfl ?_
          refine gIconst X241 H at_191 (z := 0) rfl 192 rfl ?_
          refine gIstore X241 H at_192 (Ls' := #[vI p0, vI p1, vI p2, vI 5, vR w_ApiKey_OFFSET_FOR_LEADER_EPOCH, vI 3, vI 3, vI (p1 &&& (3 : Int32)), vI (p2.toInt16.toInt32), vI 0, vI 0, .unset]) rfl 194 rfl ?_
          refine gIload X241 H at_194 rfl 196 rfl ?_
          refine gIfN X241 H at_196 (by decide) 199 rfl ?_
          refine gIload X241 H at_199 rfl 201 rfl ?_
          refine gIfN X241 H at_201 (by decide) 204 rfl ?_
          refine gIconst X241 H at_204 (z := 1) rfl 205 rfl ?_
          refine gGoto X241 H at_205 (by decide) 209 rfl ?_
          refine gIstore X241 H at_209 (Ls' := #[vI p0, vI p1, vI p2, vI 5, vR w_ApiKey_OFFSET_FOR_LEADER_EPOCH, vI 3, vI 3, vI (p1 &&& (3 : Int32)), vI (p2.toInt16.toInt32), vI 0, vI 0, vI 1]) rfl 211 rfl ?_
          refine gAload X241 H at_211 rfl rfl 213 rfl ?_
          refine gIload X241 H at_213 rfl 215 rfl ?_
          refine gVirt X241 H hZ hown (hw _ wd4) (hw _ wd5) (hw _ wd7) (hw _ wd6) (by decide) E_w_ApiKey_OFFSET_FOR_LEADER_EPOCH (hw _ wd8) (hw _ wd2) (rm281_1 B p2 hc270 hc274) e241 hml rfl pd0 rfl (W := 0) (argsL := [(.int (p2.toInt16.toInt32))]) (rest := []) rfl rfl at_215 218 rfl ?_
          intro v282 T282 L282 hq282 X282
          obtain ⟨rfl, e282, rfl⟩ := hq282
          show Go _ _ _ _ (State.setTop _ (mkF _ 218 _ [(.int 1)]))
          refine gIload X282 H at_218 rfl 220 rfl ?_
          refine gCmpN X282 H at_220 (by decide) 223 rfl ?_
          refine gIconst X282 H at_223 (z := 1) rfl 224 rfl ?_
          refine gGoto X282 H at_224 (by decide) 228 rfl ?_
          exact gRetN X282 H hlk hret (t := .boolean) (by simp) at_228 e282 ⟨rfl, Fr.nil _⟩
theorem lawAll (B : Bg Z a0 w_ApiKey_PRODUCE w_ApiKey_FETCH w_ApiKey_LIST_OFFSETS w_ApiKey_OFFSET_FOR_LEADER_EPOCH w_ApiKey_METADATA w_ApiKey_API_VERSIONS) (p0 : Int32) (p1 : Int32) (p2 : Int32) :
    Con l Z x code maxLocals ret room_1 #[(.int p0), (.int p1), (.int p2)] Z.heap (fun v h' L => v = some (.int 1) ∧ Fr Z.heap.size L) := by
  rcases mod_cases p0 with ha0 | ha0 | ha0 | ha0 | ha0 | ha0
  · exact lawAll_0 B p0 p1 p2 ha0
  · exact lawAll_1 B p0 p1 p2 ha0
  · exact lawAll_2 B p0 p1 p2 ha0
  · exact lawAll_3 B p0 p1 p2 ha0
  · exact lawAll_4 B p0 p1 p2 ha0
  · exact lawAll_5 B p0 p1 p2 ha0
end Walk
set_option maxHeartbeats 4000000 in
theorem comes_1 {Post : Tables → Env → Array Value → State → Outcome → State → Prop} (hpost : ∀ tb e args s v u, (limb_1_1.after args s (.returned v) u = true ∧ limb_1_2.after args s (.returned v) u = true ∧ True) → FrameEnd s (.returned v) u (Jvm.fieldLocs frame_1_writes args s ++ Jvm.arrayLocs frame_1_arrays args s ++ Jvm.staticLocs frame_1_statics s) 0 0 → Post tb e args s (.returned v) u) :
    ArmFor flags0 classFile x code maxLocals ret World_1 tables_1 room_1 Calls_1 rest_1 Pre_1 Post := by
  intro l hfl _ _ p e ha hc hk s m args below hf hA hF happ hP
  obtain ⟨hcalls, hrest, hpre⟩ := hP
  obtain ⟨-, -, -, hnamed, -, -, -, hat⟩ := (Spec.applies_iff hf).mp happ
  obtain ⟨hg, hn⟩ := and_e (Cond.before_iff.mp (show (Jvm.Cond.and given_1 narrow_1).before args s = true from hpre))
  obtain ⟨n1, n2⟩ := and_e hg
  obtain ⟨n3, n4⟩ := and_e n2
  obtain ⟨n5, n6⟩ := and_e n4
  obtain ⟨w0, w1, w2, rfl⟩ : ∃ w0 w1 w2 : Value, args = #[w0, w1, w2] := by
    have hs : args.size = 3 := by simpa [Cond.value, given_1] using n1
    obtain ⟨L⟩ := args
    match L, hs with
    | [w0, w1, w2], _ => exact ⟨w0, w1, w2, rfl⟩
  have hfit : Fit s := fun {y c} hc i hi => by
    obtain ⟨ha, rfl⟩ := Array.getElem?_eq_some_iff.mp hc
    have q := List.all_eq_true.mp ((Array.all_eq_true_iff_forall_mem.mp hF) _ (Array.getElem_mem ha)) i (List.mem_range.mpr hi)
    simpa [Array.getElem?_eq_getElem hi] using q
  have hw := fun d (hd : d ∈ tables_1) => atoms_spec (ws := Jvm.Cond.code x code maxLocals ret :: tables_1) hat d (List.mem_cons_of_mem _ hd)
  obtain ⟨i0, ei0⟩ := is_v n3
  obtain rfl : w0 = (.int i0) := Option.some.inj ei0
  obtain ⟨i1, ei1⟩ := is_v n5
  obtain rfl : w1 = (.int i1) := Option.some.inj ei1
  obtain ⟨i2, ei2⟩ := is_v n6
  obtain rfl : w2 = (.int i2) := Option.some.inj ei2
  obtain ⟨n7, n8⟩ := and_e hn
  obtain ⟨n9, n10⟩ := and_e n8
  obtain ⟨n11, n12⟩ := and_e n10
  obtain ⟨n13, n14⟩ := and_e n12
  obtain ⟨n15, n16⟩ := and_e n14
  obtain ⟨n17, n18⟩ := and_e n16
  obtain ⟨n19, n20⟩ := and_e n18
  obtain ⟨n21, n22⟩ := and_e n20
  obtain ⟨n23, n24⟩ := and_e n22
  obtain ⟨n25, n26⟩ := and_e n24
  obtain ⟨n27, n28⟩ := and_e n26
  obtain ⟨n29, n30⟩ := and_e n28
  obtain ⟨n31, n32⟩ := and_e n30
  obtain ⟨n33, n34⟩ := and_e n32
  obtain ⟨n35, n36⟩ := and_e n34
  obtain ⟨n37, n38⟩ := and_e n36
  obtain ⟨n39, n40⟩ := and_e n38
  obtain ⟨w_ApiKey_PRODUCE, ev_w_ApiKey_PRODUCE⟩ := exa_v n7
  obtain ⟨w_ApiKey_FETCH, ev_w_ApiKey_FETCH⟩ := exa_v n11
  obtain ⟨w_ApiKey_LIST_OFFSETS, ev_w_ApiKey_LIST_OFFSETS⟩ := exa_v n15
  obtain ⟨w_ApiKey_OFFSET_FOR_LEADER_EPOCH, ev_w_ApiKey_OFFSET_FOR_LEADER_EPOCH⟩ := exa_v n21
  obtain ⟨w_ApiKey_METADATA, ev_w_ApiKey_METADATA⟩ := exa_v n29
  obtain ⟨w_ApiKey_API_VERSIONS, ev_w_ApiKey_API_VERSIONS⟩ := exa_v n33
  have W : World s w_ApiKey_PRODUCE w_ApiKey_FETCH w_ApiKey_LIST_OFFSETS w_ApiKey_OFFSET_FOR_LEADER_EPOCH w_ApiKey_METADATA w_ApiKey_API_VERSIONS := ⟨Sta.start ev_w_ApiKey_PRODUCE (Or.inr ⟨(hw _ wd2), (hw _ wd3)⟩), Exa.start ev_w_ApiKey_PRODUCE n7, Sta.start ev_w_ApiKey_FETCH (Or.inr ⟨(hw _ wd2), (hw _ wd12)⟩), Exa.start ev_w_ApiKey_FETCH n11, Sta.start ev_w_ApiKey_LIST_OFFSETS (Or.inr ⟨(hw _ wd2), (hw _ wd14)⟩), Exa.start ev_w_ApiKey_LIST_OFFSETS n15, Sta.start ev_w_ApiKey_OFFSET_FOR_LEADER_EPOCH (Or.inr ⟨(hw _ wd2), (hw _ wd18)⟩), Exa.start ev_w_ApiKey_OFFSET_FOR_LEADER_EPOCH n21, Sta.start ev_w_ApiKey_METADATA (Or.inr ⟨(hw _ wd2), (hw _ wd20)⟩), Exa.start ev_w_ApiKey_METADATA n29, Sta.start ev_w_ApiKey_API_VERSIONS (Or.inr ⟨(hw _ wd2), (hw _ wd22)⟩), Exa.start ev_w_ApiKey_API_VERSIONS n33, eqI ev_w_ApiKey_PRODUCE n9, eqI ev_w_ApiKey_FETCH n13, eqI ev_w_ApiKey_LIST_OFFSETS n17, eqI ev_w_ApiKey_LIST_OFFSETS n19, eqI ev_w_ApiKey_OFFSET_FOR_LEADER_EPOCH n23, eqI ev_w_ApiKey_OFFSET_FOR_LEADER_EPOCH n25, eqI ev_w_ApiKey_FETCH n27, eqI ev_w_ApiKey_METADATA n31, eqI ev_w_ApiKey_API_VERSIONS n35, eqI ev_w_ApiKey_API_VERSIONS n37, eqI ev_w_ApiKey_PRODUCE n39, eqI ev_w_ApiKey_METADATA n40⟩
  have B : Bg s _ w_ApiKey_PRODUCE w_ApiKey_FETCH w_ApiKey_LIST_OFFSETS w_ApiKey_OFFSET_FOR_LEADER_EPOCH w_ApiKey_METADATA w_ApiKey_API_VERSIONS := ⟨hw, W⟩
  obtain ⟨n, o, h1, h2, h3, _, L, rfl, ⟨rfl, N⟩, hq⟩ := (lawAll (l := l) B i0 i1 i2) tables_1 p e ha hc hk s m _ below hf ((Spec.applies_iff_loose hf).mp happ).1 ⟨rfl, State.Warmed39.refl s, rfl⟩ trivial
  refine ⟨n, _, h1, h2, h3, hpost _ _ _ _ _ _ ⟨Cond.after_iff.mpr rfl, Cond.after_iff.mpr (eq_i res_at (Term.int_eval (1)) rfl), trivial⟩ ⟨hq.1, hq.2.1, (hq.2.2.sift fun y hy => Or.inr (N y hy)).mono (by decide) (by decide)⟩⟩
theorem main_1_1 : Claimed_1_1 := comes_1 fun _ _ _ _ _ _ h hF => ⟨h.1, hF⟩
theorem main_1_2 : Claimed_1_2 := comes_1 fun _ _ _ _ _ _ h hF => ⟨h.2.1, hF⟩
end Jvm.Pilot.@@N@@
namespace Jvm.Pilot.@@N@@
open Jvm Jvm.ClassFile Sem Op Lib Jvm.Free Jvm.Stand Jvm.Pilot.@@N@@.Jvm.D
/-! MADE BY PROGRAM (witnessworld.py) out of the Statement's table words and the real class files: 12 classes; the members and pool entries that the words name. The judged class is class 1, her method 1. -/
namespace start1
open Jvm.ClassFile
def u (s : String) : CpInfo := .utf8 (stringToUtf16 s)
/-- a pool by its gaps: so many unusable entries, then the entry; so many at the end -/
def gap : Nat → List CpInfo → List CpInfo
  | 0, r => r
  | n + 1, r => .unusable :: gap n r
def poolList (es : List (Nat × CpInfo)) (last : Nat) : List CpInfo := es.foldr (fun e r => gap e.1 (e.2 :: r)) (gap last [])
def pool (es : List (Nat × CpInfo)) (last : Nat) : Array CpInfo := ⟨poolList es last⟩
def fileOf (pool : Array CpInfo) (this : Nat) (attrs : Array Attribute := #[]) (ms : Array MethodInfo := #[]) (fl : Nat := 33) (sup : Nat := 0) (ifs : Array Nat := #[]) (fds : Array FieldInfo := #[]) : ClassFile where
  minorVersion := 0
  majorVersion := 65
  constantPool := pool
  accessFlags := fl
  thisClass := this
  superClass := sup
  interfaces := ifs
  fields := fds
  methods := ms
  attributes := attrs
def plain (name : String) (sup : Option ClassId) : Class where
  name := name
  kind := .ordinary
  loader := none
  accessFlags := 33
  super := sup
  interfaces := #[]
  cf := none
  fields := #[]
  methods := #[]
  instanceTypes := #[]
  staticTypes := #[]
  resolved := #[]
  callSites := []
  init := .initialized
  statics := none
  mirror := none

def pool0 : Array CpInfo := pool [(5, u "<init>"), (0, u "()V"), (1, .class_ 10), (1, u "java/lang/Object")] 113

def k0m0 : Method := { name := "<init>", desc := "()V", sig := { parameters := [], returnType := none }, accessFlags := 1, code := none }
/-- java/lang/Object -/
def k0 : Class := { plain "java/lang/Object" none with
  accessFlags := 33
  interfaces := #[]
  cf := some (fileOf pool0 8 #[] #[{ accessFlags := 1, nameIndex := 5, descriptorIndex := 6, attributes := #[] }] 33 0 #[] #[])
  fields := #[]
  methods := #[k0m0]
  instanceTypes := #[]
  staticTypes := #[]
  resolved := Array.replicate 124 none
  statics := none }

def pool1 : Array CpInfo := pool [(2, .class_ 4), (1, u "java/lang/Object"), (0, u "<init>"), (0, u "()V"), (0, .integer 2147483647), (0, .fieldref 9 10), (0, .class_ 11), (0, .nameAndType 12 13), (0, u "com/example/rolling_quorum/rollingquorum/protocol/ApiKey"), (0, u "PRODUCE"), (0, u "Lcom/example/rolling_quorum/rollingquorum/protocol/ApiKey;"), (0, .fieldref 9 15), (0, .nameAndType 16 13), (0, u "FETCH"), (0, .fieldref 9 18), (0, .nameAndType 19 13), (0, u "LIST_OFFSETS"), (0, .fieldref 9 21), (0, .nameAndType 22 13), (0, u "METADATA"), (0, .fieldref 9 24), (0, .nameAndType 25 13), (0, u "API_VERSIONS"), (0, .fieldref 9 27), (0, .nameAndType 28 13), (0, u "OFFSET_FOR_LEADER_EPOCH"), (0, .methodref 9 30), (0, .nameAndType 31 32), (0, u "supports"), (0, u "(S)Z"), (0, .class_ 34), (0, u "com/example/rolling_quorum/rollingquorum/protocol/ApiKeySupportsPinLaw"), (2, u "law"), (0, u "(III)Z")] 3

def k1m0 : Method := { name := "<init>", desc := "()V", sig := { parameters := [], returnType := none }, accessFlags := 1, code := none }
def k1c1 : Code := { maxStack := 3, maxLocals := 12, code := code, exceptionTable := #[], attributes := #[] }
def k1m1 : Method := { name := "law", desc := "(III)Z", sig := { parameters := [.int, .int, .int], returnType := some .boolean }, accessFlags := 9, code := some k1c1 }
/-- com/example/rolling_quorum/rollingquorum/protocol/ApiKeySupportsPinLaw -/
def k1 : Class := { plain "com/example/rolling_quorum/rollingquorum/protocol/ApiKeySupportsPinLaw" (some 0) with
  accessFlags := 49
  interfaces := #[]
  cf := some (fileOf pool1 33 #[] #[{ accessFlags := 1, nameIndex := 5, descriptorIndex := 6, attributes := #[] }, { accessFlags := 9, nameIndex := 37, descriptorIndex := 38, attributes := #[] }] 49 2 #[] #[])
  fields := #[]
  methods := #[k1m0, k1m1]
  instanceTypes := #[]
  staticTypes := #[]
  resolved := Array.replicate 42 none
  statics := none }

def pool2 : Array CpInfo := pool [(1, .class_ 2), (0, u "java/lang/constant/Constable"), (0, .class_ 4), (0, u "java/lang/Object")] 6

/-- java/lang/constant/Constable -/
def k2 : Class := { plain "java/lang/constant/Constable" (some 0) with
  accessFlags := 1537
  interfaces := #[]
  cf := some (fileOf pool2 1 #[] #[] 1537 3 #[] #[])
  fields := #[]
  methods := #[]
  instanceTypes := #[]
  staticTypes := #[]
  resolved := Array.replicate 11 none
  statics := none }

def pool3 : Array CpInfo := pool [(1, .class_ 2), (0, u "java/lang/Comparable"), (0, .class_ 4), (0, u "java/lang/Object")] 7

/-- java/lang/Comparable -/
def k3 : Class := { plain "java/lang/Comparable" (some 0) with
  accessFlags := 1537
  interfaces := #[]
  cf := some (fileOf pool3 1 #[] #[] 1537 3 #[] #[])
  fields := #[]
  methods := #[]
  instanceTypes := #[]
  staticTypes := #[]
  resolved := Array.replicate 12 none
  statics := none }

def pool4 : Array CpInfo := pool [(1, .class_ 2), (0, u "java/io/Serializable"), (0, .class_ 4), (0, u "java/lang/Object")] 2

/-- java/io/Serializable -/
def k4 : Class := { plain "java/io/Serializable" (some 0) with
  accessFlags := 1537
  interfaces := #[]
  cf := some (fileOf pool4 1 #[] #[] 1537 3 #[] #[])
  fields := #[]
  methods := #[]
  instanceTypes := #[]
  staticTypes := #[]
  resolved := Array.replicate 7 none
  statics := none }

def pool5 : Array CpInfo := pool [(2, .class_ 4), (1, u "java/lang/Enum"), (0, u "name"), (0, u "Ljava/lang/String;"), (2, u "ordinal"), (0, u "I"), (1, .class_ 14), (1, u "java/lang/Object"), (4, u "hash"), (86, .class_ 108), (1, u "java/lang/Enum$EnumDesc"), (2, .class_ 112), (0, u "java/lang/constant/Constable"), (0, .class_ 114), (0, u "java/lang/Comparable"), (0, .class_ 116), (0, u "java/io/Serializable")] 87

/-- java/lang/Enum -/
def k5 : Class := { plain "java/lang/Enum" (some 0) with
  accessFlags := 1057
  interfaces := #[2, 3, 4]
  cf := some (fileOf pool5 2 #[.nestMembers #[106]] #[] 1057 12 #[111, 113, 115] #[{ accessFlags := 18, nameIndex := 5, descriptorIndex := 6, attributes := #[] }, { accessFlags := 18, nameIndex := 9, descriptorIndex := 10, attributes := #[] }, { accessFlags := 2, nameIndex := 19, descriptorIndex := 10, attributes := #[] }])
  fields := #[{ name := "name", type := (.object "java/lang/String"), accessFlags := 18, slot := 0, constantValue := 0 }, { name := "ordinal", type := .int, accessFlags := 18, slot := 1, constantValue := 0 }, { name := "hash", type := .int, accessFlags := 2, slot := 2, constantValue := 0 }]
  methods := #[]
  instanceTypes := #[(.object "java/lang/String"), .int, .int]
  staticTypes := #[]
  resolved := Array.replicate 204 none
  statics := none }

def pool6 : Array CpInfo := pool [(1, .class_ 2), (0, u "com/example/rolling_quorum/rollingquorum/protocol/ApiKey"), (2, u "PRODUCE"), (0, u "Lcom/example/rolling_quorum/rollingquorum/protocol/ApiKey;"), (2, u "FETCH"), (2, u "LIST_OFFSETS"), (2, u "METADATA"), (2, u "API_VERSIONS"), (2, u "OFFSET_FOR_LEADER_EPOCH"), (2, u "$VALUES"), (0, u "[Lcom/example/rolling_quorum/rollingquorum/protocol/ApiKey;"), (6, .class_ 34), (1, u "java/lang/Enum"), (8, u "id"), (0, u "S"), (0, .fieldref 1 46), (0, .nameAndType 47 44), (0, u "minVersion"), (0, .fieldref 1 49), (0, .nameAndType 50 44), (0, u "maxVersion"), (2, u "firstFlexibleVersion"), (46, u "supports"), (0, u "(S)Z")] 30

def k6c0 : Code := { maxStack := 2, maxLocals := 2, code := prog_29_method_8_code, exceptionTable := #[], attributes := #[] }
def k6m0 : Method := { name := "supports", desc := "(S)Z", sig := { parameters := [.short], returnType := some .boolean }, accessFlags := 1, code := some k6c0 }
/-- com/example/rolling_quorum/rollingquorum/protocol/ApiKey -/
def k6 : Class := { plain "com/example/rolling_quorum/rollingquorum/protocol/ApiKey" (some 5) with
  accessFlags := 16433
  interfaces := #[]
  cf := some (fileOf pool6 1 #[] #[{ accessFlags := 1, nameIndex := 100, descriptorIndex := 101, attributes := #[] }] 16433 32 #[] #[{ accessFlags := 16409, nameIndex := 5, descriptorIndex := 6, attributes := #[] }, { accessFlags := 16409, nameIndex := 9, descriptorIndex := 6, attributes := #[] }, { accessFlags := 16409, nameIndex := 12, descriptorIndex := 6, attributes := #[] }, { accessFlags := 16409, nameIndex := 15, descriptorIndex := 6, attributes := #[] }, { accessFlags := 16409, nameIndex := 18, descriptorIndex := 6, attributes := #[] }, { accessFlags := 16409, nameIndex := 21, descriptorIndex := 6, attributes := #[] }, { accessFlags := 18, nameIndex := 43, descriptorIndex := 44, attributes := #[] }, { accessFlags := 18, nameIndex := 47, descriptorIndex := 44, attributes := #[] }, { accessFlags := 18, nameIndex := 50, descriptorIndex := 44, attributes := #[] }, { accessFlags := 18, nameIndex := 53, descriptorIndex := 44, attributes := #[] }, { accessFlags := 4122, nameIndex := 24, descriptorIndex := 25, attributes := #[] }])
  fields := #[{ name := "PRODUCE", type := (.object "com/example/rolling_quorum/rollingquorum/protocol/ApiKey"), accessFlags := 16409, slot := 0, constantValue := 0 }, { name := "FETCH", type := (.object "com/example/rolling_quorum/rollingquorum/protocol/ApiKey"), accessFlags := 16409, slot := 1, constantValue := 0 }, { name := "LIST_OFFSETS", type := (.object "com/example/rolling_quorum/rollingquorum/protocol/ApiKey"), accessFlags := 16409, slot := 2, constantValue := 0 }, { name := "METADATA", type := (.object "com/example/rolling_quorum/rollingquorum/protocol/ApiKey"), accessFlags := 16409, slot := 3, constantValue := 0 }, { name := "API_VERSIONS", type := (.object "com/example/rolling_quorum/rollingquorum/protocol/ApiKey"), accessFlags := 16409, slot := 4, constantValue := 0 }, { name := "OFFSET_FOR_LEADER_EPOCH", type := (.object "com/example/rolling_quorum/rollingquorum/protocol/ApiKey"), accessFlags := 16409, slot := 5, constantValue := 0 }, { name := "id", type := .short, accessFlags := 18, slot := 3, constantValue := 0 }, { name := "minVersion", type := .short, accessFlags := 18, slot := 4, constantValue := 0 }, { name := "maxVersion", type := .short, accessFlags := 18, slot := 5, constantValue := 0 }, { name := "firstFlexibleVersion", type := .short, accessFlags := 18, slot := 6, constantValue := 0 }, { name := "$VALUES", type := (.array (.object "com/example/rolling_quorum/rollingquorum/protocol/ApiKey")), accessFlags := 4122, slot := 6, constantValue := 0 }]
  methods := #[k6m0]
  instanceTypes := #[(.object "java/lang/String"), .int, .int, .short, .short, .short, .short]
  staticTypes := #[(.object "com/example/rolling_quorum/rollingquorum/protocol/ApiKey"), (.object "com/example/rolling_quorum/rollingquorum/protocol/ApiKey"), (.object "com/example/rolling_quorum/rollingquorum/protocol/ApiKey"), (.object "com/example/rolling_quorum/rollingquorum/protocol/ApiKey"), (.object "com/example/rolling_quorum/rollingquorum/protocol/ApiKey"), (.object "com/example/rolling_quorum/rollingquorum/protocol/ApiKey"), (.array (.object "com/example/rolling_quorum/rollingquorum/protocol/ApiKey"))]
  resolved := Array.replicate 132 none
  statics := some 0 }

def pool7 : Array CpInfo := pool [(1, u "java/lang/Cloneable"), (0, .class_ 1), (0, u "java/lang/Object"), (0, .class_ 3)] 3

/-- java/lang/Cloneable -/
def k7 : Class := { plain "java/lang/Cloneable" (some 0) with
  accessFlags := 1537
  interfaces := #[]
  cf := some (fileOf pool7 2 #[] #[] 1537 4 #[] #[])
  fields := #[]
  methods := #[]
  instanceTypes := #[]
  staticTypes := #[]
  resolved := Array.replicate 8 none
  statics := none }

/-- the primitive byte -/
def k8 : Class := { plain "byte" none with kind := .primitive 'B', accessFlags := 0x411 }
/-- [B -/
def k9 : Class := { plain "[B" (some 0) with kind := .array 8 .byte, interfaces := #[7, 4], accessFlags := 1041 }

/-- the primitive int -/
def k10 : Class := { plain "int" none with kind := .primitive 'I', accessFlags := 0x411 }
/-- [I -/
def k11 : Class := { plain "[I" (some 0) with kind := .array 10 .int, interfaces := #[7, 4], accessFlags := 1041 }

def heap : Heap := #[{ cls := 6, slots := #[.ref 1, .ref 2, .ref 3, .ref 5, .ref 6, .ref 4, .null], vm := .statics 6 },
  { cls := 6, slots := #[.null, .int 0, .int 0, .int 0, .int 3, .int 7, .int 0], vm := .none },
  { cls := 6, slots := #[.null, .int 0, .int 0, .int 0, .int 4, .int 11, .int 0], vm := .none },
  { cls := 6, slots := #[.null, .int 0, .int 0, .int 0, .int 1, .int 2, .int 0], vm := .none },
  { cls := 6, slots := #[.null, .int 0, .int 0, .int 0, .int 3, .int 3, .int 0], vm := .none },
  { cls := 6, slots := #[.null, .int 0, .int 0, .int 0, .int 0, .int 4, .int 0], vm := .none },
  { cls := 6, slots := #[.null, .int 0, .int 0, .int 0, .int 0, .int 3, .int 0], vm := .none }]
def classes : Array Class := #[k0, k1, k2, k3, k4, k5, k6, k7, k8, k9, k10, k11]
def interned : List (Array UInt16 × Addr) := []
def slotsUsed : Nat := 49
def theMethod : MethodId := ⟨1, 1⟩
def args0 : Array Value := #[.int 5, .int 5, .int 5]
def aboutOver (below : List Frame) : State where
  vm := { classes := classes, interned := interned.toArray }
  heap := heap
  slotsUsed := slotsUsed
  threads := #[{ frames := .invoking theMethod args0 :: below }]
def below0 : List Frame := [.native { method := ⟨0, 0⟩, args := #[] }]
def about1 : State := aboutOver below0
def p0 : Program := .bare "" "" ""
def e0 : Env := launch0.env 0 0 0
theorem w_frames : about1.frames = Frame.invoking theMethod args0 :: below0 := rfl
set_option maxRecDepth 65536 in
theorem w_args : argsFit about1.vm theMethod args0 = true := by decide +kernel
set_option maxRecDepth 65536 in
theorem w_heap : heapFits about1 = true := by decide +kernel
set_option maxRecDepth 65536 in
theorem w_runnable : about1.curStatus? = some .runnable := by decide +kernel
set_option maxRecDepth 65536 in
theorem w_alone : about1.alone = true := by decide +kernel
set_option maxRecDepth 65536 in
theorem w_named : about1.methodNamed? x = some theMethod := by decide +kernel
set_option maxRecDepth 65536 in
theorem w_hears : about1.hears theMethod below0 = true := by decide +kernel
set_option maxRecDepth 65536 in
theorem w_ripe : about1.ripe theMethod args0 below0 = true := by decide +kernel
theorem w_running : about1.status = .running := rfl
set_option maxRecDepth 65536 in
theorem w_room : about1.hasRoom e0.platform room_1 = true :=
  launch0.hasRoom_least _ room_1 (by decide +kernel) (by decide +kernel) (by decide +kernel) (by decide +kernel) (by decide +kernel) (by decide +kernel)
theorem allAtoms_all (ts : List Jvm.Cond) (a : Array Jvm.Value) (st : Jvm.State) : (allAtoms ts).before a st = ts.all (fun c => c.before a st) := by
  induction ts with
  | nil => rfl
  | cons c t ih =>
    show (Jvm.Cond.and c (allAtoms t)).before a st = _
    rw [Jvm.Cond.before_and, ih, List.all_cons]
def words1 : List Jvm.Cond := Jvm.Cond.code x code maxLocals ret :: tables_1
/-- a 'code' word, met by the world's own term for the bytes: nothing is compared byte by byte -/
theorem code_word {y : MethodName} {bytes : ByteArray} {mx : Nat} {rt : Option FieldType} {a : Array Value} {s : State} {m : MethodId} {meth : Method} {c : Code} (h1 : s.methodNamed? y = some m) (h2 : s.vm.method? m = some meth) (h3 : meth.code = some c) (h4 : c.code = bytes)
    (h5 : (c.maxLocals == mx && c.exceptionTable.isEmpty && decide (c.maxStack ≤ mostOperands) && decide (meth.sig.returnType = rt) && !meth.locks && decide (parseMethodDescriptor y.desc = some meth.sig)) = true) : (Jvm.Cond.code y bytes mx rt).before a s = true := by
  simp only [Bool.and_eq_true, beq_iff_eq, Bool.not_eq_true', decide_eq_true_eq] at h5
  obtain ⟨⟨⟨⟨⟨g1, g2⟩, g3⟩, g4⟩, g5⟩, g6⟩ := h5
  simp [Cond.before, Cond.holds, Cond.value, h1, h2, h3, h4, g1, g2, g3, g4, g5, g6]
def isCode : Jvm.Cond → Bool
  | .code _ _ _ _ => true
  | _ => false
theorem all_split {L : List Jvm.Cond} {P : Jvm.Cond → Bool} (h1 : L.all (fun c => isCode c || P c) = true) (h2 : ∀ c ∈ L.filter isCode, P c = true) : L.all P = true := by
  refine List.all_eq_true.mpr fun c hc => ?_
  have h := List.all_eq_true.mp h1 c hc
  rcases Bool.eq_false_or_eq_true (isCode c) with hi | hi
  · exact h2 c (List.mem_filter.mpr ⟨hc, hi⟩)
  · simpa [hi] using h
set_option maxRecDepth 65536 in
theorem w_c0 : (Jvm.Cond.code x code maxLocals ret).before args0 about1 = true := code_word (m := ⟨1, 1⟩) (meth := k1m1) (c := k1c1) (by decide +kernel) rfl rfl rfl (by decide +kernel)
set_option maxRecDepth 65536 in
theorem w_c1 : (Jvm.Cond.code ({ cls := "com/example/rolling_quorum/rollingquorum/protocol/ApiKey", name := "supports", desc := "(S)Z" } : Jvm.MethodName) prog_29_method_8_code (2 : Nat) (Option.some Jvm.ClassFile.FieldType.boolean)).before args0 about1 = true := code_word (m := ⟨6, 0⟩) (meth := k6m0) (c := k6c0) (by decide +kernel) rfl rfl rfl (by decide +kernel)
def codes1 : List Jvm.Cond := [Jvm.Cond.code x code maxLocals ret, Jvm.Cond.code ({ cls := "com/example/rolling_quorum/rollingquorum/protocol/ApiKey", name := "supports", desc := "(S)Z" } : Jvm.MethodName) prog_29_method_8_code (2 : Nat) (Option.some Jvm.ClassFile.FieldType.boolean)]
set_option maxRecDepth 65536 in
theorem codes_eq : words1.filter isCode = codes1 := rfl
theorem w_codes : ∀ c ∈ words1.filter isCode, c.before args0 about1 = true := by
  rw [codes_eq]
  intro c hc
  simp only [codes1, List.mem_cons, List.not_mem_nil, or_false] at hc
  rcases hc with rfl | rfl
  · exact w_c0
  · exact w_c1
set_option maxRecDepth 65536 in
theorem w_t1 : words1.all (fun c => isCode c || c.before args0 about1) = true := by decide +kernel
theorem w_tables : (allAtoms (Jvm.Cond.code x code maxLocals ret :: tables_1)).before args0 about1 = true := by
  rw [allAtoms_all]
  show words1.all (fun c => c.before args0 about1) = true
  refine all_split ?_ w_codes
  rw [w_t1]
set_option maxRecDepth 65536 in
theorem w_case : (Jvm.Cond.and given_1 narrow_1).before args0 about1 = true := by decide +kernel
theorem w_applies : (headSpec (Jvm.Cond.code x code maxLocals ret :: tables_1) room_1).applies x e0.platform about1 = true :=
  (Spec.applies_iff w_frames).mpr ⟨w_running, w_runnable, w_alone, w_named, w_hears, w_ripe, w_room, w_tables⟩
theorem atStart : AtStart classFile x code maxLocals ret World_1 tables_1 room_1 Calls_1 rest_1 Pre_1 launch0 p0 e0 about1 theMethod args0 below0 :=
  ⟨lists_1, trivial, launch0.admits_env _ _ _, launch0.least_env, fairChoices_fair.cas, fairChoices_fair.clock, w_frames, w_args, w_heap, w_applies, trivial, trivial, w_case⟩
end start1
theorem witness_1 : WitnessClaimed_1 := ⟨start1.p0, start1.e0, start1.about1, start1.theMethod, start1.args0, start1.below0, start1.atStart⟩
end Jvm.Pilot.@@N@@
